import PyProof.Rows.All
import Wide.All
import OpenK.AllK
import Wide.FinOn
import Lean
import PySem.Challenge.RW_dw5006_01
set_option Elab.async false
set_option autoImplicit false
set_option maxRecDepth 100000
set_option linter.unusedVariables false

namespace Mine
open PySem PyProof.Rows PySem.W

inductive AV where
  | none
  | bool (b : Bool)
  | int (i : Int)
  | ref (n : Nat)

inductive AO where
  | list (xs : List AV)
  | tup (xs : List AV)
  | ro (xs : List AV)

abbrev AH := List AO
abbrev Sg := String → Option AV

def VR (ρ : List Addr) : AV → Value → Prop
  | .none, v => v = .none
  | .bool b, v => v = .bool b
  | .int i, v => ∃ t, v = .int i t
  | .ref n, v => ∃ a, ρ[n]? = some a ∧ v = .ref a

theorem VR.mono {ρ ρ' : List Addr} (hp : ρ <+: ρ') {x : AV} {v : Value} (h : VR ρ x v) : VR ρ' x v := by
  cases x with
  | ref n =>
    obtain ⟨a, ha, rfl⟩ := h
    obtain ⟨t, rfl⟩ := hp
    exact ⟨a, by rw [List.getElem?_append_left (List.getElem?_eq_some_iff.mp ha).1]; exact ha, rfl⟩
  | _ => exact h

abbrev VsR (ρ : List Addr) : List AV → List Value → Prop := Paired (VR ρ)
theorem VsR.mono {ρ ρ' : List Addr} (hp : ρ <+: ρ') {xs : List AV} {vs : List Value} (h : VsR ρ xs vs) : VsR ρ' xs vs := Paired.mono (fun _ _ => VR.mono hp) h

section Paired
variable {α β : Type} {F : α → β → Prop}
theorem pr_app {l₁ l₂ : List α} {r₁ r₂ : List β} (h : Paired F l₁ r₁) (k : Paired F l₂ r₂) : Paired F (l₁ ++ l₂) (r₁ ++ r₂) := by
  induction h with
  | nil => exact k
  | cons a _ ih => exact .cons a ih
theorem pr_get {l : List α} {r : List β} (h : Paired F l r) : ∀ {i : Nat} {x : α}, l[i]? = some x → ∃ y, r[i]? = some y ∧ F x y := by
  induction h with
  | nil => intro i x e; simp at e
  | cons a _ ih =>
    intro i x e
    cases i with
    | zero => simp at e; subst e; exact ⟨_, rfl, a⟩
    | succ i => simpa using ih (by simpa using e)
theorem pr_getr {l : List α} {r : List β} (h : Paired F l r) : ∀ {i : Nat} {y : β}, r[i]? = some y → ∃ x, l[i]? = some x ∧ F x y := by
  induction h with
  | nil => intro i x e; simp at e
  | cons a _ ih =>
    intro i x e
    cases i with
    | zero => simp at e; subst e; exact ⟨_, rfl, a⟩
    | succ i => simpa using ih (by simpa using e)
theorem pr_drop {l : List α} {r : List β} (h : Paired F l r) : ∀ n, Paired F (l.drop n) (r.drop n) := by
  induction h with
  | nil => intro n; simp; exact .nil
  | cons a t ih => intro n; cases n with
    | zero => exact .cons a t
    | succ n => simpa using ih n
theorem pr_take {l : List α} {r : List β} (h : Paired F l r) : ∀ n, Paired F (l.take n) (r.take n) := by
  induction h with
  | nil => intro n; simp; exact .nil
  | cons a t ih => intro n; cases n with
    | zero => exact .nil
    | succ n => exact .cons a (ih n)
theorem pr_rev {l : List α} {r : List β} (h : Paired F l r) : Paired F l.reverse r.reverse := by
  induction h with
  | nil => exact .nil
  | cons a _ ih => rw [List.reverse_cons, List.reverse_cons]; exact Paired.snoc ih a
theorem pr_set {l : List α} {r : List β} (h : Paired F l r) {x : α} {y : β} (hf : F x y) : ∀ n, Paired F (l.set n x) (r.set n y) := by
  induction h with
  | nil => intro n; exact .nil
  | cons a t ih => intro n; cases n with
    | zero => exact .cons hf t
    | succ n => exact .cons a (ih n)
theorem pr_erase {l : List α} {r : List β} (h : Paired F l r) : ∀ n, Paired F (l.eraseIdx n) (r.eraseIdx n) := by
  induction h with
  | nil => intro n; exact .nil
  | cons a t ih => intro n; cases n with
    | zero => exact t
    | succ n => exact .cons a (ih n)
theorem pr_mono' {G : α → β → Prop} {l : List α} {r : List β} (h : Paired F l r) (k : ∀ a b, a ∈ l → b ∈ r → F a b → G a b) : Paired G l r := by
  induction h with
  | nil => exact .nil
  | cons a t ih => exact .cons (k _ _ (by simp) (by simp) a) (ih fun a b ha hb => k a b (List.mem_cons_of_mem _ ha) (List.mem_cons_of_mem _ hb))
end Paired

abbrev tupObj (vs : Array Value) (n : Nat) : Obj := { cls := .type "tuple", dict := none, data := .seq vs n, slots := #[] }

def OR (B : Heap) (ρ : List Addr) (a : Addr) (h : Heap) : AO → Prop
  | .list xs => B.get? a = none ∧ ∃ vs n, IsL h a vs n ∧ VsR ρ xs vs.toList
  | .tup xs => B.get? a = none ∧ ∃ vs n, h.get? a = some (tupObj vs n) ∧ VsR ρ xs vs.toList
  | .ro xs => ∃ vs, h.IsList a vs ∧ VsR ρ xs vs.toList

structure HR (B : Heap) (ρ : List Addr) (H : AH) (h : Heap) : Prop where
  base : ∀ b o, B.get? b = some o → h.get? b = some o
  nodup : ρ.Nodup
  len : ρ.length = H.length
  obj : ∀ (n : Nat) (a : Addr) (o : AO), ρ[n]? = some a → H[n]? = some o → OR B ρ a h o

theorem HR.at {B : Heap} {ρ : List Addr} {H : AH} {h : Heap} (R : HR B ρ H h) {n : Nat} {o : AO} (e : H[n]? = some o) : ∃ a, ρ[n]? = some a ∧ OR B ρ a h o := by
  have hn : n < ρ.length := by rw [R.len]; exact (List.getElem?_eq_some_iff.mp e).1
  exact ⟨ρ[n], by simp [hn], R.obj n _ o (by simp [hn]) e⟩

theorem OR.seq {B : Heap} {ρ : List Addr} {a : Addr} {h : Heap} {o : AO} (x : OR B ρ a h o) : ∃ ob vs n, h.get? a = some ob ∧ ob.data = .seq vs n := by
  cases o with
  | list xs => obtain ⟨_, vs, n, e, _⟩ := x; exact ⟨_, vs, n, e, rfl⟩
  | tup xs => obtain ⟨_, vs, n, e, _⟩ := x; exact ⟨_, vs, n, e, rfl⟩
  | ro xs => obtain ⟨vs, ⟨ob, e, _, n, d⟩, _⟩ := x; exact ⟨_, vs, n, e, d⟩

theorem HR.notin {B : Heap} {ρ : List Addr} {H : AH} {h : Heap} (R : HR B ρ H h) {b : Addr} {o : Obj} (e : h.get? b = some o) (hd : ∀ vs n, o.data ≠ .seq vs n) : b ∉ ρ := by
  intro hm
  obtain ⟨n, hn, rfl⟩ := List.getElem_of_mem hm
  have hn' : n < H.length := R.len ▸ hn
  obtain ⟨ob, vs, k, e', hd'⟩ := (R.obj n ρ[n] H[n] (by simp [hn]) (by simp [hn'])).seq
  rw [e] at e'; cases e'
  exact hd _ _ hd'

theorem HR.lt {B : Heap} {ρ : List Addr} {H : AH} {h : Heap} (R : HR B ρ H h) {b : Addr} (hm : b ∈ ρ) : b < h.objs.size := by
  obtain ⟨n, hn, rfl⟩ := List.getElem_of_mem hm
  have hn' : n < H.length := R.len ▸ hn
  obtain ⟨ob, vs, k, e', hd'⟩ := (R.obj n ρ[n] H[n] (by simp [hn]) (by simp [hn'])).seq
  exact Heap.lt_size e'

structure Step (ρ : List Addr) (h : Heap) (ρ' : List Addr) (h' : Heap) : Prop where
  pre : ρ <+: ρ'
  new : ∀ b ∈ ρ', b ∈ ρ ∨ h.get? b = none
  keep : ∀ b o, h.get? b = some o → b ∉ ρ → h'.get? b = some o

theorem Step.refl (ρ : List Addr) (h : Heap) : Step ρ h ρ h := ⟨List.prefix_refl _, fun _ hb => .inl hb, fun _ _ e _ => e⟩
theorem Step.trans {ρ ρ' ρ'' : List Addr} {h h' h'' : Heap} (x : Step ρ h ρ' h') (y : Step ρ' h' ρ'' h'') : Step ρ h ρ'' h'' := by
  have new1 : ∀ b o, h.get? b = some o → b ∉ ρ → b ∉ ρ' := fun b o e hb hb' => by
    rcases x.new b hb' with q | q
    · exact hb q
    · rw [e] at q; cases q
  refine ⟨x.pre.trans y.pre, fun b hb => ?_, fun b o e hb => y.keep b o (x.keep b o e hb) (new1 b o e hb)⟩
  rcases y.new b hb with q | q
  · exact x.new b q
  · cases e : h.get? b with
    | none => exact .inr rfl
    | some o =>
      by_cases hb' : b ∈ ρ
      · exact .inl hb'
      · rw [x.keep b o e hb'] at q; cases q
theorem Step.of_keeps (ρ : List Addr) {h h' : Heap} (k : ∀ b o, h.get? b = some o → h'.get? b = some o) : Step ρ h ρ h' := ⟨List.prefix_refl _, fun _ hb => .inl hb, fun b o e _ => k b o e⟩

theorem OR.of_keeps {B : Heap} {ρ ρ' : List Addr} {a : Addr} {h h' : Heap} {o : AO} (x : OR B ρ a h o) (hp : ρ <+: ρ') (k : ∀ ob, h.get? a = some ob → h'.get? a = some ob) : OR B ρ' a h' o := by
  cases o with
  | list xs => obtain ⟨b, vs, n, e, p⟩ := x; exact ⟨b, vs, n, k _ e, p.mono hp⟩
  | tup xs => obtain ⟨b, vs, n, e, p⟩ := x; exact ⟨b, vs, n, k _ e, p.mono hp⟩
  | ro xs => obtain ⟨vs, ⟨ob, e, r⟩, p⟩ := x; exact ⟨vs, ⟨ob, k _ e, r⟩, p.mono hp⟩

theorem HR.of_keeps {B : Heap} {ρ : List Addr} {H : AH} {h h' : Heap} (R : HR B ρ H h) (k : ∀ b o, h.get? b = some o → h'.get? b = some o) : HR B ρ H h' :=
  ⟨fun b o e => k b o (R.base b o e), R.nodup, R.len, fun n a o e1 e2 => (R.obj n a o e1 e2).of_keeps (List.prefix_refl _) (k a)⟩

theorem get_none_size (h : Heap) : h.get? h.objs.size = none := by
  cases e : h.get? h.objs.size with
  | none => rfl
  | some o => exact absurd (Heap.lt_size e) (Nat.lt_irrefl _)

/-- a new abstract object at an address that was free in h, all else kept -/
theorem HR.alloc {B : Heap} {ρ : List Addr} {H : AH} {h h' : Heap} {a : Addr} {o : AO} (R : HR B ρ H h) (hn : h.get? a = none) (k : ∀ b ob, h.get? b = some ob → h'.get? b = some ob)
    (ho : OR B (ρ ++ [a]) a h' o) : HR B (ρ ++ [a]) (H ++ [o]) h' ∧ Step ρ h (ρ ++ [a]) h' := by
  have hna : a ∉ ρ := fun hm => by
    obtain ⟨n, hn', rfl⟩ := List.getElem_of_mem hm
    have hn'' : n < H.length := R.len ▸ hn'
    obtain ⟨ob, vs, k, e', hd'⟩ := (R.obj n ρ[n] H[n] (by simp [hn']) (by simp [hn''])).seq
    rw [hn] at e'; cases e'
  refine ⟨⟨fun b ob e => k b ob (R.base b ob e), ?_, by simp [R.len], fun n b ob e1 e2 => ?_⟩, List.prefix_append _ _, fun b hb => ?_, fun b ob e _ => k b ob e⟩
  · rw [List.nodup_append]; refine ⟨R.nodup, by simp, fun x hx y hy => ?_⟩
    rw [List.mem_singleton.mp hy]; rintro rfl; exact hna hx
  · by_cases hlt : n < ρ.length
    · rw [List.getElem?_append_left hlt] at e1
      rw [List.getElem?_append_left (R.len ▸ hlt)] at e2
      exact (R.obj n b ob e1 e2).of_keeps (List.prefix_append _ _) (k b)
    · have hl : n = ρ.length := by
        have := (List.getElem?_eq_some_iff.mp e1).1
        simp at this; omega
      subst hl
      simp at e1; rw [R.len] at e2; simp at e2
      subst e1; subst e2; exact ho
  · rcases List.mem_append.mp hb with q | q
    · exact .inl q
    · rw [List.mem_singleton.mp q]; exact .inr hn

theorem nodup_inj {α : Type} {l : List α} (h : l.Nodup) {i j : Nat} {a : α} (hi : l[i]? = some a) (hj : l[j]? = some a) : i = j := by
  obtain ⟨h1, e1⟩ := List.getElem?_eq_some_iff.mp hi
  obtain ⟨h2, e2⟩ := List.getElem?_eq_some_iff.mp hj
  have hp := List.pairwise_iff_getElem.mp h
  rcases Nat.lt_trichotomy i j with q | q | q
  · exact absurd (e1.trans e2.symm) (hp i j h1 h2 q)
  · exact q
  · exact absurd (e2.trans e1.symm) (hp j i h2 h1 q)

theorem base_none {B : Heap} {ρ : List Addr} {H : AH} {h : Heap} {a : Addr} (R : HR B ρ H h) (hn : h.get? a = none) : B.get? a = none := by
  cases e : B.get? a with
  | none => rfl
  | some o => rw [R.base _ _ e] at hn; cases hn

/-- the abstract object n changed in place -/
theorem HR.write {B : Heap} {ρ : List Addr} {H : AH} {h h' : Heap} {a : Addr} {n : Nat} {o₀ o : AO} (R : HR B ρ H h) (ha : ρ[n]? = some a) (_h0 : H[n]? = some o₀) (hb : B.get? a = none)
    (k : ∀ b ob, b ≠ a → h.get? b = some ob → h'.get? b = some ob) (ho : OR B ρ a h' o) : HR B ρ (H.set n o) h' ∧ Step ρ h ρ h' := by
  have hma : a ∈ ρ := List.mem_of_getElem? ha
  refine ⟨⟨fun b ob e => k b ob (by rintro rfl; rw [hb] at e; cases e) (R.base b ob e), R.nodup, by simp [R.len], fun m b ob e1 e2 => ?_⟩, List.prefix_refl _, fun b hb => .inl hb,
    fun b ob e hnb => k b ob (by rintro rfl; exact hnb hma) e⟩
  by_cases hm : m = n
  · subst hm
    rw [ha] at e1; cases e1
    rw [List.getElem?_set_self (List.getElem?_eq_some_iff.mp _h0).1] at e2; cases e2
    exact ho
  · rw [List.getElem?_set_ne (Ne.symm hm)] at e2
    have hba : b ≠ a := by
      rintro rfl
      exact hm (nodup_inj R.nodup e1 ha)
    exact (R.obj m b ob e1 e2).of_keeps (List.prefix_refl _) (k b · hba)

/-- what is known of a frame -/
structure FR (env : Env) (σ : Sg) (ρ : List Addr) (h : Heap) : Prop where
  kind : env.scope.kind = .function
  glob : env.globals = mainGlobals
  bltn : env.builtins = builtinsNs
  loc : ∃ m, h.Ns env.locals m ∧ ∀ x v, env.kindOf (Str.ofString x) = some .local → σ x = some v → ∃ cv, m (Str.ofString x) = some cv ∧ VR ρ v cv
  cel : ∀ x, (env.kindOf (Str.ofString x) = some .cell ∨ env.kindOf (Str.ofString x) = some .free) → ∃ c v₀, env.cells.lookup (Str.ofString x) = some c ∧ h.IsCell c v₀ ∧ ∀ v, σ x = some v → ∃ cv, v₀ = some cv ∧ VR ρ v cv
  inj : ∀ x y c, env.cells.lookup x = some c → env.cells.lookup y = some c → x = y
  allc : ∀ p ∈ env.cells, ∃ v, h.IsCell p.2 v

theorem FR.mono {env : Env} {σ : Sg} {ρ ρ' : List Addr} {h h' : Heap} {B : Heap} {H : AH} (F : FR env σ ρ h) (R : HR B ρ H h) (S : Step ρ h ρ' h') : FR env σ ρ' h' := by
  refine ⟨F.kind, F.glob, F.bltn, ?_, ?_, F.inj, fun p hp => ?_⟩
  · obtain ⟨m, ⟨o, es, ep, e, hd, r⟩, hm⟩ := F.loc
    refine ⟨m, ⟨o, es, ep, S.keep _ _ e (R.notin e fun vs n q => by rw [hd] at q; cases q), hd, r⟩, fun x v k s => ?_⟩
    obtain ⟨cv, h1, h2⟩ := hm x v k s
    exact ⟨cv, h1, h2.mono S.pre⟩
  · intro x k
    obtain ⟨c, v₀, h1, ⟨o, e, hd⟩, h2⟩ := F.cel x k
    refine ⟨c, v₀, h1, ⟨o, S.keep _ _ e (R.notin e fun vs n q => by rw [hd] at q; cases q), hd⟩, fun v s => ?_⟩
    obtain ⟨cv, h3, h4⟩ := h2 v s
    exact ⟨cv, h3, h4.mono S.pre⟩
  · obtain ⟨v, o, e, hd⟩ := F.allc p hp
    exact ⟨v, o, S.keep _ _ e (R.notin e fun vs n q => by rw [hd] at q; cases q), hd⟩

structure Cx where
  prog : Program
  w : World
  B : Heap
  mg : Str → Option Value
  mb : Str → Option Value

def Post {α β : Type} (c : Cx) (T : List Addr → β → α → Prop) (ρ : List Addr) (s : Shared) (v : β) (H' : AH) (Q : α → Shared → Prop) : Prop :=
  ∀ ρ' h' tk cv, Step ρ s.heap ρ' h' → HR c.B ρ' H' h' → T ρ' v cv → Q cv { s with heap := h', toks := tk }

def Sim {α β : Type} (c : Cx) (A : Around) (env : Env) (T : List Addr → β → α → Prop) (t : Sem α) (f : Sg → AH → Option (β × AH)) : Prop :=
  ∀ σ H v H' ρ (s : Shared) (Q : α → Shared → Prop) (E : Value → Shared → Prop), f σ H = some (v, H') → FR env σ ρ s.heap → HR c.B ρ H s.heap →
    Post c T ρ s v H' Q → wpAny (model c.prog c.w) A t Q E s

abbrev AE := Sg → AH → Option (AV × AH)
abbrev AB := Sg → AH → Option (Bool × AH)
abbrev AL := Sg → AH → Option (List AV × AH)

abbrev SimE (c : Cx) (A : Around) (env : Env) (e : Expr) (f : AE) : Prop := Sim c A env VR (eval e env) f
abbrev SimB (c : Cx) (A : Around) (env : Env) (e : Expr) (f : AB) : Prop := Sim c A env (fun _ b a => a = b) (isTrue e env (eval e env)) f
abbrev SimL (c : Cx) (A : Around) (env : Env) (pos : Pos) (es : List Expr) (f : AL) : Prop := Sim c A env VsR (spliced (backTo pos (starEach es env))) f

/-- an operation on values, without a frame -/
def SimO {α β γ δ : Type} (c : Cx) (A : Around) (S : List Addr → γ → δ → Prop) (T : List Addr → β → α → Prop) (t : δ → Sem α) (f : γ → AH → Option (β × AH)) : Prop :=
  ∀ x H v H' ρ (s : Shared) (cx : δ) (Q : α → Shared → Prop) (E : Value → Shared → Prop), f x H = some (v, H') → HR c.B ρ H s.heap → S ρ x cx →
    Post c T ρ s v H' Q → wpAny (model c.prog c.w) A (t cx) Q E s

def V2 (ρ : List Addr) (x : AV × AV) (v : Value × Value) : Prop := VR ρ x.1 v.1 ∧ VR ρ x.2 v.2
def V3 (ρ : List Addr) (x : AV × AV × AV) (v : Value × Value × Value) : Prop := VR ρ x.1 v.1 ∧ VR ρ x.2.1 v.2.1 ∧ VR ρ x.2.2 v.2.2

theorem Post.ret {α β : Type} {c : Cx} {T : List Addr → β → α → Prop} {ρ : List Addr} {s : Shared} {v : β} {H : AH} {Q : α → Shared → Prop} {cv : α} {tk : Nat} (P : Post c T ρ s v H Q) (R : HR c.B ρ H s.heap) (h : T ρ v cv) :
    Q cv { s with toks := tk } := P ρ s.heap tk cv (Step.refl _ _) R h
theorem Post.ret0 {α β : Type} {c : Cx} {T : List Addr → β → α → Prop} {ρ : List Addr} {s : Shared} {v : β} {H : AH} {Q : α → Shared → Prop} {cv : α} (P : Post c T ρ s v H Q) (R : HR c.B ρ H s.heap) (h : T ρ v cv) :
    Q cv s := P ρ s.heap s.toks cv (Step.refl _ _) R h

/-- go on behind a step -/
theorem Post.step {α β : Type} {c : Cx} {T : List Addr → β → α → Prop} {ρ ρ' : List Addr} {s : Shared} {v : β} {H' : AH} {Q : α → Shared → Prop} {h' : Heap} {tk : Nat} (P : Post c T ρ s v H' Q) (S : Step ρ s.heap ρ' h') :
    Post c T ρ' { s with heap := h', toks := tk } v H' Q := fun ρ'' h'' tk'' cv S' R' hv => P ρ'' h'' tk'' cv (S.trans S') R' hv

end Mine

namespace Mine
open PySem PyProof.Rows PySem.W

abbrev LIM : Nat := 1000

theorem lim_line {n : Nat} (h : n ≤ LIM) : n ≤ sizeLine := Nat.le_trans h (by decide)

def iOp (f : Int → Int → Int) (ok : Int → Int → Bool) : AV × AV → AH → Option (AV × AH)
  | (.int a, .int b), H => if ok a b = true then some (.int (f a b), H) else none
  | _, _ => none

theorem iOp_int {f : Int → Int → Int} {ok : Int → Int → Bool} {x : AV × AV} {H : AH} {r : AV × AH} (h : iOp f ok x H = some r) : ∃ a b, x = (.int a, .int b) ∧ ok a b = true ∧ r = (.int (f a b), H) := by
  obtain ⟨x, y⟩ := x
  cases x with
  | int a =>
    cases y with
    | int b =>
      simp only [iOp] at h
      split at h
      · rename_i hk; exact ⟨a, b, rfl, hk, (Option.some.inj h).symm⟩
      · cases h
    | _ => cases h
  | _ => cases h

theorem sim_iOp {c : Cx} {A : Around} {op : Operator} (f : Int → Int → Int) (ok : Int → Int → Bool)
    (base : ∀ {E : Value → Shared → Prop} {s : Shared} {a b : Int} {t u : Tok} {Q : Value → Shared → Prop}, ok a b = true → Q (.int (f a b) s.toks) { s with toks := s.toks + 1 } →
      wpAny (model c.prog c.w) A (binaryOp op (.int a t) (.int b u)) Q E s) : SimO c A V2 VR (fun p => binaryOp op p.1 p.2) (iOp f ok) := by
  rintro x H v H' ρ s ⟨cx, cy⟩ Q E h R ⟨h1, h2⟩ P
  obtain ⟨a, b, rfl, hk, e⟩ := iOp_int h
  cases e
  obtain ⟨t, rfl⟩ := h1
  obtain ⟨u, rfl⟩ := h2
  exact base hk (P.ret R ⟨_, rfl⟩)

def oSub := iOp (fun a b => a - b) (fun _ _ => true)
def oMod := iOp Int.fmod (fun _ b => decide (b ≠ 0))
def oDiv := iOp Int.fdiv (fun _ b => decide (b ≠ 0 ∧ b.natAbs < 1073741824))
def oPow := iOp (fun a b => a ^ b.toNat) (fun a b => decide (a = 2 ∧ 0 ≤ b ∧ b < 64))
def oOr := iOp Builtin.bitOr (fun _ _ => true)
def oAnd := iOp Builtin.bitAnd (fun _ _ => true)

section
variable {c : Cx} {A : Around}
theorem s_sub : SimO c A V2 VR (fun p => binaryOp .Sub p.1 p.2) oSub := sim_iOp _ _ fun _ h => AutoIntOps.sub_0 h
theorem s_mod : SimO c A V2 VR (fun p => binaryOp .Mod p.1 p.2) oMod := sim_iOp _ _ fun hk h => mod_int' (of_decide_eq_true hk) h
theorem s_div : SimO c A V2 VR (fun p => binaryOp .FloorDiv p.1 p.2) oDiv := sim_iOp _ _ fun hk h =>
  floordiv_int (of_decide_eq_true hk).1 h (Or.inl (PyProof.noPylong_small (of_decide_eq_true hk).2))
theorem s_or : SimO c A V2 VR (fun p => binaryOp .BitOr p.1 p.2) oOr := sim_iOp _ _ fun _ h => or_int h
theorem s_and : SimO c A V2 VR (fun p => binaryOp .BitAnd p.1 p.2) oAnd := sim_iOp _ _ fun _ h => and_int h
theorem s_pow : SimO c A V2 VR (fun p => binaryOp .Pow p.1 p.2) oPow := sim_iOp _ _ fun {E s a b t u Q} hk h => by
  obtain ⟨rfl, h0, h1⟩ := of_decide_eq_true hk
  by_cases hb : b = 0
  · subst hb
    exact AutoIntOps.pow_0 (by decide) (by decide) h
  · refine AutoIntOps.pow_4 h0 (by simpa using hb) (by decide) (by decide) ?_ h
    have : (((Builtin.Int.intBits 2 : Nat) : Int)) = 2 := by decide
    rw [this]
    simp only [Builtin.Int.intTooBig, decide_eq_true_eq]
    have : bitsLine = 2 ^ 27 := rfl
    omega
end

theorem alloc_list {c : Cx} {ρ : List Addr} {H : AH} {h : Heap} {xs : List AV} {vs : List Value} {n : Nat} (R : HR c.B ρ H h) (hv : VsR ρ xs vs) :
    HR c.B (ρ ++ [h.objs.size]) (H ++ [.list xs]) (h.push { cls := .type "list", data := .seq vs.toArray n }) ∧ Step ρ h (ρ ++ [h.objs.size]) (h.push { cls := .type "list", data := .seq vs.toArray n }) ∧
      VR (ρ ++ [h.objs.size]) (.ref H.length) (.ref h.objs.size) := by
  have hn := get_none_size h
  obtain ⟨R', S'⟩ := R.alloc (h' := h.push { cls := .type "list", data := .seq vs.toArray n }) (o := .list xs) hn (fun b ob e => Heap.get?_push_of_some _ e)
    ⟨base_none R hn, vs.toArray, n, Heap.get?_push_size _ rfl, by simpa using hv.mono (List.prefix_append ρ [h.objs.size])⟩
  exact ⟨R', S', ⟨_, by rw [← R.len]; simp, rfl⟩⟩
theorem alloc_tup {c : Cx} {ρ : List Addr} {H : AH} {h : Heap} {xs : List AV} {vs : List Value} {n : Nat} (R : HR c.B ρ H h) (hv : VsR ρ xs vs) :
    HR c.B (ρ ++ [h.objs.size]) (H ++ [.tup xs]) (h.push { cls := .type "tuple", data := .seq vs.toArray n }) ∧ Step ρ h (ρ ++ [h.objs.size]) (h.push { cls := .type "tuple", data := .seq vs.toArray n }) ∧
      VR (ρ ++ [h.objs.size]) (.ref H.length) (.ref h.objs.size) := by
  have hn := get_none_size h
  obtain ⟨R', S'⟩ := R.alloc (h' := h.push { cls := .type "tuple", data := .seq vs.toArray n }) (o := .tup xs) hn (fun b ob e => Heap.get?_push_of_some _ e)
    ⟨base_none R hn, vs.toArray, n, Heap.get?_push_size _ rfl, by simpa using hv.mono (List.prefix_append ρ [h.objs.size])⟩
  exact ⟨R', S', ⟨_, by rw [← R.len]; simp, rfl⟩⟩

/-- the items of a list, read-only or not -/
def lget (H : AH) : AV → Option (List AV)
  | .ref n => match H[n]? with
    | some (.list xs) => some xs
    | some (.ro xs) => some xs
    | _ => none
  | _ => none

theorem lget_spec {c : Cx} {ρ : List Addr} {H : AH} {h : Heap} {x : AV} {cx : Value} {xs : List AV} (R : HR c.B ρ H h) (hx : VR ρ x cx) (e : lget H x = some xs) :
    ∃ a vs, cx = .ref a ∧ h.IsList a vs ∧ VsR ρ xs vs.toList := by
  cases x with
  | ref n =>
    obtain ⟨a, ha, rfl⟩ := hx
    simp only [lget] at e
    split at e
    · rename_i ys hn
      cases e
      obtain ⟨_, vs, k, h1, h2⟩ := R.obj n a _ ha hn
      exact ⟨a, vs, rfl, IsL.isList h1, h2⟩
    · rename_i ys hn
      cases e
      obtain ⟨vs, h1, h2⟩ := R.obj n a _ ha hn
      exact ⟨a, vs, rfl, h1, h2⟩
    · cases e
  | _ => cases e

/-- the items of a list that may be written -/
def mget (H : AH) : AV → Option (List AV)
  | .ref n => match H[n]? with
    | some (.list xs) => some xs
    | _ => none
  | _ => none
def tget (H : AH) : AV → Option (List AV)
  | .ref n => match H[n]? with
    | some (.tup xs) => some xs
    | _ => none
  | _ => none

theorem mget_spec {c : Cx} {ρ : List Addr} {H : AH} {h : Heap} {x : AV} {cx : Value} {xs : List AV} (R : HR c.B ρ H h) (hx : VR ρ x cx) (e : mget H x = some xs) :
    ∃ n a vs k, x = .ref n ∧ ρ[n]? = some a ∧ H[n]? = some (.list xs) ∧ c.B.get? a = none ∧ cx = .ref a ∧ IsL h a vs k ∧ VsR ρ xs vs.toList := by
  cases x with
  | ref n =>
    obtain ⟨a, ha, rfl⟩ := hx
    simp only [mget] at e
    split at e
    · rename_i ys hn
      cases e
      obtain ⟨h0, vs, k, h1, h2⟩ := R.obj n a _ ha hn
      exact ⟨n, a, vs, k, rfl, ha, hn, h0, rfl, h1, h2⟩
    · cases e
  | _ => cases e
theorem tget_spec {c : Cx} {ρ : List Addr} {H : AH} {h : Heap} {x : AV} {cx : Value} {xs : List AV} (R : HR c.B ρ H h) (hx : VR ρ x cx) (e : tget H x = some xs) :
    ∃ a vs k, cx = .ref a ∧ h.get? a = some (tupObj vs k) ∧ VsR ρ xs vs.toList := by
  cases x with
  | ref n =>
    obtain ⟨a, ha, rfl⟩ := hx
    simp only [tget] at e
    split at e
    · rename_i ys hn
      cases e
      obtain ⟨h0, vs, k, h1, h2⟩ := R.obj n a _ ha hn
      exact ⟨a, vs, k, rfl, h1, h2⟩
    · cases e
  | _ => cases e

def oAdd : AV × AV → AH → Option (AV × AH)
  | (.int a, .int b), H => some (.int (a + b), H)
  | (x, y), H => match mget H x, mget H y with
    | some xs, some ys => if xs.length + ys.length ≤ LIM then some (.ref H.length, H ++ [.list (xs ++ ys)]) else none
    | _, _ => none

theorem s_add {c : Cx} {A : Around} : SimO c A V2 VR (fun p => binaryOp .Add p.1 p.2) oAdd := by
  rintro ⟨x, y⟩ H v H' ρ s ⟨cx, cy⟩ Q E h R ⟨h1, h2⟩ P
  unfold oAdd at h
  split at h
  · rename_i a b H₀ e
    cases e; cases h
    obtain ⟨t, ht⟩ := h1
    obtain ⟨u, hu⟩ := h2
    simp only at ht hu
    subst ht hu
    exact add_int (P.ret R ⟨_, rfl⟩)
  · rename_i H₀ x' y' _ e
    cases e
    split at h
    · rename_i xs ys hx hy
      split at h
      · rename_i hl
        cases h
        obtain ⟨n, a, vs, k, rfl, ha, hn, h0, q, hL, hv⟩ := mget_spec R h1 hx
        obtain ⟨n', a', vs', k', rfl, ha', hn', h0', q', hL', hv'⟩ := mget_spec R h2 hy
        simp only at q q'
        subst q q'
        have hsz : vs.size + vs'.size ≤ sizeLine := by
          have e1 := hv.length; have e2 := hv'.length
          simp only [Array.length_toList] at e1 e2
          rw [← e1, ← e2]; exact lim_line hl
        refine PySem.P.add_list hL hL' ?_ hsz
        have e3 : vs ++ vs' = (vs.toList ++ vs'.toList).toArray := by simp
        rw [e3]
        obtain ⟨R', S', V'⟩ := alloc_list (n := 0) R (pr_app hv hv')
        exact P _ _ s.toks _ S' R' V'
      · cases h
    · cases h

def oMul : AV × AV → AH → Option (AV × AH)
  | (x, .int n), H => match mget H x with
    | some [y] => if 0 ≤ n ∧ n.toNat ≤ LIM then some (.ref H.length, H ++ [.list (List.replicate n.toNat y)]) else none
    | _ => none
  | _, _ => none

theorem pr_rep {α β : Type} {F : α → β → Prop} {a : α} {b : β} (h : F a b) : ∀ n, Paired F (List.replicate n a) (List.replicate n b)
  | 0 => .nil
  | n + 1 => .cons h (pr_rep h n)

theorem s_mul {c : Cx} {A : Around} : SimO c A V2 VR (fun p => binaryOp .Mult p.1 p.2) oMul := by
  rintro ⟨x, y⟩ H v H' ρ s ⟨cx, cy⟩ Q E h R ⟨h1, h2⟩ P
  unfold oMul at h
  split at h
  · rename_i H₀ n e
    cases e
    obtain ⟨t, ht⟩ := h2
    simp only at ht; subst ht
    split at h
    · rename_i y hx
      split at h
      · rename_i hl
        cases h
        obtain ⟨m, a, vs, k, rfl, ha, hn, h0, q, hL, hv⟩ := mget_spec R h1 hx
        simp only at q; subst q
        obtain ⟨v0, hvs, hv0⟩ : ∃ v0, vs = #[v0] ∧ VR ρ y v0 := by
          obtain ⟨l⟩ := vs
          cases hv with
          | cons p q => cases q with | nil => exact ⟨_, rfl, p⟩
        subst hvs
        have hn63 : n < 2 ^ 63 := by have := hl.2; have h3 : LIM = 1000 := rfl; omega
        have hn24 : n.toNat ≤ 2 ^ 24 := Nat.le_trans hl.2 (by decide)
        have hs24 : (#[v0] : Array Value).size * n.toNat ≤ 2 ^ 24 := by simpa using hn24
        refine wpAny_binaryOp_repeat_ref (T := "list") (U := "int") (by decide) ⟨_, hL, rfl⟩ (fun s' => typeIs_int s' n t) noFill_list_mul F.fills_int_mul F.slot_int_rmul repeat_list F.slot_int_index.lookup
          (call_meets F.slot_int_rmul (typeIs_int s n t) F.entry_int_rmul (F.args_int_rmul_2 _ _) (int___rmul___int_list n t a #[v0] k)
            ⟨hL, rfl, ⟨_, hL, rfl⟩, call_meets F.slot_list_mul ⟨_, hL, rfl⟩ F.entry_list_mul (F.args_list_mul_2 _ _)
              (AutoListH.list___mul___list_int_3 a #[v0] k n t (by simp [Builtin.List.listFitsIndex]; omega) (by have h3 : LIM = 1000 := rfl; simp; omega) (by simp [Builtin.List.listTooLong, sizeLine]; omega))
              ⟨hL, ?_⟩⟩)
        have e3 : List.foldl (fun x1 x2 => x1 ++ x2) #[] (List.replicate (if (#[v0] : Array Value).isEmpty = true then 0 else n.toNat) #[v0]) = (List.replicate n.toNat v0).toArray := by
          rw [show (#[v0] : Array Value).isEmpty = false from rfl]
          simp only [Bool.false_eq_true, if_false, listMul_foldl]
          simp
        rw [e3]
        obtain ⟨R', S', V'⟩ := alloc_list (n := 0) R (pr_rep hv0 n.toNat)
        exact P _ _ s.toks _ S' R' V'
      · cases h
    · cases h
  · cases h

def intsOf : List AV → Option (List Int)
  | [] => some []
  | .int i :: r => (intsOf r).map (i :: ·)
  | _ :: _ => none

theorem ints_spec {ρ : List Addr} : ∀ {xs : List AV} {vs : List Value} {ns : List Int}, VsR ρ xs vs → intsOf xs = some ns → IntsAre vs ns := by
  intro xs vs ns h
  induction h generalizing ns with
  | nil => intro e; cases e; exact .nil
  | cons a t ih =>
    rename_i x v xs vs
    intro e
    cases x with
    | int i =>
      simp only [intsOf, Option.map_eq_some_iff] at e
      obtain ⟨r, hr, rfl⟩ := e
      obtain ⟨k, rfl⟩ := a
      exact .cons i k (ih hr)
    | _ => cases e

def oCmp (f : Int → Int → Bool) : AV × AV → AH → Option (AV × AH)
  | (.int a, .int b), H => some (.bool (f a b), H)
  | _, _ => none
theorem sim_cmp {c : Cx} {A : Around} {op : CmpOp} (f : Int → Int → Bool)
    (base : ∀ {E : Value → Shared → Prop} {s : Shared} {a b : Int} {t u : Tok} {Q : Value → Shared → Prop}, Q (.bool (f a b)) s → wpAny (model c.prog c.w) A (compareOp op (.int a t) (.int b u)) Q E s) :
    SimO c A V2 VR (fun p => compareOp op p.1 p.2) (oCmp f) := by
  rintro ⟨x, y⟩ H v H' ρ s ⟨cx, cy⟩ Q E h R ⟨h1, h2⟩ P
  unfold oCmp at h
  split at h
  · rename_i a b H₀ e
    cases e; cases h
    obtain ⟨t, ht⟩ := h1
    obtain ⟨u, hu⟩ := h2
    simp only at ht hu
    subst ht hu
    exact base (P.ret0 R rfl)
  · cases h
def oLt := oCmp fun a b => decide (a < b)
def oGt := oCmp fun a b => decide (b < a)
theorem s_lt {c : Cx} {A : Around} : SimO c A V2 VR (fun p => compareOp .Lt p.1 p.2) oLt := sim_cmp _ fun h => wpAny_lt_int h
theorem s_gt {c : Cx} {A : Around} : SimO c A V2 VR (fun p => compareOp .Gt p.1 p.2) oGt := sim_cmp _ fun h => PyProof.Rows.gt_int h

def oEq : AV × AV → AH → Option (AV × AH)
  | (.int a, .int b), H => some (.bool (decide (a = b)), H)
  | (.bool a, .bool b), H => some (.bool (a == b), H)
  | (x, y), H => match (lget H x).bind intsOf, (lget H y).bind intsOf with
    | some ns, some ms => some (.bool (decide (ns = ms)), H)
    | _, _ => none
def oNe : AV × AV → AH → Option (AV × AH)
  | (.int a, .int b), H => some (.bool (!decide (a = b)), H)
  | (.bool a, .bool b), H => some (.bool (a != b), H)
  | (x, y), H => match (lget H x).bind intsOf, (lget H y).bind intsOf with
    | some ns, some ms => some (.bool (!decide (ns = ms)), H)
    | _, _ => none

theorem toArray_toList {α : Type} (a : Array α) : a.toList.toArray = a := by cases a; rfl

theorem s_eq {c : Cx} {A : Around} (hu : A.units + 64 < cLine) : SimO c A V2 VR (fun p => compareOp .Eq p.1 p.2) oEq := by
  rintro ⟨x, y⟩ H v H' ρ s ⟨cx, cy⟩ Q E h R ⟨h1, h2⟩ P
  unfold oEq at h
  split at h
  · rename_i a b H₀ e
    cases e; cases h
    obtain ⟨t, ht⟩ := h1
    obtain ⟨u, hu⟩ := h2
    simp only at ht hu
    subst ht hu
    exact eq_int (P.ret0 R (by rfl))
  · rename_i a b H₀ e
    cases e; cases h
    simp only [VR] at h1 h2
    subst h1 h2
    exact eq_bool (P.ret0 R rfl)
  · rename_i x' y' H₀ _ _ e
    cases e
    split at h
    · rename_i ns ms hx hy
      cases h
      obtain ⟨xs, ex, ix⟩ := Option.bind_eq_some_iff.mp hx
      obtain ⟨ys, ey, iy⟩ := Option.bind_eq_some_iff.mp hy
      obtain ⟨a, vs, q, hL, hv⟩ := lget_spec R h1 ex
      obtain ⟨a', vs', q', hL', hv'⟩ := lget_spec R h2 ey
      simp only at q q'
      subst q q'
      rw [← toArray_toList vs] at hL
      rw [← toArray_toList vs'] at hL'
      exact ke_eq_ints hL hL' (ints_spec hv ix) (ints_spec hv' iy) hu (P.ret0 R rfl)
    · cases h
theorem s_ne {c : Cx} {A : Around} (hu : A.units + 64 < cLine) : SimO c A V2 VR (fun p => compareOp .NotEq p.1 p.2) oNe := by
  rintro ⟨x, y⟩ H v H' ρ s ⟨cx, cy⟩ Q E h R ⟨h1, h2⟩ P
  unfold oNe at h
  split at h
  · rename_i a b H₀ e
    cases e; cases h
    obtain ⟨t, ht⟩ := h1
    obtain ⟨u, hu⟩ := h2
    simp only at ht hu
    subst ht hu
    exact PyProof.Rows.ne_int (P.ret0 R (by rfl))
  · rename_i a b H₀ e
    cases e; cases h
    simp only [VR] at h1 h2
    subst h1 h2
    exact ne_bool (P.ret0 R rfl)
  · rename_i x' y' H₀ _ _ e
    cases e
    split at h
    · rename_i ns ms hx hy
      cases h
      obtain ⟨xs, ex, ix⟩ := Option.bind_eq_some_iff.mp hx
      obtain ⟨ys, ey, iy⟩ := Option.bind_eq_some_iff.mp hy
      obtain ⟨a, vs, q, hL, hv⟩ := lget_spec R h1 ex
      obtain ⟨a', vs', q', hL', hv'⟩ := lget_spec R h2 ey
      simp only at q q'
      subst q q'
      rw [← toArray_toList vs] at hL
      rw [← toArray_toList vs'] at hL'
      exact ke_ne_ints hL hL' (ints_spec hv ix) (ints_spec hv' iy) hu (P.ret0 R rfl)
    · cases h

def oIs : AV × AV → AH → Option (AV × AH)
  | (.none, .none), H => some (.bool true, H)
  | (.int _, .none), H => some (.bool false, H)
  | _, _ => none
theorem s_is {c : Cx} {A : Around} : SimO c A V2 VR (fun p => compareOp .Is p.1 p.2) oIs := by
  rintro ⟨x, y⟩ H v H' ρ s ⟨cx, cy⟩ Q E h R ⟨h1, h2⟩ P
  unfold oIs at h
  split at h
  · rename_i H₀ e
    cases e; cases h
    simp only [VR] at h1 h2
    subst h1 h2
    exact is_none (P.ret0 R rfl)
  · rename_i a H₀ e
    cases e; cases h
    obtain ⟨t, ht⟩ := h1
    simp only [VR] at ht h2
    subst ht h2
    exact is_none (P.ret0 R rfl)
  · cases h

def oIn : AV × AV → AH → Option (AV × AH)
  | (.int k, y), H => match (lget H y).bind intsOf with
    | some ns => some (.bool (decide (k ∈ ns)), H)
    | _ => none
  | _, _ => none

theorem any_isInt {k : Int} : ∀ {vs : List Value} {ns : List Int}, IntsAre vs ns → vs.any (isInt k) = decide (k ∈ ns) := by
  intro vs ns h
  induction h with
  | nil => rfl
  | cons i t r ih =>
    rw [List.any_cons, ih]
    have e : isInt k (Value.int i t) = decide (k = i) := by
      show (i == k) = _
      by_cases h : k = i
      · subst h; simp
      · simp [h, Ne.symm h]
    rw [e]; simp

theorem s_in {c : Cx} {A : Around} : SimO c A V2 VR (fun p => compareOp .In p.1 p.2) oIn := by
  rintro ⟨x, y⟩ H v H' ρ s ⟨cx, cy⟩ Q E h R ⟨h1, h2⟩ P
  unfold oIn at h
  split at h
  · rename_i H₀ k y' e
    cases e
    split at h
    · rename_i ns hy
      cases h
      obtain ⟨t, ht⟩ := h1
      simp only at ht; subst ht
      obtain ⟨ys, ey, iy⟩ := Option.bind_eq_some_iff.mp hy
      obtain ⟨a', vs', q', hL', hv'⟩ := lget_spec R h2 ey
      simp only at q'; subst q'
      have hI := ints_spec hv' iy
      refine SeqAt.in_listAt (isInt k) hL' (fun y hy => (eq_isInt k t hI y (by simpa using hy)).at _ _) (P.ret0 R ?_)
      rw [show vs'.any (isInt k) = vs'.toList.any (isInt k) by simp, any_isInt hI]
      rfl
    · cases h
  · cases h
end Mine

namespace Mine
open PySem PyProof.Rows PySem.W

theorem HR.toks {B : Heap} {ρ : List Addr} {H : AH} {h : Heap} (R : HR B ρ H h) : HR B ρ H h := R

section
variable {c : Cx} {A : Around} {env : Env}

/-- one value, then an operation on it -/
def c1 {β : Type} (op : AV → AH → Option (β × AH)) (f : AE) : Sg → AH → Option (β × AH) := fun σ H => (f σ H).bind fun r => op r.1 r.2
def c2 {β : Type} (op : AV × AV → AH → Option (β × AH)) (f g : AE) : Sg → AH → Option (β × AH) := fun σ H => (f σ H).bind fun r₁ => (g σ r₁.2).bind fun r₂ => op (r₁.1, r₂.1) r₂.2

theorem sim1 {α β : Type} {T : List Addr → β → α → Prop} {e : Expr} {f : AE} {t : Value → Sem α} {op : AV → AH → Option (β × AH)} {σ : Sg} {H H' : AH} {v : β} {ρ : List Addr} {s : Shared} {Q : α → Shared → Prop} {E : Value → Shared → Prop}
    (hf : SimE c A env e f) (ho : SimO c A VR T t op) (h : c1 op f σ H = some (v, H')) (F : FR env σ ρ s.heap) (R : HR c.B ρ H s.heap) (P : Post c T ρ s v H' Q) :
    wpAny (model c.prog c.w) A (eval e env) (fun a s₁ => wpAny (model c.prog c.w) A (t a) Q E s₁) E s := by
  obtain ⟨⟨a, H₁⟩, e1, e2⟩ := Option.bind_eq_some_iff.mp h
  refine hf σ H a H₁ ρ s _ E e1 F R fun ρ₁ h₁ tk₁ ca S₁ R₁ V₁ => ?_
  exact ho _ _ _ _ ρ₁ _ _ _ _ e2 R₁ V₁ (P.step S₁)

theorem sim2 {α β : Type} {T : List Addr → β → α → Prop} {l r : Expr} {f g : AE} {t : Value × Value → Sem α} {op : AV × AV → AH → Option (β × AH)} {σ : Sg} {H H' : AH} {v : β} {ρ : List Addr} {s : Shared} {Q : α → Shared → Prop} {E : Value → Shared → Prop}
    (hf : SimE c A env l f) (hg : SimE c A env r g) (ho : SimO c A V2 T t op) (h : c2 op f g σ H = some (v, H')) (F : FR env σ ρ s.heap) (R : HR c.B ρ H s.heap) (P : Post c T ρ s v H' Q) :
    wpAny (model c.prog c.w) A (eval l env) (fun a s₁ => wpAny (model c.prog c.w) A (eval r env) (fun b s₂ => wpAny (model c.prog c.w) A (t (a, b)) Q E s₂) E s₁) E s := by
  obtain ⟨⟨a, H₁⟩, e1, h'⟩ := Option.bind_eq_some_iff.mp h
  obtain ⟨⟨b, H₂⟩, e2, e3⟩ := Option.bind_eq_some_iff.mp h'
  refine hf σ H a H₁ ρ s _ E e1 F R fun ρ₁ h₁ tk₁ ca S₁ R₁ V₁ => ?_
  refine hg σ H₁ b H₂ ρ₁ _ _ E e2 (F.mono R S₁) R₁ fun ρ₂ h₂ tk₂ cb S₂ R₂ V₂ => ?_
  exact ho _ _ _ _ ρ₂ _ _ _ _ e3 R₂ ⟨V₁.mono S₂.pre, V₂⟩ ((P.step S₁).step S₂)

def eVar (x : String) : AE := fun σ H => (σ x).map fun v => (v, H)
theorem r_var {x : String} {pos : Pos} (hk : env.kindOf (Str.ofString x) = some .local ∨ env.kindOf (Str.ofString x) = some .cell ∨ env.kindOf (Str.ofString x) = some .free)
    (hd : (Str.ofString x == ("__debug__" : Str)) = false) (hc : (Str.ofString x == ("__classdict__" : Str)) = false) : SimE c A env (.Name (Str.ofString x) pos) (eVar x) := by
  intro σ H v H' ρ s Q E h F R P
  simp only [eVar, Option.map_eq_some_iff] at h
  obtain ⟨v', hv, e⟩ := h
  cases e
  rcases hk with hk | hk | hk
  · obtain ⟨m, hn, hm⟩ := F.loc
    obtain ⟨cv, h1, h2⟩ := hm x v hk hv
    exact wpAny_Name (wpAny_loadName_local F.kind hk hn h1 (P.ret0 R h2)) hd
  · obtain ⟨a, v₀, h1, h2, h3⟩ := F.cel x (.inl hk)
    obtain ⟨cv, rfl, h4⟩ := h3 v hv
    exact wpAny_Name (wpAny_loadName_cell F.kind hk h1 h2 (P.ret0 R h4)) hd
  · obtain ⟨a, v₀, h1, h2, h3⟩ := F.cel x (.inr hk)
    obtain ⟨cv, rfl, h4⟩ := h3 v hv
    exact wpAny_Name (wpAny_loadName_free F.kind hk h1 h2 (P.ret0 R h4) hc) hd

def eInt (i : Int) : AE := fun _ H => some (.int i, H)
def eBool (b : Bool) : AE := fun _ H => some (.bool b, H)
def eNone : AE := fun _ H => some (.none, H)
theorem r_int {i : Int} {k : Nat} {pos : Pos} : SimE c A env (.Constant (.int i) k pos) (eInt i) := by
  intro σ H v H' ρ s Q E h F R P
  cases h
  exact wpAny_Constant_int (P.ret R ⟨_, rfl⟩)
theorem r_bool {b : Bool} {k : Nat} {pos : Pos} : SimE c A env (.Constant (.bool b) k pos) (eBool b) := by
  intro σ H v H' ρ s Q E h F R P
  cases h
  exact wpAny_Constant_bool (P.ret0 R rfl)
theorem r_none {k : Nat} {pos : Pos} : SimE c A env (.Constant .none k pos) eNone := by
  intro σ H v H' ρ s Q E h F R P
  cases h
  exact wpAny_Constant_none (P.ret0 R rfl)

theorem r_bin {l r : Expr} {op : Operator} {pos : Pos} {f g : AE} {o : AV × AV → AH → Option (AV × AH)} (ho : SimO c A V2 VR (fun p => binaryOp op p.1 p.2) o) (hf : SimE c A env l f) (hg : SimE c A env r g) :
    SimE c A env (.BinOp l op r pos) (c2 o f g) := by
  intro σ H v H' ρ s Q E h F R P
  exact wpAny_BinOp (sim2 hf hg ho h F R P)
theorem r_cmp {l r : Expr} {op : CmpOp} {pos : Pos} {f g : AE} {o : AV × AV → AH → Option (AV × AH)} (ho : SimO c A V2 VR (fun p => compareOp op p.1 p.2) o) (hm : behindInMarks op r = false) (hf : SimE c A env l f) (hg : SimE c A env r g) :
    SimE c A env (.Compare l [op] [r] pos) (c2 o f g) := by
  intro σ H v H' ρ s Q E h F R P
  exact wpAny_Compare1 (sim2 hf hg ho h F R P) hm

/-- the bool of a test -/
def asB (f : AE) : AB := fun σ H => (f σ H).bind fun r => match r.1 with | .bool b => some (b, r.2) | _ => none
theorem r_cmpT {l r : Expr} {op : CmpOp} {pos : Pos} {f g : AE} {o : AV × AV → AH → Option (AV × AH)} (ho : SimO c A V2 VR (fun p => compareOp op p.1 p.2) o) (hm : behindInMarks op r = false) (hf : SimE c A env l f) (hg : SimE c A env r g) :
    SimB c A env (.Compare l [op] [r] pos) (asB (c2 o f g)) := by
  intro σ H v H' ρ s Q E h F R P
  obtain ⟨⟨b, H₁⟩, e1, h'⟩ := Option.bind_eq_some_iff.mp h
  dsimp only at h'
  split at h'
  · rename_i b'
    cases h'
    refine wpAny_isTrue_Compare1 (sim2 (T := VR) hf hg ho e1 F R fun ρ' h' tk cv S' R' V' => ?_) hm
    simp only [VR] at V'
    subst V'
    exact wpAny_truthy_bool (P _ _ _ _ S' R' rfl)
  · cases h'

def bNot (f : AB) : AB := fun σ H => (f σ H).map fun r => (!r.1, r.2)
theorem r_not {x : Expr} {pos : Pos} {f : AB} (hf : SimB c A env x f) : SimB c A env (.UnaryOp .Not x pos) (bNot f) := by
  intro σ H v H' ρ s Q E h F R P
  simp only [bNot, Option.map_eq_some_iff] at h
  obtain ⟨⟨b, H₁⟩, e1, e⟩ := h
  cases e
  exact wpAny_isTrue_Not (hf σ H b H₁ ρ s _ E e1 F R fun ρ' h' tk cv S' R' V' => P _ _ _ _ S' R' (by rw [V']))

def oTruth : AV → AH → Option (Bool × AH)
  | .bool b, H => some (b, H)
  | x, H => match lget H x with
    | some xs => if xs.length ≤ LIM then some (!xs.isEmpty, H) else none
    | none => none
theorem s_truth : SimO c A VR (fun _ b a => a = b) truthy oTruth := by
  rintro x H v H' ρ s cx Q E h R V P
  unfold oTruth at h
  split at h
  · cases h
    simp only [VR] at V
    subst V
    exact wpAny_truthy_bool (P.ret0 R rfl)
  · split at h
    · rename_i xs hx
      split at h
      · rename_i hl
        cases h
        obtain ⟨a, vs, rfl, hL, hv⟩ := lget_spec R V hx
        have e1 := hv.length
        simp only [Array.length_toList] at e1
        have h63 : (vs.size : Int) < 2 ^ 63 := by rw [← e1]; have h3 : LIM = 1000 := rfl; omega
        refine wpAny_truthy_list hL h63 ?_
        have e2 : vs.isEmpty = xs.isEmpty := by
          cases xs with
          | nil => simp at e1; simp [Array.isEmpty, ← e1]
          | cons a r => simp [Array.isEmpty, ← e1]
        rw [e2]
        exact P.ret R rfl
      · cases h
    · cases h

/-- the value's truth: for tests that are neither not, and, or, a comparison, an if -/
theorem r_val {e : Expr} {f : AE} (hv : ∀ (M : Model) (A : Around) (Q : Bool → Shared → Prop) (E : Value → Shared → Prop) (s : Shared), wpAny M A (eval e env) (fun v s₁ => wpAny M A (truthy v) Q E s₁) E s → wpAny M A (isTrue e env (eval e env)) Q E s)
    (hf : SimE c A env e f) : SimB c A env e (c1 oTruth f) := by
  intro σ H v H' ρ s Q E h F R P
  exact hv _ _ _ _ _ (sim1 hf s_truth h F R P)

def bOr : List AB → AB
  | [] => fun _ H => some (false, H)
  | f :: r => fun σ H => (f σ H).bind fun x => if x.1 = true then some (true, x.2) else bOr r σ x.2
def bAnd : List AB → AB
  | [] => fun _ H => some (true, H)
  | f :: r => fun σ H => (f σ H).bind fun x => if x.1 = true then bAnd r σ x.2 else some (false, x.2)

def SimAll (c : Cx) (A : Around) (env : Env) : List Expr → List AB → Prop
  | [], [] => True
  | e :: r, f :: q => SimB c A env e f ∧ SimAll c A env r q
  | _, _ => False

theorem sim_or : ∀ (es : List Expr) (fs : List AB), SimAll c A env es fs → Sim c A env (fun _ b a => a = b) (allTrue .Or es env) (bOr fs)
  | [], [], _ => by
    intro σ H v H' ρ s Q E h F R P
    cases h
    exact wpAny_allTrue_Or_nil (P.ret0 R rfl)
  | e :: r, f :: q, hs => by
    intro σ H v H' ρ s Q E h F R P
    obtain ⟨⟨b, H₁⟩, e1, h'⟩ := Option.bind_eq_some_iff.mp h
    refine wpAny_allTrue_Or_cons (hs.1 σ H b H₁ ρ s _ E e1 F R fun ρ₁ h₁ tk cv S₁ R₁ V₁ => ?_)
    subst V₁
    dsimp only at h'
    cases cv with
    | true => cases h'; exact P _ _ _ _ S₁ R₁ rfl
    | false => exact sim_or r q hs.2 σ H₁ v H' ρ₁ _ _ E h' (F.mono R S₁) R₁ (P.step S₁)
  | [], _ :: _, hs => hs.elim
  | _ :: _, [], hs => hs.elim
theorem sim_and : ∀ (es : List Expr) (fs : List AB), SimAll c A env es fs → Sim c A env (fun _ b a => a = b) (allTrue .And es env) (bAnd fs)
  | [], [], _ => by
    intro σ H v H' ρ s Q E h F R P
    cases h
    exact wpAny_allTrue_And_nil (P.ret0 R rfl)
  | e :: r, f :: q, hs => by
    intro σ H v H' ρ s Q E h F R P
    obtain ⟨⟨b, H₁⟩, e1, h'⟩ := Option.bind_eq_some_iff.mp h
    refine wpAny_allTrue_And_cons (hs.1 σ H b H₁ ρ s _ E e1 F R fun ρ₁ h₁ tk cv S₁ R₁ V₁ => ?_)
    subst V₁
    dsimp only at h'
    cases cv with
    | false => cases h'; exact P _ _ _ _ S₁ R₁ rfl
    | true => exact sim_and r q hs.2 σ H₁ v H' ρ₁ _ _ E h' (F.mono R S₁) R₁ (P.step S₁)
  | [], _ :: _, hs => hs.elim
  | _ :: _, [], hs => hs.elim
theorem r_or {es : List Expr} {fs : List AB} {pos : Pos} (hs : SimAll c A env es fs) : SimB c A env (.BoolOp .Or es pos) (bOr fs) := by
  intro σ H v H' ρ s Q E h F R P
  exact wpAny_isTrue_BoolOp (sim_or es fs hs σ H v H' ρ s Q E h F R P)
theorem r_and {es : List Expr} {fs : List AB} {pos : Pos} (hs : SimAll c A env es fs) : SimB c A env (.BoolOp .And es pos) (bAnd fs) := by
  intro σ H v H' ρ s Q E h F R P
  exact wpAny_isTrue_BoolOp (sim_and es fs hs σ H v H' ρ s Q E h F R P)

def lNil : AL := fun _ H => some ([], H)
def lCons (f : AE) (g : AL) : AL := fun σ H => (f σ H).bind fun r₁ => (g σ r₁.2).map fun r₂ => (r₁.1 :: r₂.1, r₂.2)
theorem r_nil {pos : Pos} : SimL c A env pos [] lNil := by
  intro σ H v H' ρ s Q E h F R P
  cases h
  exact args_nil (P.ret0 R .nil)
theorem r_cons {pos : Pos} {e : Expr} {r : List Expr} {f : AE} {g : AL} (he : starEach (e :: r) env = (false, eval e env) :: starEach r env) (hf : SimE c A env e f) (hg : SimL c A env pos r g) : SimL c A env pos (e :: r) (lCons f g) := by
  intro σ H v H' ρ s Q E h F R P
  obtain ⟨⟨a, H₁⟩, e1, h'⟩ := Option.bind_eq_some_iff.mp h
  simp only [Option.map_eq_some_iff] at h'
  obtain ⟨⟨l, H₂⟩, e2, e3⟩ := h'
  cases e3
  refine args_cons (hf σ H a H₁ ρ s _ E e1 F R fun ρ₁ h₁ tk₁ ca S₁ R₁ V₁ => ?_) he
  refine hg σ H₁ l H₂ ρ₁ _ _ E e2 (F.mono R S₁) R₁ fun ρ₂ h₂ tk₂ cb S₂ R₂ V₂ => ?_
  exact P _ _ _ _ (S₁.trans S₂) R₂ (.cons (V₁.mono S₂.pre) V₂)

def oList (xs : List AV) (H : AH) : Option (AV × AH) := if xs.length ≤ LIM then some (.ref H.length, H ++ [.list xs]) else none
def oTup (xs : List AV) (H : AH) : Option (AV × AH) := if xs.length ≤ LIM then some (.ref H.length, H ++ [.tup xs]) else none
def cL (o : List AV → AH → Option (AV × AH)) (g : AL) : AE := fun σ H => (g σ H).bind fun r => o r.1 r.2
theorem r_list {es : List Expr} {pos : Pos} {g : AL} (hg : SimL c A env pos es g) : SimE c A env (.List es pos) (cL oList g) := by
  intro σ H v H' ρ s Q E h F R P
  obtain ⟨⟨l, H₁⟩, e1, h'⟩ := Option.bind_eq_some_iff.mp h
  dsimp only [oList] at h'
  split at h'
  · rename_i hl
    cases h'
    refine List_ (hg σ H l H₁ ρ s _ E e1 F R fun ρ₁ h₁ tk₁ vs S₁ R₁ V₁ => ?_)
    obtain ⟨R', S', V'⟩ := alloc_list (n := 0) R₁ V₁
    refine wpAny_newObj_type (P _ _ _ _ (S₁.trans S') R' V') ?_
    show vs.toArray.size ≤ sizeLine
    rw [List.size_toArray, ← V₁.length]; exact lim_line hl
  · cases h'
theorem r_tup {es : List Expr} {k : Nat} {pos : Pos} {g : AL} (hg : SimL c A env pos es g) : SimE c A env (.Tuple es k pos) (cL oTup g) := by
  intro σ H v H' ρ s Q E h F R P
  obtain ⟨⟨l, H₁⟩, e1, h'⟩ := Option.bind_eq_some_iff.mp h
  dsimp only [oTup] at h'
  split at h'
  · rename_i hl
    cases h'
    refine Tuple_ (hg σ H l H₁ ρ s _ E e1 F R fun ρ₁ h₁ tk₁ vs S₁ R₁ V₁ => ?_)
    obtain ⟨R', S', V'⟩ := alloc_tup (n := 0) R₁ V₁
    refine wpAny_newObj_type (P _ _ _ _ (S₁.trans S') R' V') ?_
    show vs.toArray.size ≤ sizeLine
    rw [List.size_toArray, ← V₁.length]; exact lim_line hl
  · cases h'
end
end Mine

namespace Mine
open PySem PyProof.Rows PySem.W

section
variable {c : Cx} {A : Around} {env : Env}

def oNeg : AV → AH → Option (AV × AH)
  | .int i, H => some (.int (-i), H)
  | _, _ => none
theorem s_neg : SimO c A VR VR (unaryOp .USub) oNeg := by
  rintro x H v H' ρ s cx Q E h R V P
  unfold oNeg at h
  split at h
  · cases h
    obtain ⟨t, rfl⟩ := V
    exact PyProof.Rows.neg_int (P.ret R ⟨_, rfl⟩)
  · cases h
theorem r_neg {x : Expr} {pos : Pos} {f : AE} (hf : SimE c A env x f) : SimE c A env (.UnaryOp .USub x pos) (c1 oNeg f) := by
  intro σ H v H' ρ s Q E h F R P
  exact wpAny_UnaryOp (sim1 hf s_neg h F R P)

/-- an item by an int, from the end where it is negative -/
def at? (xs : List AV) (k : Int) : Option AV := if xs.length ≤ LIM then (if 0 ≤ k then xs[k.toNat]? else if -(xs.length : Int) ≤ k then xs[(k + xs.length).toNat]? else none) else none
def oIdx : AV × AV → AH → Option (AV × AH)
  | (x, .int k), H => ((lget H x).bind fun xs => at? xs k).map fun v => (v, H)
  | _, _ => none

theorem s_idx {value slice : Expr} (hs : ∀ o i, subscripted slice false o i = operate [o, i] (getItem o i)) : SimO c A V2 VR (fun p => subscriptTail value slice p.1 p.2) oIdx := by
  rintro ⟨x, y⟩ H v H' ρ s ⟨cx, cy⟩ Q E h R ⟨h1, h2⟩ P
  unfold oIdx at h
  split at h
  · rename_i H₀ x' k e
    cases e
    obtain ⟨t, ht⟩ := h2
    simp only at ht; subst ht
    simp only [Option.map_eq_some_iff] at h
    obtain ⟨v', h', e⟩ := h
    cases e
    obtain ⟨xs, hx, hv⟩ := Option.bind_eq_some_iff.mp h'
    obtain ⟨a, vs, q, hL, hvs⟩ := lget_spec R h1 hx
    simp only at q; subst q
    have e1 := hvs.length
    simp only [Array.length_toList] at e1
    have h3 : LIM = 1000 := rfl
    unfold at? at hv
    split at hv
    · rename_i hlim
      refine tail_any hL.typeIs slot_list_getitem.lookup ?_ (hs _ _)
      split at hv
      · rename_i h0
        obtain ⟨cv, hcv, hV⟩ := pr_get hvs hv
        have hlt := (List.getElem?_eq_some_iff.mp hv).1
        exact wpAny_getItem_list hL h0 (by omega) (by simpa using hcv) (P.ret0 R hV)
      · rename_i h0
        split at hv
        · rename_i h1'
          obtain ⟨cv, hcv, hV⟩ := pr_get hvs hv
          rw [e1] at hcv
          exact wpAny_getItem_list_neg hL (by omega) (by omega) (by omega) (by simpa using hcv) (P.ret0 R hV)
        · cases hv
    · cases hv
  · cases h

theorem r_idx {value slice : Expr} {pos : Pos} {f g : AE} (hs : ∀ o i, subscripted slice false o i = operate [o, i] (getItem o i)) (hf : SimE c A env value f) (hg : SimE c A env slice g) :
    SimE c A env (.Subscript value slice pos) (c2 oIdx f g) := by
  intro σ H v H' ρ s Q E h F R P
  exact Subscript_ (sim2 hf hg (s_idx (value := value) hs) h F R P)

abbrev SimP (c : Cx) (A : Around) (env : Env) (x : Option Expr) (f : AE) : Prop := Sim c A env VR (evalPart x env) f
theorem r_pnone : SimP c A env none eNone := by
  intro σ H v H' ρ s Q E h F R P
  cases h
  rw [evalPart_none]
  exact wpAny_pure (P.ret0 R rfl)
theorem r_psome {e : Expr} {f : AE} (hf : SimE c A env e f) : SimP c A env (some e) f := hf

def partOf : AV → Option (Option Nat)
  | .none => some none
  | .int i => if 0 ≤ i then some (some i.toNat) else none
  | _ => none
theorem part_spec {ρ : List Addr} {x : AV} {cv : Value} {k : Option Nat} (h : partOf x = some k) (V : VR ρ x cv) : IsPart cv (k.map (fun n : Nat => (n : Int))) := by
  cases x with
  | none => cases h; simp only [VR] at V; subst V; exact .none
  | int i =>
    simp only [partOf] at h
    split at h
    · rename_i h0
      cases h
      obtain ⟨t, rfl⟩ := V
      have : (Option.map (fun n : Nat => (n : Int)) (some i.toNat)) = some i := by simp [Int.toNat_of_nonneg h0]
      rw [this]
      exact .int i t
    · cases h
  | _ => cases h

def cut {α : Type} (xs : List α) (lo hi : Option Nat) : List α := (match hi with | some b => xs.take b | none => xs).drop (lo.getD 0)

theorem dropMin {α : Type} (ys : List α) (a n : Nat) (h : ys.length ≤ n) : ys.drop (min a n) = ys.drop a := by
  by_cases ha : a ≤ n
  · rw [show min a n = a by omega]
  · have h1 : ys.drop (min a n) = [] := List.drop_eq_nil_of_le (by omega)
    have h2 : ys.drop a = [] := List.drop_eq_nil_of_le (by omega)
    rw [h1, h2]
theorem takeMin {α : Type} (ys : List α) (b n : Nat) (h : ys.length ≤ n) : ys.take (min b n) = ys.take b := by
  by_cases hb : b ≤ n
  · rw [show min b n = b by omega]
  · have h1 : ys.take (min b n) = ys := List.take_of_length_le (by omega)
    have h2 : ys.take b = ys := List.take_of_length_le (by omega)
    rw [h1, h2]

theorem slice_cut (items : Array Value) (lo hi : Option Nat) : slicePick items (lo.map (fun n : Nat => (n : Int))) (hi.map (fun n : Nat => (n : Int))) none = (cut items.toList lo hi).toArray := by
  rw [slicePick_plain, ← List.drop_take]
  congr 1
  have hn : items.toList.length ≤ items.size := by simp
  have tk : items.toList.take items.size = items.toList := List.take_of_length_le hn
  cases hi with
  | none =>
    cases lo with
    | none => simp only [Option.map_none, Option.elim, cut, Option.getD, tk]
    | some a => simp only [Option.map_some, Option.map_none, Option.elim, clipAt_nat, cut, Option.getD, tk, dropMin _ a _ hn]
  | some b =>
    have hb : (items.toList.take b).length ≤ items.size := Nat.le_trans (List.length_take_le' _ _) hn
    cases lo with
    | none => simp only [Option.map_some, Option.map_none, Option.elim, clipAt_nat, cut, Option.getD, takeMin _ b _ hn]
    | some a => simp only [Option.map_some, Option.elim, clipAt_nat, cut, Option.getD, takeMin _ b _ hn, dropMin _ a _ hb]

theorem pr_cut {α β : Type} {F : α → β → Prop} {l : List α} {r : List β} (h : Paired F l r) (lo hi : Option Nat) : Paired F (cut l lo hi) (cut r lo hi) := by
  cases hi with
  | none => exact pr_drop h _
  | some b => exact pr_drop (pr_take h b) _

def oSlice (o l u : AV) (H : AH) : Option (AV × AH) :=
  match lget H o, partOf l, partOf u with
  | some xs, some lo, some hi => if xs.length ≤ LIM then some (.ref H.length, H ++ [.list (cut xs lo hi)]) else none
  | _, _, _ => none
def c3 (op : AV → AV → AV → AH → Option (AV × AH)) (f g k : AE) : AE := fun σ H => (f σ H).bind fun r₁ => (g σ r₁.2).bind fun r₂ => (k σ r₂.2).bind fun r₃ => op r₁.1 r₂.1 r₃.1 r₃.2

theorem push_keeps (h : Heap) (o : Obj) : ∀ b ob, h.get? b = some ob → (h.push o).get? b = some ob := fun _ _ e => Heap.get?_push_of_some _ e

theorem r_slice {value : Expr} {lower upper : Option Expr} {p pos : Pos} {f g k : AE} (ht : ∀ o r, letTemporaryGo value o r = pure ()) (hf : SimE c A env value f) (hg : SimP c A env lower g) (hk : SimP c A env upper k) :
    SimE c A env (.Subscript value (.Slice lower upper none p) pos) (c3 oSlice f g k) := by
  intro σ H v H' ρ s Q E h F R P
  obtain ⟨⟨o, H₁⟩, e1, h⟩ := Option.bind_eq_some_iff.mp h
  obtain ⟨⟨l, H₂⟩, e2, h⟩ := Option.bind_eq_some_iff.mp h
  obtain ⟨⟨u, H₃⟩, e3, h⟩ := Option.bind_eq_some_iff.mp h
  dsimp only [oSlice] at e2 e3 h
  split at h
  · rename_i xs lo hi hx hlo hhi
    split at h
    · rename_i hlim
      cases h
      refine wpAny_Subscript_list_slice (hf σ H o H₁ ρ s _ E e1 F R fun ρ₁ h₁ tk₁ ca S₁ R₁ V₁ => ?_) ht
      have F₁ := F.mono R S₁
      refine hg σ H₁ l H₂ ρ₁ _ _ E e2 F₁ R₁ fun ρ₂ h₂ tk₂ cb S₂ R₂ V₂ => ?_
      have F₂ := F₁.mono R₁ S₂
      refine hk σ H₂ u H₃ ρ₂ _ _ E e3 F₂ R₂ fun ρ₃ h₃ tk₃ cc S₃ R₃ V₃ => ?_
      have S : Step ρ s.heap ρ₃ h₃ := (S₁.trans S₂).trans S₃
      obtain ⟨a, vs, rfl, hL, hv⟩ := lget_spec R₃ (V₁.mono (S₂.pre.trans S₃.pre)) hx
      have e4 := hv.length
      simp only [Array.length_toList] at e4
      refine ⟨a, vs, _, _, rfl, hL, by rw [← e4]; exact lim_line hlim, part_spec hlo (V₂.mono S₃.pre), part_spec hhi V₃, ?_⟩
      rw [slice_cut]
      have R₄ := R₃.of_keeps (push_keeps h₃ { cls := .type "slice", data := .fields #[cb, cc, .none] })
      have S₄ : Step ρ₃ h₃ ρ₃ (h₃.push { cls := .type "slice", data := .fields #[cb, cc, .none] }) := .of_keeps ρ₃ (push_keeps h₃ _)
      obtain ⟨R', S', V'⟩ := alloc_list (n := 0) R₄ (pr_cut hv lo hi)
      rw [Heap.size_push] at R' S' V'
      exact P _ _ _ _ ((S.trans S₄).trans S') R' V'
    · cases h
  · cases h

def oRev : AV × AV → AH → Option (AV × AH)
  | (o, .int (-1)), H => match lget H o with
    | some xs => if xs.length ≤ LIM then some (.ref H.length, H ++ [.list xs.reverse]) else none
    | none => none
  | _, _ => none

theorem r_rev {value st : Expr} {p pos : Pos} {f k : AE} (ht : ∀ o r, letTemporaryGo value o r = pure ()) (hf : SimE c A env value f) (hk : SimE c A env st k) :
    SimE c A env (.Subscript value (.Slice none none (some st) p) pos) (c2 oRev f k) := by
  intro σ H v H' ρ s Q E h F R P
  obtain ⟨⟨o, H₁⟩, e1, h⟩ := Option.bind_eq_some_iff.mp h
  obtain ⟨⟨u, H₂⟩, e2, h⟩ := Option.bind_eq_some_iff.mp h
  dsimp only [oRev] at e2 h
  split at h
  · rename_i H₀ o' e
    cases e
    split at h
    · rename_i xs hx
      split at h
      · rename_i hlim
        cases h
        refine wpAny_Subscript_Slice_step (T := "list") list_getitem_lookup (hf σ H o H₁ ρ s _ E e1 F R fun ρ₁ h₁ tk₁ ca S₁ R₁ V₁ => ?_) ht
        have F₁ := F.mono R S₁
        refine wpAny_Slice ?_
        rw [evalPart_none]
        refine wpAny_pure (wpAny_pure ?_)
        refine hk σ H₁ _ _ ρ₁ _ _ E e2 F₁ R₁ fun ρ₂ h₂ tk₂ cb S₂ R₂ V₂ => ?_
        obtain ⟨a, vs, rfl, hL, hv⟩ := lget_spec R₂ (V₁.mono S₂.pre) hx
        obtain ⟨t, rfl⟩ := V₂
        have e4 := hv.length
        simp only [Array.length_toList] at e4
        have hL' := hL.push { cls := .type "slice", data := .fields #[Value.none, Value.none, Value.int (-1) t] }
        refine ⟨hL'.typeIs, wpAny_getItem_list_slice hL' (Heap.IsSliceOf.new ..) .none .none (.int (-1) t) (by decide) ?_ (by rw [← e4]; exact lim_line hlim)⟩
        rw [krv_pick]
        have R₄ := R₂.of_keeps (push_keeps h₂ { cls := .type "slice", data := .fields #[Value.none, Value.none, Value.int (-1) t] })
        have S₄ : Step ρ₂ h₂ ρ₂ (h₂.push { cls := .type "slice", data := .fields #[Value.none, Value.none, Value.int (-1) t] }) := .of_keeps ρ₂ (push_keeps h₂ _)
        obtain ⟨R', S', V'⟩ := alloc_list (n := 0) R₄ (pr_rev hv)
        exact P _ _ _ _ (((S₁.trans S₂).trans S₄).trans S') R' V'
      · cases h
    · cases h
  · cases h
end
end Mine

namespace Mine
open PySem PyProof.Rows PySem.W

structure Glo (c : Cx) : Prop where
  g : c.B.Ns mainGlobals c.mg
  b : c.B.Ns builtinsNs c.mb
  lim : c.B.NoLimit
  bv : ∀ x : Str, x ≠ ("__name__" : Str) → c.mb x = bootBuiltins x
  nob : ∀ x ∈ (["len", "list", "sum", "sorted", "range", "RuntimeError"] : List String), c.mg (Str.ofString x) = none

section
variable {c : Cx} {A : Around} {env : Env}

theorem glob_name {fn : String} {v : Value} {p1 : Pos} {σ : Sg} {ρ : List Addr} {H : AH} {s : Shared} {Q : Value → Shared → Prop} {E : Value → Shared → Prop} (G : Glo c) (F : FR env σ ρ s.heap) (R : HR c.B ρ H s.heap)
    (hx : env.kindOf (Str.ofString fn) = some .globalImplicit) (hn : fn ∈ (["len", "list", "sum", "sorted", "range", "RuntimeError"] : List String)) (hb : bootBuiltins (Str.ofString fn) = some v)
    (hm : Str.ofString fn ≠ ("__name__" : Str)) (hd : (Str.ofString fn == ("__debug__" : Str)) = false) (h : Q v s) : wpAny (model c.prog c.w) A (eval (.Name (Str.ofString fn) p1) env) Q E s :=
  Calls.Name_function_global F.kind hx (Calls.loadGlobal_builtin (by rw [F.glob]; exact G.g.keeps R.base) (G.nob fn hn) (by rw [F.bltn]; exact G.b.keeps R.base) ((G.bv _ hm).trans hb) h) hd

theorem eval_CallN (x : Str) (p1 : Pos) (args : List Expr) (pos : Pos) (env : Env) : eval (.Call (.Name x p1) args [] pos) env = (do
    callWith pos (← eval (.Name x p1) env) [] (backTo pos (starEach args env)) []) := rfl

/-- the name of a built-in function or type -/
structure BName (env : Env) (fn : String) (v : Value) : Prop where
  kind : env.kindOf (Str.ofString fn) = some .globalImplicit
  mem : fn ∈ (["len", "list", "sum", "sorted", "range", "RuntimeError"] : List String)
  boot : bootBuiltins (Str.ofString fn) = some v
  nn : Str.ofString fn ≠ ("__name__" : Str)
  nd : (Str.ofString fn == ("__debug__" : Str)) = false

theorem r_callB {fn id : String} {e : Expr} {r : List Expr} {p1 pos : Pos} {g : AL} {o : List AV → AH → Option (AV × AH)} (G : Glo c) (hN : BName env fn (.builtin id))
    (he : starEach (e :: r) env = (false, eval e env) :: starEach r env) (hp : (backTo pos (starEach r env)).any (·.1) = false)
    (ho : SimO c A VsR VR (fun vs => call (.builtin id) vs) o) (hg : SimL c A env pos (e :: r) g) : SimE c A env (.Call (.Name (Str.ofString fn) p1) (e :: r) [] pos) (cL o g) := by
  intro σ H v H' ρ s Q E h F R P
  obtain ⟨⟨l, H₁⟩, e1, h'⟩ := Option.bind_eq_some_iff.mp h
  rw [eval_CallN]
  refine wpAny_bind (glob_name G F R hN.kind hN.mem hN.boot hN.nn hN.nd ?_)
  refine PyProof.Rows.callWith_builtin1 ?_ he hp
  refine hg σ H l H₁ ρ s _ E e1 F R fun ρ₁ h₁ tk₁ vs S₁ R₁ V₁ => ?_
  exact ho _ _ _ _ _ _ _ _ _ h' R₁ V₁ (P.step S₁)
theorem r_callT {fn T : String} {e : Expr} {r : List Expr} {p1 pos : Pos} {g : AL} {o : List AV → AH → Option (AV × AH)} (G : Glo c) (hN : BName env fn (.type T))
    (he : starEach (e :: r) env = (false, eval e env) :: starEach r env) (hp : (backTo pos (starEach r env)).any (·.1) = false)
    (ho : SimO c A VsR VR (fun vs => call (.type T) vs) o) (hg : SimL c A env pos (e :: r) g) : SimE c A env (.Call (.Name (Str.ofString fn) p1) (e :: r) [] pos) (cL o g) := by
  intro σ H v H' ρ s Q E h F R P
  obtain ⟨⟨l, H₁⟩, e1, h'⟩ := Option.bind_eq_some_iff.mp h
  rw [eval_CallN]
  refine wpAny_bind (glob_name G F R hN.kind hN.mem hN.boot hN.nn hN.nd ?_)
  refine PyProof.Rows.callWith_type1 ?_ he hp
  refine hg σ H l H₁ ρ s _ E e1 F R fun ρ₁ h₁ tk₁ vs S₁ R₁ V₁ => ?_
  exact ho _ _ _ _ _ _ _ _ _ h' R₁ V₁ (P.step S₁)

/-- the one argument -/
theorem one_arg {ρ : List Addr} {x : AV} {cx : List Value} (V : VsR ρ [x] cx) : ∃ cv, cx = [cv] ∧ VR ρ x cv := by
  cases V with
  | cons p q => cases q with | nil => exact ⟨_, rfl, p⟩

def oLen : List AV → AH → Option (AV × AH)
  | [x], H => match lget H x with
    | some xs => if xs.length ≤ LIM then some (.int xs.length, H) else none
    | none => none
  | _, _ => none
theorem s_len : SimO c A VsR VR (fun vs => call (.builtin "len") vs) oLen := by
  rintro x H v H' ρ s cx Q E h R V P
  unfold oLen at h
  split at h
  · rename_i x
    obtain ⟨cv, rfl, V'⟩ := one_arg V
    split at h
    · rename_i xs hx
      split at h
      · rename_i hl
        cases h
        obtain ⟨a, vs, rfl, hL, hv⟩ := lget_spec R V' hx
        have e1 := hv.length
        simp only [Array.length_toList] at e1
        refine PySem.Calls.call_len_list hL (by rw [← e1]; have h3 : LIM = 1000 := rfl; omega) ?_
        rw [← e1]
        first
          | exact P.ret R ⟨_, rfl⟩
          | exact P.ret0 R ⟨_, rfl⟩
      · cases h
    · cases h
  · cases h

def oCopy : List AV → AH → Option (AV × AH)
  | [x], H => match lget H x with
    | some xs => if xs.length ≤ LIM then some (.ref H.length, H ++ [.list xs]) else none
    | none => none
  | _, _ => none
theorem s_copy : SimO c A VsR VR (fun vs => call (.type "list") vs) oCopy := by
  rintro x H v H' ρ s cx Q E h R V P
  unfold oCopy at h
  split at h
  · rename_i x
    obtain ⟨cv, rfl, V'⟩ := one_arg V
    split at h
    · rename_i xs hx
      split at h
      · rename_i hl
        cases h
        obtain ⟨a, vs, rfl, hL, hv⟩ := lget_spec R V' hx
        have e1 := hv.length
        simp only [Array.length_toList] at e1
        obtain ⟨ob, ho, hc, n, hd⟩ := hL
        refine call_list_seq a (.inl rfl) ho hc hd (fun h' c' k hS => ?_) (by rw [← e1]; exact lim_line hl)
        have hn := get_none_size s.heap
        obtain ⟨R', S'⟩ := R.alloc (h' := h') (o := .list xs) hn k ⟨base_none R hn, vs, c', hS, hv.mono (List.prefix_append ρ [s.heap.objs.size])⟩
        exact P _ _ s.toks _ S' R' ⟨_, by rw [← R.len]; simp, rfl⟩
      · cases h
    · cases h
  · cases h

/-- an array of ints adds up to the sum of what they are -/
theorem preSum_ints {vs : List Value} {ns : List Int} {xs : Array (Int × Tok)} (hi : IntsAre vs ns) (hx : vs = (intItems xs).toList) : preSum (numAt xs) xs.size = ns.sum := by
  have key : xs.toList.map (·.1) = ns := by
    rw [← nums_intItems xs, ← hx, hi.numsOf]
  rw [preSum_eq, key, List.take_of_length_le]
  rw [← key]; simp

theorem sum_ints_any {l : Addr} {vs : Array Value} {ns : List Int} {s : Shared} {Q : Value → Shared → Prop} {E : Value → Shared → Prop} (hh : A.handled = none) (hl : s.heap.IsList l vs) (hi : IntsAre vs.toList ns)
    (h : ∀ h' tk t', (∀ b o, s.heap.get? b = some o → h'.get? b = some o) → Q (.int ns.sum t') { s with heap := h', toks := tk }) :
    wpAny (model c.prog c.w) A (call (.builtin "sum") [.ref l]) Q E s := by
  obtain ⟨xs, hx⟩ := hi.allInts.items
  have hvs : vs = intItems xs := hx.symm ▸ rfl
  rw [hvs] at hl hi
  have total := preSum_ints hi rfl
  obtain ⟨ol, hol, _⟩ := id hl
  have lts : l < s.heap.objs.size := Heap.lt_size hol
  have walk := (Walks.list (prog := c.prog) (w := c.w) (A := A.in1) hh s.heap.objs.size l (Nat.ne_of_lt lts) (intItems xs)).toS
  rw [show (intItems xs).size = xs.size by simp [intItems]] at walk
  refine call_sum_walkAnyS (wpAny_pyIter_list hl ⟨s.heap.objs.size, _, _, _, _, _, _, numAt xs, rfl, walk, ⟨⟨_, Heap.get?_push_size _ rfl, rfl, rfl⟩, hl.at fun _ => Heap.get?_push_of_some _⟩, ?_, fun i v => intItems_at, ?_⟩)
  · intro b hb
    simp only [List.mem_cons, List.not_mem_nil, or_false] at hb
    rcases hb with e | e
    · rw [e]; exact Heap.lt_size (Heap.get?_push_size s.heap rfl)
    · rw [e]; exact Heap.lt_size (Heap.get?_push_of_some _ hol)
  · intro s' t' hm
    have keep : ∀ b o, s.heap.get? b = some o → s'.heap.get? b = some o := fun b o e => by
      refine hm.heap b o ?_ (Heap.get?_push_of_some _ e)
      intro hb
      have hlt := Heap.lt_size e
      rw [List.mem_singleton.mp hb] at hlt
      exact Nat.lt_irrefl _ hlt
    have same : s' = { s with heap := s'.heap, toks := s'.toks } := by
      have e1 := hm.gens
      have e2 := hm.drawn
      have e3 := hm.os
      cases s'
      simp_all
    rw [total, same]
    exact h _ _ t' keep

def oSum : List AV → AH → Option (AV × AH)
  | [x], H => match (lget H x).bind intsOf with
    | some ns => some (.int ns.sum, H)
    | none => none
  | _, _ => none
theorem s_sum (hh : A.handled = none) : SimO c A VsR VR (fun vs => call (.builtin "sum") vs) oSum := by
  rintro x H v H' ρ s cx Q E h R V P
  unfold oSum at h
  split at h
  · rename_i x
    obtain ⟨cv, rfl, V'⟩ := one_arg V
    split at h
    · rename_i ns hx
      cases h
      obtain ⟨xs, ex, ix⟩ := Option.bind_eq_some_iff.mp hx
      obtain ⟨a, vs, rfl, hL, hv⟩ := lget_spec R V' ex
      exact sum_ints_any hh hL (ints_spec hv ix) fun h' tk t' k => P _ _ _ _ (.of_keeps ρ k) (R.of_keeps k) ⟨_, rfl⟩
    · cases h
  · cases h

def insI (a : Int) : List Int → List Int
  | [] => [a]
  | b :: r => if a ≤ b then a :: b :: r else b :: insI a r
def isort : List Int → List Int
  | [] => []
  | a :: r => insI a (isort r)
theorem insI_perm (a : Int) : ∀ l, (insI a l).Perm (a :: l)
  | [] => List.Perm.refl _
  | b :: r => by
    unfold insI
    split
    · exact List.Perm.refl _
    · exact ((insI_perm a r).cons b).trans (List.Perm.swap a b r)
theorem isort_perm : ∀ l, (isort l).Perm l
  | [] => List.Perm.refl _
  | a :: r => (insI_perm a _).trans ((isort_perm r).cons a)
theorem insI_sorted (a : Int) : ∀ l : List Int, l.Pairwise (· ≤ ·) → (insI a l).Pairwise (· ≤ ·)
  | [], _ => by simp [insI]
  | b :: r, h => by
    have hb := (List.pairwise_cons.mp h)
    unfold insI
    split
    · rename_i hab
      refine List.pairwise_cons.mpr ⟨fun x hx => ?_, h⟩
      rcases List.mem_cons.mp hx with rfl | hx
      · exact hab
      · have := hb.1 x hx; omega
    · rename_i hab
      refine List.pairwise_cons.mpr ⟨fun x hx => ?_, insI_sorted a r hb.2⟩
      rcases List.mem_cons.mp ((insI_perm a r).mem_iff.mp hx) with rfl | hx
      · omega
      · exact hb.1 x hx
theorem isort_sorted : ∀ l, (isort l).Pairwise (· ≤ ·)
  | [] => List.Pairwise.nil
  | a :: r => insI_sorted a _ (isort_sorted r)
theorem sorted_unique : ∀ {l m : List Int}, l.Perm m → l.Pairwise (· ≤ ·) → m.Pairwise (· ≤ ·) → l = m
  | [], m, p, _, _ => (List.nil_perm.mp p).symm
  | a :: l, [], p, _, _ => absurd p.length_eq (by simp)
  | a :: l, b :: m, p, h1, h2 => by
    have h1' := List.pairwise_cons.mp h1
    have h2' := List.pairwise_cons.mp h2
    have hab : a = b := by
      have ha : a ∈ b :: m := p.mem_iff.mp (by simp)
      have hb : b ∈ a :: l := p.mem_iff.mpr (by simp)
      rcases List.mem_cons.mp ha with rfl | ha
      · rfl
      · rcases List.mem_cons.mp hb with rfl | hb
        · rfl
        · have := h2'.1 a ha; have := h1'.1 b hb; omega
    subst hab
    rw [sorted_unique (List.Perm.cons_inv p) h1'.2 h2'.2]

def avInts (ns : List Int) : List AV := ns.map AV.int
theorem avInts_spec {ρ : List Addr} {vs : List Value} {ns : List Int} (h : IntsAre vs ns) : VsR ρ (avInts ns) vs := by
  induction h with
  | nil => exact .nil
  | cons i t _ ih => exact .cons ⟨t, rfl⟩ ih

def oSorted : List AV → AH → Option (AV × AH)
  | [x], H => match (lget H x).bind intsOf with
    | some ns => if ns.length < 64 then some (.ref H.length, H ++ [.list (avInts (isort ns))]) else none
    | none => none
  | _, _ => none
theorem s_sorted : SimO c A VsR VR (fun vs => call (.builtin "sorted") vs) oSorted := by
  rintro x H v H' ρ s cx Q E h R V P
  unfold oSorted at h
  split at h
  · rename_i x
    obtain ⟨cv, rfl, V'⟩ := one_arg V
    split at h
    · rename_i ns hx
      split at h
      · rename_i hl
        cases h
        obtain ⟨xs, ex, ix⟩ := Option.bind_eq_some_iff.mp hx
        obtain ⟨a, vs, rfl, hL, hv⟩ := lget_spec R V' ex
        have hI := ints_spec hv ix
        rw [← toArray_toList vs] at hL
        refine sorted_ints hL hI (by rw [hI.length]; exact hl) fun out ns' a1 a2 a3 => ?_
        have e1 : ns' = isort ns := sorted_unique (a2.trans (isort_perm ns).symm) a3 (isort_sorted ns)
        subst e1
        obtain ⟨e, he⟩ := sortedAll_at s.heap vs.toList out
        have hn : s.heap.get? (s.heap.objs.size + 1) = none := by
          cases q : s.heap.get? (s.heap.objs.size + 1) with
          | none => rfl
          | some o => exact absurd (Heap.lt_size q) (Nat.not_lt.mpr (Nat.le_succ _))
        obtain ⟨R', S'⟩ := R.alloc (h' := sortedAll s.heap vs.toList out) (o := .list (avInts (isort ns))) hn (fun _ _ => sortedAll_old) ⟨base_none R hn, out, e, he, avInts_spec a1⟩
        exact P _ _ s.toks _ S' R' ⟨_, by rw [← R.len]; simp, rfl⟩
      · cases h
    · cases h
  · cases h
end
end Mine

namespace Mine
open PySem PyProof.Rows PySem.W

theorem ofString_inj {x y : String} (h : Str.ofString x = Str.ofString y) : x = y := by
  rw [Str.ofString_eq_toList, Str.ofString_eq_toList] at h
  have h1 : (x.toList.map Char.toNat).toArray = (y.toList.map Char.toNat).toArray := by injection h
  have h2 : x.toList.map Char.toNat = y.toList.map Char.toNat := by simpa using h1
  have h3 : x.toList = y.toList := by
    refine List.map_inj_right (fun a b e => ?_) |>.mp h2
    exact Char.ext (UInt32.toNat_inj.mp e)
  exact String.toList_inj.mp h3

inductive AF where
  | next
  | brk
  | cont
  | ret (v : AV)
  | exc

abbrev AS := Sg → AH → Option (AF × Sg × AH)

structure StepL (env : Env) (ρ : List Addr) (h : Heap) (ρ' : List Addr) (h' : Heap) : Prop where
  pre : ρ <+: ρ'
  new : ∀ b ∈ ρ', b ∈ ρ ∨ h.get? b = none
  keep : ∀ b o, h.get? b = some o → b ∉ ρ → b ≠ env.locals → b ∉ env.cells.map (·.2) → h'.get? b = some o

theorem Step.toL {env : Env} {ρ ρ' : List Addr} {h h' : Heap} (S : Step ρ h ρ' h') : StepL env ρ h ρ' h' := ⟨S.pre, S.new, fun b o e hb _ _ => S.keep b o e hb⟩

/-- the frame's own objects stay no list -/
theorem FR.own {env : Env} {σ : Sg} {ρ : List Addr} {h : Heap} {B : Heap} {H : AH} (F : FR env σ ρ h) (R : HR B ρ H h) : env.locals ∉ ρ := by
  obtain ⟨m, ⟨o, es, ep, e, hd, r⟩, hm⟩ := F.loc
  exact R.notin e fun vs n q => by rw [hd] at q; cases q

theorem StepL.trans {env : Env} {ρ ρ' ρ'' : List Addr} {h h' h'' : Heap} (x : StepL env ρ h ρ' h') (y : StepL env ρ' h' ρ'' h'')
    (own : ∀ b, (b = env.locals ∨ b ∈ env.cells.map (·.2)) → ∃ o, h'.get? b = some o) : StepL env ρ h ρ'' h'' := by
  have new1 : ∀ b o, h.get? b = some o → b ∉ ρ → b ∉ ρ' := fun b o e hb hb' => by
    rcases x.new b hb' with q | q
    · exact hb q
    · rw [e] at q; cases q
  refine ⟨x.pre.trans y.pre, fun b hb => ?_, fun b o e hb h1 h2 => y.keep b o (x.keep b o e hb h1 h2) (new1 b o e hb) h1 h2⟩
  rcases y.new b hb with q | q
  · exact x.new b q
  · cases e : h.get? b with
    | none => exact .inr rfl
    | some o =>
      by_cases hb' : b ∈ ρ
      · exact .inl hb'
      · by_cases h1 : b = env.locals
        · obtain ⟨o', e'⟩ := own b (.inl h1); rw [e'] at q; cases q
        · by_cases h2 : b ∈ env.cells.map (·.2)
          · obtain ⟨o', e'⟩ := own b (.inr h2); rw [e'] at q; cases q
          · rw [x.keep b o e hb' h1 h2] at q; cases q

abbrev FRc := FR
theorem FRc.toFR {env : Env} {σ : Sg} {ρ : List Addr} {h : Heap} (F : FRc env σ ρ h) : FR env σ ρ h := F
theorem FRc.there {env : Env} {σ : Sg} {ρ : List Addr} {h : Heap} (F : FRc env σ ρ h) : ∀ b, (b = env.locals ∨ b ∈ env.cells.map (·.2)) → ∃ o, h.get? b = some o := by
  rintro b (rfl | hb)
  · obtain ⟨m, ⟨o, es, ep, e, _⟩, _⟩ := F.loc; exact ⟨o, e⟩
  · obtain ⟨p, hp, rfl⟩ := List.mem_map.mp hb
    obtain ⟨v, o, e, _⟩ := F.allc p hp
    exact ⟨o, e⟩
theorem FRc.mono {env : Env} {σ : Sg} {ρ ρ' : List Addr} {h h' : Heap} {B : Heap} {H : AH} (F : FRc env σ ρ h) (R : HR B ρ H h) (S : Step ρ h ρ' h') : FRc env σ ρ' h' := FR.mono F R S

def PostS (c : Cx) (env : Env) (ρ : List Addr) (s : Shared) (σ' : Sg) (H' : AH) (fl : AF) (Q : Flow → Shared → Prop) (E : Value → Shared → Prop) : Prop :=
  ∀ ρ' h' tk, StepL env ρ s.heap ρ' h' → HR c.B ρ' H' h' → FRc env σ' ρ' h' → match fl with
    | .next => Q .next { s with heap := h', toks := tk }
    | .brk => Q .brk { s with heap := h', toks := tk }
    | .cont => Q .cont { s with heap := h', toks := tk }
    | .ret v => ∀ cv, VR ρ' v cv → Q (.ret cv) { s with heap := h', toks := tk }
    | .exc => ∀ h'' e, Heap.NewExc h' h'' e "RuntimeError" → E (.ref e) { s with heap := h'', toks := tk }

def SimT (c : Cx) (A : Around) (env : Env) (t : Sem Flow) (f : AS) : Prop :=
  ∀ σ H fl σ' H' ρ (s : Shared) (Q : Flow → Shared → Prop) (E : Value → Shared → Prop), PassesOwn (model c.prog c.w) A env E → f σ H = some (fl, σ', H') → FRc env σ ρ s.heap → HR c.B ρ H s.heap →
    PostS c env ρ s σ' H' fl Q E → wpAny (model c.prog c.w) A t Q E s
abbrev SimX (c : Cx) (A : Around) (env : Env) (st : Stmt) (f : AS) : Prop := SimT c A env (exec st env) f
abbrev SimS (c : Cx) (A : Around) (env : Env) (sts : List Stmt) (f : AS) : Prop := SimT c A env (execs sts env) f

theorem PostS.step {c : Cx} {env : Env} {ρ ρ' : List Addr} {s : Shared} {σ₁ σ' : Sg} {H' : AH} {fl : AF} {Q : Flow → Shared → Prop} {E : Value → Shared → Prop} {h' : Heap} {tk : Nat} (P : PostS c env ρ s σ' H' fl Q E)
    (S : StepL env ρ s.heap ρ' h') (F : FRc env σ₁ ρ' h') : PostS c env ρ' { s with heap := h', toks := tk } σ' H' fl Q E := fun ρ'' h'' tk'' S' R' F' =>
  P ρ'' h'' tk'' (S.trans S' F.there) R' F'

def sNil : AS := fun σ H => some (.next, σ, H)
def sSeq (f g : AS) : AS := fun σ H => (f σ H).bind fun r => match r.1 with
  | .next => g r.2.1 r.2.2
  | _ => some r

section
variable {c : Cx} {A : Around} {env : Env}

theorem x_nil : SimS c A env [] sNil := by
  intro σ H fl σ' H' ρ s Q E _ h F R P
  cases h
  exact wpAny_execs_nil (P ρ s.heap s.toks (Step.refl _ _).toL R F)

theorem x_seq {st : Stmt} {rest : List Stmt} {f g : AS} (hf : SimX c A env st f) (hg : SimS c A env rest g) : SimS c A env (st :: rest) (sSeq f g) := by
  intro σ H fl σ' H' ρ s Q E hE h F R P
  obtain ⟨⟨fl₁, σ₁, H₁⟩, e1, h'⟩ := Option.bind_eq_some_iff.mp h
  refine wpAny_execs_cons (hf σ H fl₁ σ₁ H₁ ρ s _ E hE e1 F R fun ρ₁ h₁ tk₁ S₁ R₁ F₁ => ?_)
  dsimp only at h'
  cases fl₁ with
  | next => exact hg σ₁ H₁ fl σ' H' ρ₁ _ Q E hE h' F₁ R₁ (P.step S₁ F₁)
  | brk => cases h'; exact P _ _ _ S₁ R₁ F₁
  | cont => cases h'; exact P _ _ _ S₁ R₁ F₁
  | ret v => cases h'; exact P _ _ _ S₁ R₁ F₁
  | exc => cases h'; exact P _ _ _ S₁ R₁ F₁

def sBrk : AS := fun σ H => some (.brk, σ, H)
theorem x_brk {pos : Pos} : SimX c A env (.Break pos) sBrk := by
  intro σ H fl σ' H' ρ s Q E _ h F R P
  cases h
  exact wpAny_Break (P ρ s.heap s.toks (Step.refl _ _).toL R F)

def sRet (f : AE) : AS := fun σ H => (f σ H).map fun r => (.ret r.1, σ, r.2)
theorem x_ret {e : Expr} {pos : Pos} {f : AE} (hf : SimE c A env e f) : SimX c A env (.Return (some e) pos) (sRet f) := by
  intro σ H fl σ' H' ρ s Q E _ h F R P
  simp only [sRet, Option.map_eq_some_iff] at h
  obtain ⟨⟨v, H₁⟩, e1, e2⟩ := h
  cases e2
  exact wpAny_Return_some (hf σ H v H₁ ρ s _ E e1 F.toFR R fun ρ₁ h₁ tk₁ cv S₁ R₁ V₁ => P ρ₁ h₁ tk₁ S₁.toL R₁ (F.mono R S₁) cv V₁)

def sIf (t : AB) (f g : AS) : AS := fun σ H => (t σ H).bind fun r => if r.1 = true then f σ r.2 else g σ r.2
theorem x_if {test : Expr} {body orelse : List Stmt} {pos : Pos} {t : AB} {f g : AS} (ht : SimB c A env test t) (hf : SimS c A env body f) (hg : SimS c A env orelse g) :
    SimX c A env (.If test body orelse pos) (sIf t f g) := by
  intro σ H fl σ' H' ρ s Q E hE h F R P
  obtain ⟨⟨b, H₁⟩, e1, h'⟩ := Option.bind_eq_some_iff.mp h
  refine wpAny_If (ht σ H b H₁ ρ s _ E e1 F.toFR R fun ρ₁ h₁ tk₁ cb S₁ R₁ V₁ => ?_)
  subst V₁
  have F₁ := F.mono R S₁
  dsimp only at h'
  cases cb with
  | true => exact hf σ H₁ fl σ' H' ρ₁ _ Q E hE h' F₁ R₁ (P.step S₁.toL F₁)
  | false => exact hg σ H₁ fl σ' H' ρ₁ _ Q E hE h' F₁ R₁ (P.step S₁.toL F₁)

def upd (σ : Sg) (x : String) (v : AV) : Sg := fun y => if y = x then some v else σ y

/-- a name is stored -/
theorem store_sim {x : String} {v : AV} {cv : Value} {σ : Sg} {H : AH} {ρ : List Addr} {s : Shared} {Q : Unit → Shared → Prop} {E : Value → Shared → Prop}
    (hk : env.kindOf (Str.ofString x) = some .local ∨ env.kindOf (Str.ofString x) = some .cell) (F : FRc env σ ρ s.heap) (R : HR c.B ρ H s.heap) (hnB : c.B.get? env.locals = none) (hcB : ∀ p ∈ env.cells, c.B.get? p.2 = none) (V : VR ρ v cv)
    (h : ∀ h' tk, StepL env ρ s.heap ρ h' → HR c.B ρ H h' → FRc env (upd σ x v) ρ h' → Q () { s with heap := h', toks := tk }) :
    wpAny (model c.prog c.w) A (storeName env (Str.ofString x) cv) Q E s := by
  rcases hk with hk | hk
  · obtain ⟨m, hn, hm⟩ := F.loc
    have hp : (env.scope.kind == .class || (env.scope.kind == .module && env.locals != env.globals)) = false := by rw [F.kind]; rfl
    refine wpAny_storeName_local hk hn (fun h' hn' hs => ?_) hp
    have hL := F.toFR.own R
    have keepO : ∀ b o, b ≠ env.locals → s.heap.get? b = some o → h'.get? b = some o := fun b o hb e => (hs.2 b hb).trans e
    have R' : HR c.B ρ H h' := ⟨fun b o e => keepO b o (by rintro rfl; rw [hnB] at e; cases e) (R.base b o e), R.nodup, R.len, fun n a o e1 e2 =>
      (R.obj n a o e1 e2).of_keeps (List.prefix_refl _) fun ob e => keepO a ob (by rintro rfl; exact hL (List.mem_of_getElem? e1)) e⟩
    have notC : ∀ q v₀, s.heap.IsCell q v₀ → q ≠ env.locals := fun q v₀ hc e => by
      obtain ⟨o, e1, hd⟩ := hc
      obtain ⟨o', es, ep, e2, hd', _⟩ := hn
      rw [e, e2] at e1; cases e1; rw [hd] at hd'; cases hd'
    refine h h' _ ⟨List.prefix_refl _, fun b hb => .inl hb, fun b o e _ hb _ => keepO b o hb e⟩ R' ⟨F.kind, F.glob, F.bltn, ⟨_, hn', fun y w ky sy => ?_⟩, fun y ky => ?_, F.inj, fun p hp => ?_⟩
    · by_cases hy : y = x
      · subst hy
        simp only [upd, if_true] at sy
        cases sy
        exact ⟨cv, by simp, V⟩
      · simp only [upd, if_neg hy] at sy
        have hy' : Str.ofString y ≠ Str.ofString x := fun e => hy (ofString_inj e)
        simp only [if_neg hy']
        exact hm y w ky sy
    · have hy : y ≠ x := by rintro rfl; rw [hk] at ky; rcases ky with ky | ky <;> cases ky
      obtain ⟨q, v₀, h1, h2, h3⟩ := F.cel y ky
      obtain ⟨o, e1, hd⟩ := id h2
      exact ⟨q, v₀, h1, ⟨o, keepO _ _ (notC q v₀ h2) e1, hd⟩, fun w sw => by simp only [upd, if_neg hy] at sw; exact h3 w sw⟩
    · obtain ⟨w, h2⟩ := F.allc p hp
      obtain ⟨o, e1, hd⟩ := id h2
      exact ⟨w, o, keepO _ _ (notC _ _ h2) e1, hd⟩
  · obtain ⟨q, v₀, h1, h2, h3⟩ := F.cel x (.inl hk)
    obtain ⟨oq, eq1, hdq⟩ := id h2
    have hmem : (Str.ofString x, q) ∈ env.cells := by
      clear h3 h2 hdq eq1 hk
      revert h1
      induction env.cells with
      | nil => intro e; cases e
      | cons p r ih =>
        intro e
        obtain ⟨a, b⟩ := p
        rw [List.lookup_cons] at e
        cases hb : (Str.ofString x == a) with
        | true =>
          rw [hb] at e
          cases e
          rw [← beq_iff_eq.mp hb]
          exact .head _
        | false => rw [hb] at e; exact .tail _ (ih e)
    refine wpAny_storeName_cell F.kind hk h1 h2 fun h' hc' hs => ?_
    have hqρ : q ∉ ρ := R.notin eq1 fun vs n e => by rw [hdq] at e; cases e
    have keepO : ∀ b o, b ≠ q → s.heap.get? b = some o → h'.get? b = some o := fun b o hb e => (hs.2 b hb).trans e
    have R' : HR c.B ρ H h' := ⟨fun b o e => keepO b o (by rintro rfl; have := hcB _ hmem; dsimp only at this; rw [this] at e; cases e) (R.base b o e), R.nodup, R.len, fun n a o e1 e2 =>
      (R.obj n a o e1 e2).of_keeps (List.prefix_refl _) fun ob e => keepO a ob (by rintro rfl; exact hqρ (List.mem_of_getElem? e1)) e⟩
    have hqm : q ∈ env.cells.map (·.2) := List.mem_map.mpr ⟨_, hmem, rfl⟩
    obtain ⟨m, hn, hm⟩ := F.loc
    have hLq : env.locals ≠ q := fun e => by
      obtain ⟨o', es, ep, e2, hd', _⟩ := hn
      rw [e, eq1] at e2; cases e2; rw [hdq] at hd'; cases hd'
    refine h h' s.toks ⟨List.prefix_refl _, fun b hb => .inl hb, fun b o e _ _ hb => keepO b o (by rintro rfl; exact hb hqm) e⟩ R' ⟨F.kind, F.glob, F.bltn, ⟨m, ?_, fun y w ky sy => ?_⟩, fun y ky => ?_, F.inj, fun p hp => ?_⟩
    · obtain ⟨o', es, ep, e2, r⟩ := hn
      exact ⟨o', es, ep, keepO _ _ hLq e2, r⟩
    · have hy : y ≠ x := by rintro rfl; rw [hk] at ky; cases ky
      simp only [upd, if_neg hy] at sy
      exact hm y w ky sy
    · by_cases hy : y = x
      · subst hy
        exact ⟨q, some cv, h1, hc', fun w sw => by simp only [upd, if_true] at sw; cases sw; exact ⟨cv, rfl, V⟩⟩
      · obtain ⟨q', v', h1', h2', h3'⟩ := F.cel y ky
        have hqq : q' ≠ q := fun e => hy (ofString_inj (F.inj _ _ q (e ▸ h1') h1))
        obtain ⟨o, e1, hd⟩ := id h2'
        exact ⟨q', v', h1', ⟨o, keepO _ _ hqq e1, hd⟩, fun w sw => by simp only [upd, if_neg hy] at sw; exact h3' w sw⟩
    · by_cases hpq : p.2 = q
      · exact ⟨some cv, by rw [hpq]; exact hc'⟩
      · obtain ⟨w, o, e1, hd⟩ := F.allc p hp
        exact ⟨w, o, keepO _ _ hpq e1, hd⟩
end
end Mine

namespace Mine
open PySem PyProof.Rows PySem.W

structure EnvB (c : Cx) (env : Env) : Prop where
  loc : c.B.get? env.locals = none
  cel : ∀ p ∈ env.cells, c.B.get? p.2 = none

section
variable {c : Cx} {A : Around} {env : Env}

def sAsg (x : String) (f : AE) : AS := fun σ H => (f σ H).map fun r => (.next, upd σ x r.1, r.2)
theorem x_asg {x : String} {px pos : Pos} {value : Expr} {f : AE} (B : EnvB c env) (hk : env.kindOf (Str.ofString x) = some .local ∨ env.kindOf (Str.ofString x) = some .cell)
    (hs : swapsWith value (some (.Name (Str.ofString x) px)) pos.line env = pure false) (hf : SimE c A env value f) : SimX c A env (.Assign [.Name (Str.ofString x) px] value pos) (sAsg x f) := by
  intro σ H fl σ' H' ρ s Q E _ h F R P
  simp only [sAsg, Option.map_eq_some_iff] at h
  obtain ⟨⟨v, H₁⟩, e1, e2⟩ := h
  cases e2
  refine wpAny_Assign_Name (hf σ H v H₁ ρ s _ E e1 F.toFR R fun ρ₁ h₁ tk₁ cv S₁ R₁ V₁ => ?_) hs
  have F₁ := F.mono R S₁
  refine store_sim hk F₁ R₁ B.loc B.cel V₁ fun h₂ tk₂ S₂ R₂ F₂ => ?_
  exact P ρ₁ h₂ tk₂ (S₁.toL.trans S₂ F₁.there) R₂ F₂

/-- a list changed in place -/
theorem HR.put {B : Heap} {ρ : List Addr} {H : AH} {h h' : Heap} {n : Nat} {a : Addr} {xs ys : List AV} {ws : Array Value} {k : Nat} (R : HR B ρ H h) (ha : ρ[n]? = some a) (hn : H[n]? = some (.list xs)) (h0 : B.get? a = none)
    (hL : IsL h' a ws k) (hs : Heap.SameBut a h h') (hv : VsR ρ ys ws.toList) : HR B ρ (H.set n (.list ys)) h' ∧ Step ρ h ρ h' :=
  R.write ha hn h0 (fun b _ hb e => (hs.2 b hb).trans e) ⟨h0, ws, k, hL, hv⟩

def oSet (o i v : AV) (H : AH) : Option AH :=
  match o, i with
  | .ref n, .int k => match H[n]? with
    | some (.list xs) => if 0 ≤ k ∧ k < xs.length ∧ xs.length ≤ LIM then some (H.set n (.list (xs.set k.toNat v))) else none
    | _ => none
  | _, _ => none
def sSet (f g k : AE) : AS := fun σ H => (f σ H).bind fun r₁ => (g σ r₁.2).bind fun r₂ => (k σ r₂.2).bind fun r₃ => (oSet r₂.1 r₃.1 r₁.1 r₃.2).map fun H' => (.next, σ, H')
theorem x_set {o i value : Expr} {p pos : Pos} {f g k : AE} (hs : swapsWith value (some (.Subscript o i p)) pos.line env = pure false) (hf : SimE c A env value f) (hg : SimE c A env o g) (hk : SimE c A env i k) :
    SimX c A env (.Assign [.Subscript o i p] value pos) (sSet f g k) := by
  intro σ H fl σ' H' ρ s Q E _ h F R P
  obtain ⟨⟨v, H₁⟩, e1, h⟩ := Option.bind_eq_some_iff.mp h
  obtain ⟨⟨ov, H₂⟩, e2, h⟩ := Option.bind_eq_some_iff.mp h
  obtain ⟨⟨iv, H₃⟩, e3, h⟩ := Option.bind_eq_some_iff.mp h
  simp only [Option.map_eq_some_iff] at h
  obtain ⟨H₄, e4, e5⟩ := h
  cases e5
  dsimp only [oSet] at e2 e3 e4
  refine wpAny_Assign_Subscript (hf σ H v H₁ ρ s _ E e1 F.toFR R fun ρ₁ h₁ tk₁ cv S₁ R₁ V₁ => ?_) hs
  have F₁ := F.mono R S₁
  refine hg σ H₁ ov H₂ ρ₁ _ _ E e2 F₁.toFR R₁ fun ρ₂ h₂ tk₂ co S₂ R₂ V₂ => ?_
  have F₂ := F₁.mono R₁ S₂
  refine hk σ H₂ iv H₃ ρ₂ _ _ E e3 F₂.toFR R₂ fun ρ₃ h₃ tk₃ ci S₃ R₃ V₃ => ?_
  have F₃ := F₂.mono R₂ S₃
  split at e4
  · rename_i n k
    split at e4
    · rename_i xs hn
      split at e4
      · rename_i hl
        cases e4
        obtain ⟨a, ha, rfl⟩ := V₂.mono S₃.pre
        obtain ⟨t, rfl⟩ := V₃
        obtain ⟨h0, vs, m, hL, hv⟩ := R₃.obj n a _ ha hn
        have e6 := hv.length
        simp only [Array.length_toList] at e6
        have h3 : LIM = 1000 := rfl
        refine ki_setAt hL hl.1 (by omega) (by omega) ?_
        obtain ⟨R', S'⟩ := R₃.put ha hn h0 (IsL.update hL (·.setIfInBounds k.toNat cv)) (Heap.SameBut.update ..) (ys := xs.set k.toNat v) (by
          have := pr_set hv (V₁.mono (S₂.pre.trans S₃.pre)) k.toNat
          simpa using this)
        exact P _ _ tk₃ (((S₁.trans S₂).trans S₃).trans S').toL R' (F₃.mono R₃ S')
      · cases e4
    · cases e4
  · cases e4

def oApp (o v : AV) (H : AH) : Option AH :=
  match o with
  | .ref n => match H[n]? with
    | some (.list xs) => if xs.length ≤ LIM then some (H.set n (.list (xs ++ [v]))) else none
    | _ => none
  | _ => none
def isL : AV → AH → Bool
  | .ref n, H => match H[n]? with
    | some (.list _) => true
    | _ => false
  | _, _ => false
def sApp (f g : AE) : AS := fun σ H => (f σ H).bind fun r₁ => if isL r₁.1 r₁.2 = true then (g σ r₁.2).bind fun r₂ => (oApp r₁.1 r₂.1 r₂.2).map fun H' => (.next, σ, H') else none

theorem x_app {o e : Expr} {apos pos cpos : Pos} {f g : AE} {pl : Sem Bool}
    (hi : interactive env = false) (hs : swapsWith (.Call (.Attribute o (Str.ofString "append") apos) [e] [] cpos) none pos.line env = pure false)
    (hm : eval (.Call (.Attribute o (Str.ofString "append") apos) [e] [] cpos) env = (do
      let ov ← eval o env
      standAt apos.atName
      let (f, first) ← holding [ov] (getMethod ov (Str.ofString "append") pl)
      callWith cpos f first (backTo cpos (starEach [e] env)) []))
    (he : starEach [e] env = [(false, eval e env)]) (hf : SimE c A env o f) (hg : SimE c A env e g) :
    SimX c A env (.Expr (.Call (.Attribute o (Str.ofString "append") apos) [e] [] cpos) pos) (sApp f g) := by
  intro σ H fl σ' H' ρ s Q E _ h F R P
  obtain ⟨⟨ov, H₁⟩, e1, h⟩ := Option.bind_eq_some_iff.mp h
  dsimp only at h
  split at h
  case isFalse => cases h
  rename_i hisl
  obtain ⟨⟨v, H₂⟩, e2, h⟩ := Option.bind_eq_some_iff.mp h
  simp only [Option.map_eq_some_iff] at h
  obtain ⟨H₃, e3, e4⟩ := h
  cases e4
  dsimp only [oApp] at e2 e3
  split at e3
  · rename_i n
    split at e3
    · rename_i xs hn
      split at e3
      · rename_i hl
        cases e3
        refine wpAny_Expr_any ?_ hi hs
        refine MethodCall_ (pl := pl) (hf σ H _ H₁ ρ s _ E e1 F.toFR R fun ρ₁ h₁ tk₁ co S₁ R₁ V₁ => ?_) hm
        have F₁ := F.mono R S₁
        obtain ⟨a, ha, rfl⟩ := id V₁
        obtain ⟨xs₁, hn₁⟩ : ∃ ys, H₁[n]? = some (.list ys) := by
          simp only [isL] at hisl
          split at hisl
          · rename_i ys hy; exact ⟨ys, hy⟩
          · cases hisl
        obtain ⟨h0, vs₀, m₀, hL₀, hv₀⟩ := R₁.obj n a _ ha hn₁
        refine Calls.getMethod_list_append hL₀ rfl rfl ?_
        refine callWith_method1 (rest := []) ?_ he (by rfl)
        rw [he]
        refine Calls.spliced_cons (hg σ H₁ v H₂ ρ₁ _ _ E e2 F₁.toFR R₁ fun ρ₂ h₂ tk₂ cv S₂ R₂ V₂ => ?_)
        refine Calls.spliced_nil ?_
        have F₂ := F₁.mono R₁ S₂
        have ha₂ : ρ₂[n]? = some a := by
          obtain ⟨t, rfl⟩ := S₂.pre
          rw [List.getElem?_append_left (List.getElem?_eq_some_iff.mp ha).1]; exact ha
        obtain ⟨h0', vs, m, hL, hv⟩ := R₂.obj n a _ ha₂ hn
        have e6 := hv.length
        simp only [Array.length_toList] at e6
        refine wpAny_list_append_plain ⟨m, hL⟩ (fun h₃ hL₃ hs₃ => ?_) (by rw [← e6]; exact lim_line hl)
        obtain ⟨m', hL₃⟩ := hL₃
        obtain ⟨R', S'⟩ := R₂.put ha₂ hn h0' hL₃ hs₃ (ys := xs ++ [v]) (by
          have := Paired.snoc hv V₂
          simpa using this)
        exact P _ _ tk₂ ((S₁.trans S₂).trans S').toL R' (F₂.mono R₂ S')
      · cases e3
    · cases e3
  · cases e3

def oDel0 (o i : AV) (H : AH) : Option AH :=
  match o, i with
  | .ref n, .int 0 => match H[n]? with
    | some (.list (_ :: xs)) => if xs.length ≤ LIM then some (H.set n (.list xs)) else none
    | _ => none
  | _, _ => none
def sDel (f g : AE) : AS := fun σ H => (f σ H).bind fun r₁ => (g σ r₁.2).bind fun r₂ => (oDel0 r₁.1 r₂.1 r₂.2).map fun H' => (.next, σ, H')
theorem x_del {o i : Expr} {p pos : Pos} {f g : AE} (hf : SimE c A env o f) (hg : SimE c A env i g) : SimX c A env (.Delete [.Subscript o i p] pos) (sDel f g) := by
  intro σ H fl σ' H' ρ s Q E _ h F R P
  obtain ⟨⟨ov, H₁⟩, e1, h⟩ := Option.bind_eq_some_iff.mp h
  obtain ⟨⟨iv, H₂⟩, e2, h⟩ := Option.bind_eq_some_iff.mp h
  simp only [Option.map_eq_some_iff] at h
  obtain ⟨H₃, e3, e4⟩ := h
  cases e4
  dsimp only [oDel0] at e2 e3
  split at e3
  · rename_i n
    split at e3
    · rename_i x0 xs hn
      split at e3
      · rename_i hl
        cases e3
        rw [arm_exec_Delete]
        refine wpAny_bind (wpAny_standAt ?_)
        show wpAny _ A (do (do delete (.Subscript o i p) env; deleteEach [] env : Sem Unit); pure .next) Q E s
        refine wpAny_bind (wpAny_bind ?_)
        show wpAny _ A (do
          let ov ← eval o env
          let iv ← holding [ov] (eval i env)
          standAt p
          holding [ov, iv] (delItem ov iv)
          release [ov, iv] []) _ E s
        refine wpAny_bind (hf σ H _ H₁ ρ s _ E e1 F.toFR R fun ρ₁ h₁ tk₁ co S₁ R₁ V₁ => ?_)
        have F₁ := F.mono R S₁
        refine wpAny_bind (wpAny_holding (hg σ H₁ _ H₂ ρ₁ _ _ E e2 F₁.toFR R₁ fun ρ₂ h₂ tk₂ ci S₂ R₂ V₂ => ?_))
        have F₂ := F₁.mono R₁ S₂
        obtain ⟨a, ha, rfl⟩ := V₁.mono S₂.pre
        obtain ⟨t, rfl⟩ := V₂
        obtain ⟨h0, vs, m, hL, hv⟩ := R₂.obj n a _ ha hn
        have e6 := hv.length
        simp only [Array.length_toList, List.length_cons] at e6
        refine wpAny_bind (wpAny_standAt (wpAny_bind (wpAny_holding ?_)))
        have hsq : seqIndex? 0 vs.size = some 0 := by
          have h5 : 0 < vs.size := by omega
          unfold seqIndex?; simp [h5]
        refine wpAny_delItem_plain (k := 0) ⟨m, hL⟩ (by decide) hsq (fun h₃ hL₃ hs₃ => ?_) (by rw [← e6]; have h3 : xs.length ≤ 1000 := hl; have h4 : sizeLine = 2 ^ 24 := rfl; omega)
        obtain ⟨m', hL₃⟩ := hL₃
        obtain ⟨R', S'⟩ := R₂.put ha hn h0 hL₃ hs₃ (ys := xs) (by
          have h1 := pr_erase hv 0
          have h2 : (vs.eraseIdxIfInBounds 0).toList = vs.toList.eraseIdx 0 := by
            simp [Array.eraseIdxIfInBounds]
            split <;> simp_all
          rw [h2]; simpa using h1)
        refine wpAny_release (wpAny_pure (wpAny_pure ?_))
        exact P _ _ tk₂ ((S₁.trans S₂).trans S').toL R' (F₂.mono R₂ S')
      · cases e3
    · cases e3
  · cases e3
end
end Mine

namespace Mine
open PySem PyProof.Rows PySem.W

def eqv : AV → AV → Bool
  | .none, .none => true
  | .bool a, .bool b => a == b
  | .int a, .int b => decide (a = b)
  | .ref a, .ref b => decide (a = b)
  | _, _ => false
theorem eqv_eq {a b : AV} (h : eqv a b = true) : a = b := by
  cases a <;> cases b <;> simp_all [eqv]
theorem eqv_refl (a : AV) : eqv a a = true := by cases a <;> simp [eqv]
def eqL : List AV → List AV → Bool
  | [], [] => true
  | a :: r, b :: q => eqv a b && eqL r q
  | _, _ => false
theorem eqL_eq : ∀ {l m : List AV}, eqL l m = true → l = m
  | [], [], _ => rfl
  | a :: r, b :: q, h => by
    simp only [eqL, Bool.and_eq_true] at h
    rw [eqv_eq h.1, eqL_eq h.2]
  | [], _ :: _, h => by cases h
  | _ :: _, [], h => by cases h
theorem eqL_refl : ∀ l : List AV, eqL l l = true
  | [] => rfl
  | a :: r => by simp [eqL, eqv_refl, eqL_refl r]

/-- an iterator that stands at place i of xs -/
structure Itr (c : Cx) (A : Around) (I : Addr) (xs : List AV) (chk : AH → Bool) (St : Nat → List Addr → Heap → Prop) : Prop where
  item : ∀ (i : Nat) (ρ : List Addr) (H : AH) (s : Shared) (Q : Option Value → Shared → Prop) (E : Value → Shared → Prop) (x : AV), xs[i]? = some x → chk H = true → St i ρ s.heap → HR c.B ρ H s.heap →
    (∀ h' tk cv, St (i + 1) ρ h' → HR c.B ρ H h' → (∀ b o, b ≠ I → s.heap.get? b = some o → h'.get? b = some o) → VR ρ x cv → Q (some cv) { s with heap := h', toks := tk }) → wpAny (model c.prog c.w) A (pyNext (.ref I)) Q E s
  done : ∀ (ρ : List Addr) (H : AH) (s : Shared) (Q : Option Value → Shared → Prop) (E : Value → Shared → Prop), chk H = true → St xs.length ρ s.heap → HR c.B ρ H s.heap →
    (∀ h' tk, HR c.B ρ H h' → (∀ b o, b ≠ I → s.heap.get? b = some o → h'.get? b = some o) → Q none { s with heap := h', toks := tk }) → wpAny (model c.prog c.w) A (pyNext (.ref I)) Q E s
  again : ∀ (i : Nat) (ρ : List Addr) (s : Shared) (Q : Value → Shared → Prop) (E : Value → Shared → Prop), St i ρ s.heap → Q (.ref I) s → wpAny (model c.prog c.w) A (pyIter (.ref I)) Q E s
  frame : ∀ (i : Nat) (ρ ρ' : List Addr) (h h' : Heap), St i ρ h → ρ <+: ρ' → (∀ o, h.get? I = some o → h'.get? I = some o) → St i ρ' h'
  live : ∀ (i : Nat) (ρ : List Addr) (h : Heap), St i ρ h → ∃ o T fs, h.get? I = some o ∧ o.cls = .type T ∧ (T = "list_iterator" ∨ T = "tuple_iterator" ∨ T = "range_iterator") ∧ o.data = .fields fs

abbrev AI := Sg → AH → Option ((List AV × (AH → Bool)) × AH)
def SimI (c : Cx) (A : Around) (env : Env) (e : Expr) (f : AI) : Prop :=
  ∀ σ H xs chk H' ρ (s : Shared) (Q : Value → Shared → Prop) (E : Value → Shared → Prop), f σ H = some ((xs, chk), H') → FR env σ ρ s.heap → HR c.B ρ H s.heap →
    (∀ ρ' h' tk I St, Step ρ s.heap ρ' h' → HR c.B ρ' H' h' → s.heap.get? I = none → Itr c A I xs chk St → St 0 ρ' h' → Q (.ref I) { s with heap := h', toks := tk }) →
    wpAny (model c.prog c.w) A (eval e env) (fun x s₁ => wpAny (model c.prog c.w) A (pyIter x) Q E s₁) E s

theorem HR.but {B : Heap} {ρ : List Addr} {H : AH} {h h' : Heap} {I : Addr} (R : HR B ρ H h) (hI : I ∉ ρ) (hB : B.get? I = none) (k : ∀ b o, b ≠ I → h.get? b = some o → h'.get? b = some o) : HR B ρ H h' :=
  ⟨fun b o e => k b o (by rintro rfl; rw [hB] at e; cases e) (R.base b o e), R.nodup, R.len, fun n a o e1 e2 => (R.obj n a o e1 e2).of_keeps (List.prefix_refl _) fun ob e => k a ob (by rintro rfl; exact hI (List.mem_of_getElem? e1)) e⟩

theorem get_pre {ρ ρ' : List Addr} (hp : ρ <+: ρ') {n : Nat} {a : Addr} (h : ρ[n]? = some a) : ρ'[n]? = some a := by
  obtain ⟨t, rfl⟩ := hp
  rw [List.getElem?_append_left (List.getElem?_eq_some_iff.mp h).1]; exact h

def chkL (v : AV) (xs : List AV) (H : AH) : Bool := match lget H v with
  | some ys => eqL ys xs
  | none => false

theorem itr_list {c : Cx} {A : Around} (hh : A.handled = none) (I : Addr) (n : Nat) (xs : List AV) (hB : c.B.get? I = none) :
    Itr c A I xs (chkL (.ref n) xs) (fun i ρ h => ∃ a, ρ[n]? = some a ∧ h.IsListIter I a i) where
  item := by
    rintro i ρ H s Q E x hx hc ⟨a, ha, hit⟩ R hQ
    simp only [chkL] at hc
    split at hc
    · rename_i ys hy
      cases eqL_eq hc
      obtain ⟨a', vs, q, hL, hv⟩ := lget_spec R (x := .ref n) (cx := .ref a) ⟨a, ha, rfl⟩ hy
      cases q
      obtain ⟨cv, hcv, hV⟩ := pr_get hv hx
      have hI : I ∉ ρ := by
        obtain ⟨o, e, _, d⟩ := hit
        exact R.notin e fun vs n q => by rw [d] at q; cases q
      refine wpAny_pyNext_list_item hit hL (by simpa using hcv) fun h' hit' hs => ?_
      have k : ∀ b o, b ≠ I → s.heap.get? b = some o → h'.get? b = some o := fun b o hb e => (hs.2 b hb).trans e
      exact hQ h' s.toks cv ⟨a, ha, hit'⟩ (R.but hI hB k) k hV
    · cases hc
  done := by
    rintro ρ H s Q E hc ⟨a, ha, hit⟩ R hQ
    simp only [chkL] at hc
    split at hc
    · rename_i ys hy
      cases eqL_eq hc
      obtain ⟨a', vs, q, hL, hv⟩ := lget_spec R (x := .ref n) (cx := .ref a) ⟨a, ha, rfl⟩ hy
      cases q
      have hI : I ∉ ρ := by
        obtain ⟨o, e, _, d⟩ := hit
        exact R.notin e fun vs n q => by rw [d] at q; cases q
      have e1 := hv.length
      simp only [Array.length_toList] at e1
      refine wpAny_pyNext_list_end hh hit hL (by simp [e1]) fun h' he => ?_
      exact hQ h' s.toks (R.but hI hB he) he
    · cases hc
  again := by
    rintro i ρ s Q E ⟨a, ha, hit⟩ hQ
    exact wpAny_pyIter_listiter hit hQ
  frame := by
    rintro i ρ ρ' h h' ⟨a, ha, ⟨o, e, r⟩⟩ hp k
    exact ⟨a, get_pre hp ha, ⟨o, k o e, r⟩⟩
  live := by
    rintro i ρ h ⟨a, ha, ⟨o, e, hc, hd⟩⟩
    exact ⟨o, _, _, e, hc, .inl rfl, hd⟩

def chkT (v : AV) (xs : List AV) (H : AH) : Bool := match tget H v with
  | some ys => eqL ys xs
  | none => false
theorem itr_tup {c : Cx} {A : Around} (hh : A.handled = none) (I : Addr) (n : Nat) (xs : List AV) (hB : c.B.get? I = none) :
    Itr c A I xs (chkT (.ref n) xs) (fun i ρ h => ∃ a, ρ[n]? = some a ∧ h.IsTupleIter I a i) where
  item := by
    rintro i ρ H s Q E x hx hc ⟨a, ha, hit⟩ R hQ
    simp only [chkT] at hc
    split at hc
    · rename_i ys hy
      cases eqL_eq hc
      obtain ⟨a', vs, k, q, hL, hv⟩ := tget_spec R (x := .ref n) (cx := .ref a) ⟨a, ha, rfl⟩ hy
      cases q
      obtain ⟨cv, hcv, hV⟩ := pr_get hv hx
      have hI : I ∉ ρ := by
        obtain ⟨o, e, _, d⟩ := hit
        exact R.notin e fun vs n q => by rw [d] at q; cases q
      refine wpAny_pyNext_tuple_item hit (items := vs) ⟨_, hL, rfl, _, rfl⟩ (by simpa using hcv) fun h' hit' hs => ?_
      have k : ∀ b o, b ≠ I → s.heap.get? b = some o → h'.get? b = some o := fun b o hb e => (hs.2 b hb).trans e
      exact hQ h' s.toks cv ⟨a, ha, hit'⟩ (R.but hI hB k) k hV
    · cases hc
  done := by
    rintro ρ H s Q E hc ⟨a, ha, hit⟩ R hQ
    simp only [chkT] at hc
    split at hc
    · rename_i ys hy
      cases eqL_eq hc
      obtain ⟨a', vs, k, q, hL, hv⟩ := tget_spec R (x := .ref n) (cx := .ref a) ⟨a, ha, rfl⟩ hy
      cases q
      have hI : I ∉ ρ := by
        obtain ⟨o, e, _, d⟩ := hit
        exact R.notin e fun vs n q => by rw [d] at q; cases q
      have e1 := hv.length
      simp only [Array.length_toList] at e1
      refine wpAny_pyNext_tuple_end hh hit (items := vs) ⟨_, hL, rfl, _, rfl⟩ (by simp [e1]) fun h' he => ?_
      exact hQ h' s.toks (R.but hI hB he) he
    · cases hc
  again := by
    rintro i ρ s Q E ⟨a, ha, hit⟩ hQ
    exact wpAny_pyIter_tupleiter hit hQ
  frame := by
    rintro i ρ ρ' h h' ⟨a, ha, ⟨o, e, r⟩⟩ hp k
    exact ⟨a, get_pre hp ha, ⟨o, k o e, r⟩⟩
  live := by
    rintro i ρ h ⟨a, ha, ⟨o, e, hc, hd⟩⟩
    exact ⟨o, _, _, e, hc, .inr (.inl rfl), hd⟩

def rangeV (n : Nat) : List AV := (List.range n).map fun i : Nat => AV.int i
theorem rangeV_get {n i : Nat} {x : AV} (h : (rangeV n)[i]? = some x) : i < n ∧ x = .int i := by
  unfold rangeV at h
  rw [List.getElem?_map] at h
  obtain ⟨j, hj, rfl⟩ := Option.map_eq_some_iff.mp h
  obtain ⟨h1, h2⟩ := List.getElem?_eq_some_iff.mp hj
  simp at h1 h2
  subst h2; exact ⟨h1, rfl⟩
theorem itr_range {c : Cx} {A : Around} (hh : A.handled = none) (I : Addr) (n : Nat) (hB : c.B.get? I = none) :
    Itr c A I (rangeV n) (fun _ => true) (fun i _ h => IsRangeIter h I (i : Int) ((n : Int) - (i : Int)) 1) where
  item := by
    rintro i ρ H s Q E x hx hc hit R hQ
    obtain ⟨hi, rfl⟩ := rangeV_get hx
    have hI : I ∉ ρ := R.notin hit fun vs n q => by cases q
    refine wpAny_pyNext_range_item hit (by omega) fun h' hit' hs => ?_
    have k : ∀ b o, b ≠ I → s.heap.get? b = some o → h'.get? b = some o := fun b o hb e => (hs.2 b hb).trans e
    have e1 : ((n : Int) - i - 1) = (n : Int) - ((i + 1 : Nat) : Int) := by push_cast; omega
    rw [e1] at hit'
    exact hQ h' _ _ (by simpa using hit') (R.but hI hB k) k ⟨_, rfl⟩
  done := by
    rintro ρ H s Q E hc hit R hQ
    have hI : I ∉ ρ := R.notin hit fun vs n q => by cases q
    have hl : (rangeV n).length = n := by simp [rangeV]
    rw [hl] at hit
    refine wpAny_pyNext_range_end hh hit (by omega) fun h' he => ?_
    exact hQ h' s.toks (R.but hI hB he) he
  again := by
    rintro i ρ s Q E hit hQ
    exact wpAny_pyIter_rangeiter hit hQ
  frame := by
    rintro i ρ ρ' h h' e hp k
    exact k _ e
  live := by
    rintro i ρ h e
    exact ⟨_, _, _, e, rfl, .inr (.inr rfl), rfl⟩

section
variable {c : Cx} {A : Around} {env : Env}

def iL (f : AE) : AI := fun σ H => (f σ H).bind fun r => (lget r.2 r.1).map fun xs => ((xs, chkL r.1 xs), r.2)
def iT (f : AE) : AI := fun σ H => (f σ H).bind fun r => (tget r.2 r.1).map fun xs => ((xs, chkT r.1 xs), r.2)
def iR (f : AE) : AI := fun σ H => (f σ H).bind fun r => match r.1 with
  | .int n => if 0 ≤ n ∧ n ≤ LIM then some ((rangeV n.toNat, fun _ => true), r.2) else none
  | _ => none

theorem i_list {e : Expr} {f : AE} (hh : A.handled = none) (hf : SimE c A env e f) : SimI c A env e (iL f) := by
  intro σ H xs chk H' ρ s Q E h F R K
  obtain ⟨⟨v, H₁⟩, e1, h'⟩ := Option.bind_eq_some_iff.mp h
  simp only [Option.map_eq_some_iff] at h'
  obtain ⟨ys, hy, e⟩ := h'
  cases e
  refine hf σ H v _ ρ s _ E e1 F R fun ρ₁ h₁ tk₁ cv S₁ R₁ V₁ => ?_
  obtain ⟨a, vs, rfl, hL, hv⟩ := lget_spec R₁ V₁ hy
  cases v with
  | ref n =>
    obtain ⟨a', ha, q⟩ := V₁
    cases q
    refine wpAny_pyIter_list hL ?_
    have hI := get_none_size h₁
    have hk := push_keeps h₁ { cls := .type "list_iterator", data := .fields #[.ref a, .int 0 0] }
    have hI0 : s.heap.get? h₁.objs.size = none := by
      cases q : s.heap.get? h₁.objs.size with
      | none => rfl
      | some o =>
        by_cases hb : h₁.objs.size ∈ ρ
        · exact absurd (R₁.lt (S₁.pre.subset hb)) (Nat.lt_irrefl _)
        · rw [S₁.keep _ _ q hb] at hI; cases hI
    exact K ρ₁ _ tk₁ _ _ (S₁.trans (.of_keeps ρ₁ hk)) (R₁.of_keeps hk) hI0 (itr_list hh _ n _ (base_none R₁ hI)) ⟨a, ha, _, Heap.get?_push_size _ rfl, rfl, rfl⟩
  | _ => cases hy
theorem i_tup {e : Expr} {f : AE} (hh : A.handled = none) (hf : SimE c A env e f) : SimI c A env e (iT f) := by
  intro σ H xs chk H' ρ s Q E h F R K
  obtain ⟨⟨v, H₁⟩, e1, h'⟩ := Option.bind_eq_some_iff.mp h
  simp only [Option.map_eq_some_iff] at h'
  obtain ⟨ys, hy, e⟩ := h'
  cases e
  refine hf σ H v _ ρ s _ E e1 F R fun ρ₁ h₁ tk₁ cv S₁ R₁ V₁ => ?_
  obtain ⟨a, vs, k, rfl, hL, hv⟩ := tget_spec R₁ V₁ hy
  cases v with
  | ref n =>
    obtain ⟨a', ha, q⟩ := V₁
    cases q
    refine wpAny_pyIter_tuple (items := vs) ⟨_, hL, rfl, _, rfl⟩ ?_
    have hI := get_none_size h₁
    have hk := push_keeps h₁ { cls := .type "tuple_iterator", data := .fields #[.ref a, .int 0 0] }
    have hI0 : s.heap.get? h₁.objs.size = none := by
      cases q : s.heap.get? h₁.objs.size with
      | none => rfl
      | some o =>
        by_cases hb : h₁.objs.size ∈ ρ
        · exact absurd (R₁.lt (S₁.pre.subset hb)) (Nat.lt_irrefl _)
        · rw [S₁.keep _ _ q hb] at hI; cases hI
    exact K ρ₁ _ tk₁ _ _ (S₁.trans (.of_keeps ρ₁ hk)) (R₁.of_keeps hk) hI0 (itr_tup hh _ n _ (base_none R₁ hI)) ⟨a, ha, _, Heap.get?_push_size _ rfl, rfl, rfl⟩
  | _ => cases hy

theorem i_range {e : Expr} {p1 pos : Pos} {f : AE} (G : Glo c) (hN : BName env "range" (.type "range")) (hh : A.handled = none)
    (he : starEach [e] env = [(false, eval e env)]) (hf : SimE c A env e f) : SimI c A env (.Call (.Name (Str.ofString "range") p1) [e] [] pos) (iR f) := by
  intro σ H xs chk H' ρ s Q E h F R K
  obtain ⟨⟨v, H₁⟩, e1, h'⟩ := Option.bind_eq_some_iff.mp h
  dsimp only at h'
  split at h'
  · rename_i n
    split at h'
    · rename_i hn
      cases h'
      rw [eval_CallN]
      refine wpAny_bind (glob_name G F R hN.kind hN.mem hN.boot hN.nn hN.nd ?_)
      refine PyProof.Rows.callWith_type1 (rest := []) ?_ he (by rfl)
      rw [he]
      refine Calls.spliced_cons (hf σ H _ _ ρ s _ E e1 F R fun ρ₁ h₁ tk₁ cv S₁ R₁ V₁ => ?_)
      refine Calls.spliced_nil ?_
      obtain ⟨t, rfl⟩ := V₁
      refine call_range_1 ?_
      have h3 : LIM = 1000 := rfl
      have h0 : 0 ≤ n := hn.1
      have hsm : Builtin.Range.small 0 n 1 = true := small_one (by decide) (by decide) (by omega) (by omega)
      refine wpAny_pyIter_range (Heap.get?_push_size _ rfl) hsm ?_
      have hsz : Builtin.Range.rangeSize 0 n 1 = n := by rw [rangeSize_one]; split <;> omega
      rw [hsz]
      generalize hg : h₁.push { cls := .type "range", data := .fields #[Value.int 0 tk₁, Value.int n t, Value.int 1 (tk₁ + 1)] } = h₂
      have hk₂ : ∀ b o, h₁.get? b = some o → h₂.get? b = some o := hg ▸ push_keeps h₁ _
      have hk₃ := push_keeps h₂ { cls := .type "range_iterator", data := .fields #[rawInt 0, rawInt n, rawInt 1] }
      have hk : ∀ b o, h₁.get? b = some o → (h₂.push { cls := .type "range_iterator", data := .fields #[rawInt 0, rawInt n, rawInt 1] }).get? b = some o := fun b o e => hk₃ b o (hk₂ b o e)
      have hI := get_none_size h₂
      have hI0 : s.heap.get? h₂.objs.size = none := by
        cases q : s.heap.get? h₂.objs.size with
        | none => rfl
        | some o =>
          by_cases hb : h₂.objs.size ∈ ρ
          · have h4 := R₁.lt (S₁.pre.subset hb)
            have h5 : h₂.objs.size = h₁.objs.size + 1 := by rw [← hg, Heap.size_push]
            exact absurd h4 (by rw [h5]; exact Nat.not_lt.mpr (Nat.le_succ _))
          · rw [hk₂ _ _ (S₁.keep _ _ q hb)] at hI; cases hI
      refine K ρ₁ _ _ _ _ (S₁.trans (.of_keeps ρ₁ hk)) (R₁.of_keeps hk) hI0 (itr_range hh h₂.objs.size n.toNat (base_none (R₁.of_keeps hk₂) hI)) ?_
      show IsRangeIter _ _ _ _ _
      have e3 : ((n.toNat : Int) - ((0 : Nat) : Int)) = n := by rw [Int.toNat_of_nonneg h0]; simp
      rw [e3]
      exact Heap.get?_push_size _ rfl
    · cases h'
  · cases h'
end
end Mine

namespace Mine
open PySem PyProof.Rows PySem.W

theorem owned_go {M : Model} {A : Around} {E : Value → Shared → Prop} {target : Expr} {I : Addr} {v : Value} {s : Shared} {Q : Unit → Shared → Prop} {o : Obj} {T : String} {fs : Array Value}
    (e : s.heap.get? I = some o) (hc : o.cls = .type T) (hT : T = "list_iterator" ∨ T = "tuple_iterator" ∨ T = "range_iterator") (hd : o.data = .fields fs) (h : Q () s) : wpAny M A (letOwnedTupleGo target (.ref I) v) Q E s := by
  unfold letOwnedTupleGo
  repeat' split
  all_goals first
    | exact wpAny_pure h
    | skip
  all_goals
    rename_i hq
    cases hq
    refine wpAny_bind (wpAny_load e ?_)
    rw [hc, hd]
    dsimp only
    refine wpAny_ite_split (fun hyes => ?_) fun _ => wpAny_pure h
    rw [Bool.and_eq_true] at hyes
    exact absurd hyes.1 (by rcases hT with rfl | rfl | rfl <;> decide)

section
variable {c : Cx} {A : Around} {env : Env}

abbrev Asg := AV → Sg → AH → Option Sg
def SimA (c : Cx) (A : Around) (env : Env) (target : Expr) (asg : Asg) : Prop :=
  ∀ σ H x cv σ' ρ (s : Shared) (Q : Unit → Shared → Prop) (E : Value → Shared → Prop), asg x σ H = some σ' → FRc env σ ρ s.heap → HR c.B ρ H s.heap → VR ρ x cv →
    (∀ h' tk, StepL env ρ s.heap ρ h' → HR c.B ρ H h' → FRc env σ' ρ h' → Q () { s with heap := h', toks := tk }) → wpAny (model c.prog c.w) A (assign target env cv) Q E s

def asgN (x : String) : Asg := fun v σ _ => some (upd σ x v)
theorem a_name {x : String} {pos : Pos} (B : EnvB c env) (hk : env.kindOf (Str.ofString x) = some .local ∨ env.kindOf (Str.ofString x) = some .cell) : SimA c A env (.Name (Str.ofString x) pos) (asgN x) := by
  intro σ H v cv σ' ρ s Q E h F R V K
  cases h
  exact wpAny_assign_Name (store_sim hk F R B.loc B.cel V K)

def asgT (x y : String) : Asg := fun v σ H => match tget H v with
  | some [a, b] => some (upd (upd σ x a) y b)
  | _ => none
theorem a_tup {x y : String} {p1 p2 pos : Pos} {k : Nat} (hh : A.handled = none) (B : EnvB c env) (hx : env.kindOf (Str.ofString x) = some .local ∨ env.kindOf (Str.ofString x) = some .cell)
    (hy : env.kindOf (Str.ofString y) = some .local ∨ env.kindOf (Str.ofString y) = some .cell) : SimA c A env (.Tuple [.Name (Str.ofString x) p1, .Name (Str.ofString y) p2] k pos) (asgT x y) := by
  intro σ H v cv σ' ρ s Q E h F R V K
  simp only [asgT] at h
  split at h
  · rename_i a b ht
    cases h
    obtain ⟨t, vs, m, rfl, hT, hv⟩ := tget_spec R V ht
    obtain ⟨l⟩ := vs
    cases hv with
    | cons V1 r =>
    cases r with
    | cons V2 r =>
    cases r with
    | nil =>
    refine wpAny_assign_Tuple hh (items := #[_, _]) ⟨_, hT, rfl, _, rfl⟩ (by rfl) (by rfl) fun h₁ he₁ => ?_
    have k₁ : ∀ b o, s.heap.get? b = some o → h₁.get? b = some o := fun b o e => he₁ b o (fun q => absurd (Heap.lt_size e) (q ▸ Nat.lt_irrefl _)) e
    have S₁ := Step.of_keeps ρ k₁
    have R₁ := R.of_keeps k₁
    have F₁ := F.mono R S₁
    show wpAny _ A (assignInOrder [assign (.Name (Str.ofString x) p1) env, assign (.Name (Str.ofString y) p2) env] [_, _]) Q E _
    unfold assignInOrder
    refine wpAny_bind (wpAny_holding (wpAny_assign_Name (store_sim hx F₁ R₁ B.loc B.cel V1 fun h₂ tk₂ S₂ R₂ F₂ => ?_)))
    unfold assignInOrder
    refine wpAny_bind (wpAny_holding (wpAny_assign_Name (store_sim hy F₂ R₂ B.loc B.cel V2 fun h₃ tk₃ S₃ R₃ F₃ => ?_)))
    unfold assignInOrder
    exact wpAny_pure (K h₃ tk₃ ((S₁.toL.trans S₂ F₁.there).trans S₃ F₂.there) R₃ F₃)
  · cases h

def aFor (chk : AH → Bool) (asg : Asg) (body orelse : AS) : List AV → AS
  | [], σ, H => if chk H = true then orelse σ H else none
  | x :: r, σ, H => if chk H = true then (asg x σ H).bind fun σ₁ => (body σ₁ H).bind fun q => match q.1 with
      | .next => aFor chk asg body orelse r q.2.1 q.2.2
      | .cont => aFor chk asg body orelse r q.2.1 q.2.2
      | .brk => some (.next, q.2)
      | _ => some q
    else none
def sFor (it : AI) (asg : Asg) (body orelse : AS) : AS := fun σ H => (it σ H).bind fun r => aFor r.1.2 asg body orelse r.1.1 σ r.2

theorem x_for {target iter : Expr} {body orelse : List Stmt} {pos : Pos} {it : AI} {asg : Asg} {f g : AS} (hs : ∀ x, foldedSetIterable iter env x = pure x) (hi : SimI c A env iter it) (ha : SimA c A env target asg)
    (hf : SimS c A env body f) (hg : SimS c A env orelse g) : SimX c A env (.For target iter body orelse pos) (sFor it asg f g) := by
  intro σ H fl σ' H' ρ s Q E hE h F R P
  obtain ⟨⟨⟨xs, chk⟩, H₁⟩, e1, h'⟩ := Option.bind_eq_some_iff.mp h
  dsimp only at h'
  refine wpAny_For (hi σ H xs chk H₁ ρ s _ E e1 F.toFR R fun ρ₁ h₁ tk₁ I St S₁ R₁ hI It st₁ => ?_) hs
  have F₁ := F.mono R S₁
  refine codeAny_forLoop_any (fun n s' => ∃ i ρ₂ σ₂ H₂ h₂ tk₂, n = xs.length + 1 - i ∧ i ≤ xs.length ∧ s' = { s with heap := h₂, toks := tk₂ } ∧ St i ρ₂ h₂ ∧ HR c.B ρ₂ H₂ h₂ ∧ FRc env σ₂ ρ₂ h₂ ∧ StepL env ρ s.heap ρ₂ h₂ ∧
    aFor chk asg f g (xs.drop i) σ₂ H₂ = some (fl, σ', H')) ?_ (xs.length + 1) ⟨0, ρ₁, σ, H₁, h₁, tk₁, by omega, Nat.zero_le _, rfl, st₁, R₁, F₁, S₁.toL, by simpa using h'⟩
  rintro n s' ⟨i, ρ₂, σ₂, H₂, h₂, tk₂, rfl, hil, rfl, st₂, R₂, F₂, S₂, e2⟩
  -- the iterator is none of the frame's own objects
  obtain ⟨oI, T, fs, eI, hcI, hT, hdI⟩ := It.live _ _ _ st₂
  have hIρ : ∀ ρ' H' h', HR c.B ρ' H' h' → h'.get? I = some oI → I ∉ ρ' := fun ρ' H' h' R' e => R'.notin e fun vs n q => by rw [hdI] at q; cases q
  have hIL : I ≠ env.locals := by
    rintro rfl
    obtain ⟨m, ⟨o, es, ep, e, hd, _⟩, _⟩ := F₂.loc
    rw [eI] at e; cases e; rw [hdI] at hd; cases hd
  have hIC : I ∉ env.cells.map (·.2) := fun hm => by
    obtain ⟨p, hp, rfl⟩ := List.mem_map.mp hm
    obtain ⟨v, o, e, hd⟩ := F₂.allc p hp
    rw [eI] at e; cases e; rw [hdI] at hd; cases hd
  -- a step of the iterator alone
  have walk : ∀ h₃, HR c.B ρ₂ H₂ h₃ → (∀ b o, b ≠ I → h₂.get? b = some o → h₃.get? b = some o) → FRc env σ₂ ρ₂ h₃ ∧ StepL env ρ s.heap ρ₂ h₃ := by
    intro h₃ R₃ k
    refine ⟨⟨F₂.kind, F₂.glob, F₂.bltn, ?_, fun x kx => ?_, F₂.inj, fun p hp => ?_⟩, ⟨S₂.pre, S₂.new, fun b o e hb h1 h2 => k b o (by rintro rfl; rw [hI] at e; cases e) (S₂.keep b o e hb h1 h2)⟩⟩
    · obtain ⟨m, ⟨o, es, ep, e, r⟩, hm⟩ := F₂.loc
      exact ⟨m, ⟨o, es, ep, k _ _ (Ne.symm hIL) e, r⟩, hm⟩
    · obtain ⟨q, v₀, h1, ⟨o, e, hd⟩, h2⟩ := F₂.cel x kx
      exact ⟨q, v₀, h1, ⟨o, k _ _ (by rintro rfl; rw [eI] at e; cases e; rw [hdI] at hd; cases hd) e, hd⟩, h2⟩
    · obtain ⟨v, o, e, hd⟩ := F₂.allc p hp
      exact ⟨v, o, k _ _ (by intro q; rw [q, eI] at e; cases e; rw [hdI] at hd; cases hd) e, hd⟩
  have EE : ∀ {α : Type} {t : Sem α} {q : α → Shared → Prop} {z : Shared}, wpAny (model c.prog c.w) A t q E z → wpAny (model c.prog c.w) A t q (notedBy (model c.prog c.w) A env (cameBackBy (model c.prog c.w) A env E)) z := fun x => wpAny_passesOwn hE x
  by_cases hlt : i < xs.length
  · have hx : xs[i]? = some xs[i] := by simp [hlt]
    have hd : xs.drop i = xs[i] :: xs.drop (i + 1) := List.drop_eq_getElem_cons hlt
    rw [hd] at e2
    simp only [aFor] at e2
    split at e2
    case isFalse => cases e2
    rename_i hchk
    obtain ⟨σ₃, ea, e2⟩ := Option.bind_eq_some_iff.mp e2
    obtain ⟨⟨fl₄, σ₄, H₄⟩, eb, e2⟩ := Option.bind_eq_some_iff.mp e2
    refine It.item i ρ₂ H₂ _ _ _ xs[i] hx hchk st₂ R₂ fun h₃ tk₃ cv st₃ R₃ k₃ V₃ => ?_
    obtain ⟨F₃, S₃⟩ := walk h₃ R₃ k₃
    obtain ⟨oI₃, T₃, fs₃, eI₃, hcI₃, hT₃, hdI₃⟩ := It.live _ _ _ st₃
    refine owned_go eI₃ hcI₃ hT₃ hdI₃ ?_
    refine EE (ha σ₂ H₂ xs[i] cv σ₃ ρ₂ _ _ _ ea F₃ R₃ V₃ fun h₄ tk₄ S₄ R₄ F₄ => ?_)
    have hI₃ : I ∉ ρ₂ := R₃.notin eI₃ fun vs n q => by rw [hdI₃] at q; cases q
    have eI₄ : h₄.get? I = some oI₃ := S₄.keep _ _ eI₃ hI₃ hIL hIC
    have SS₄ : StepL env ρ s.heap ρ₂ h₄ := S₃.trans S₄ F₃.there
    refine EE (hf σ₃ H₂ fl₄ σ₄ H₄ ρ₂ _ _ E hE eb F₄ R₄ fun ρ₅ h₅ tk₅ S₅ R₅ F₅ => ?_)
    have SS₅ : StepL env ρ s.heap ρ₅ h₅ := SS₄.trans S₅ F₄.there
    have st₅ : St (i + 1) ρ₅ h₅ := It.frame _ _ _ _ _ st₃ S₅.pre fun o e => by
      rw [eI₃] at e; cases e
      exact S₅.keep _ _ eI₄ hI₃ hIL hIC
    cases fl₄ with
    | next => exact ⟨xs.length + 1 - (i + 1), by omega, i + 1, ρ₅, σ₄, H₄, h₅, tk₅, rfl, hlt, rfl, st₅, R₅, F₅, SS₅, e2⟩
    | cont => exact ⟨xs.length + 1 - (i + 1), by omega, i + 1, ρ₅, σ₄, H₄, h₅, tk₅, rfl, hlt, rfl, st₅, R₅, F₅, SS₅, e2⟩
    | brk => cases e2; exact P ρ₅ h₅ tk₅ SS₅ R₅ F₅
    | ret v => cases e2; exact P ρ₅ h₅ tk₅ SS₅ R₅ F₅
    | exc => cases e2; exact P ρ₅ h₅ tk₅ SS₅ R₅ F₅
  · have hin : i = xs.length := by omega
    subst hin
    rw [List.drop_length] at e2
    simp only [aFor] at e2
    split at e2
    case isFalse => cases e2
    rename_i hchk
    refine It.done ρ₂ H₂ _ _ _ hchk st₂ R₂ fun h₃ tk₃ R₃ k₃ => ?_
    obtain ⟨F₃, S₃⟩ := walk h₃ R₃ k₃
    refine EE (hg σ₂ H₂ fl σ' H' ρ₂ _ _ E hE e2 F₃ R₃ fun ρ₅ h₅ tk₅ S₅ R₅ F₅ => ?_)
    have SS₅ : StepL env ρ s.heap ρ₅ h₅ := S₃.trans S₅ F₃.there
    have := P ρ₅ h₅ tk₅ SS₅ R₅ F₅
    cases fl <;> exact this

def aWhile (t : AB) (body : AS) : Nat → AS
  | 0, _, _ => none
  | n + 1, σ, H => (t σ H).bind fun b => if b.1 = true then (body σ b.2).bind fun q => (match q.1 with
      | .next => aWhile t body n q.2.1 q.2.2
      | .cont => aWhile t body n q.2.1 q.2.2
      | .brk => some (.next, q.2)
      | _ => some q) else some (.next, σ, b.2)

theorem x_while {test : Expr} {body : List Stmt} {pos : Pos} {t : AB} {f : AS} (N : Nat) (ht : SimB c A env test t) (hf : SimS c A env body f) : SimX c A env (.While test body [] pos) (aWhile t f N) := by
  intro σ H fl σ' H' ρ s Q E hE h F R P
  refine wpAny_While ?_
  have EE : ∀ {α : Type} {t : Sem α} {q : α → Shared → Prop} {z : Shared}, wpAny (model c.prog c.w) A t q E z → wpAny (model c.prog c.w) A t q (notedBy (model c.prog c.w) A env (cameBackBy (model c.prog c.w) A env E)) z := fun x => wpAny_passesOwn hE x
  refine codeAny_whileLoop (fun n s' => ∃ ρ₂ σ₂ H₂ h₂ tk₂, s' = { s with heap := h₂, toks := tk₂ } ∧ HR c.B ρ₂ H₂ h₂ ∧ FRc env σ₂ ρ₂ h₂ ∧ StepL env ρ s.heap ρ₂ h₂ ∧ aWhile t f n σ₂ H₂ = some (fl, σ', H')) ?_ N
    ⟨ρ, σ, H, s.heap, s.toks, rfl, R, F, (Step.refl _ _).toL, h⟩
  rintro n s' ⟨ρ₂, σ₂, H₂, h₂, tk₂, rfl, R₂, F₂, S₂, e2⟩
  cases n with
  | zero => cases e2
  | succ n =>
    obtain ⟨⟨b, H₃⟩, eb, e2⟩ := Option.bind_eq_some_iff.mp e2
    refine EE (ht σ₂ H₂ b H₃ ρ₂ _ _ _ eb F₂.toFR R₂ fun ρ₃ h₃ tk₃ cb S₃ R₃ V₃ => ?_)
    subst V₃
    have F₃ := F₂.mono R₂ S₃
    have SS₃ : StepL env ρ s.heap ρ₃ h₃ := S₂.trans S₃.toL F₂.there
    dsimp only at e2
    cases cb with
    | true =>
      simp only [if_true] at e2
      obtain ⟨⟨fl₄, σ₄, H₄⟩, ec, e2⟩ := Option.bind_eq_some_iff.mp e2
      refine EE (hf σ₂ H₃ fl₄ σ₄ H₄ ρ₃ _ _ E hE ec F₃ R₃ fun ρ₅ h₅ tk₅ S₅ R₅ F₅ => ?_)
      have SS₅ : StepL env ρ s.heap ρ₅ h₅ := SS₃.trans S₅ F₃.there
      cases fl₄ with
      | next => exact ⟨n, Nat.lt_succ_self _, ρ₅, σ₄, H₄, h₅, tk₅, rfl, R₅, F₅, SS₅, e2⟩
      | cont => exact ⟨n, Nat.lt_succ_self _, ρ₅, σ₄, H₄, h₅, tk₅, rfl, R₅, F₅, SS₅, e2⟩
      | brk => cases e2; exact P ρ₅ h₅ tk₅ SS₅ R₅ F₅
      | ret v => cases e2; exact P ρ₅ h₅ tk₅ SS₅ R₅ F₅
      | exc => cases e2; exact P ρ₅ h₅ tk₅ SS₅ R₅ F₅
    | false =>
      simp only [Bool.false_eq_true, if_false] at e2
      cases e2
      exact wpAny_execs_nil (P ρ₃ h₃ tk₃ SS₃ R₃ F₃)
end
end Mine

namespace Mine
open PySem PyProof.Rows PySem.W

def testsT (ifs : List Expr) (env : Env) : Sem Bool :=
  forIn ifs true fun c r => if r = true then do let ok ← isTrue c env (eval c env); pure (ForInStep.yield ok) else pure (ForInStep.yield r)
def emitK (elt : Expr) (ifs : List Expr) (acc : Value) (env : Env) (k : Unit → Sem Fin) : Sem Fin :=
  testsT ifs env >>= fun ok => if ok = true then ((eval elt env >>= fun x => call (.builtin "list.append") [acc, x] >>= fun _ => pure ()) >>= k) else k ()
def innerK (e : Expr) (ifs : List Expr) (iter2 : Expr) (acc : Value) (env : Env) (k : Unit → Sem Fin) : Sem Fin :=
  testsT ifs env >>= fun ok => if ok = true then (eval iter2 env >>= fun x => standAt iter2.pos >>= fun _ => foldedSetIterable iter2 env x >>= fun x => holding [x] (pyIter x) >>= fun it' => runOwn (.compStart e 1 it' acc env) env >>= fun _ => k ()) else k ()
def turnK (p : Pos) (target : Expr) (it : Value) (env : Env) (rest : (Unit → Sem Fin) → Sem Fin) (c : Code) : Sem Fin :=
  standAt p >>= fun _ => pyNext it >>= fun r => match r with
      | none => pure (.done .next)
      | some v => letOwnedTupleGo target it v >>= fun _ => assign target env v >>= fun _ => rest fun _ => again c

theorem turn1 (elt target iter : Expr) (ifs : List Expr) (scope : Scope) (pos : Pos) (it acc : Value) (env : Env) :
    compTurn (.ListComp elt [⟨target, iter, ifs, 0⟩] scope pos) 0 it acc env = turnK iter.pos target it env (emitK elt ifs acc env) (.compLoop (.ListComp elt [⟨target, iter, ifs, 0⟩] scope pos) 0 it acc env) := by rfl
theorem turn2a (elt target iter target2 iter2 : Expr) (ifs ifs2 : List Expr) (scope : Scope) (pos : Pos) (it acc : Value) (env : Env) :
    compTurn (.ListComp elt [⟨target, iter, ifs, 0⟩, ⟨target2, iter2, ifs2, 0⟩] scope pos) 0 it acc env =
      turnK iter.pos target it env (innerK (.ListComp elt [⟨target, iter, ifs, 0⟩, ⟨target2, iter2, ifs2, 0⟩] scope pos) ifs iter2 acc env) (.compLoop (.ListComp elt [⟨target, iter, ifs, 0⟩, ⟨target2, iter2, ifs2, 0⟩] scope pos) 0 it acc env) := by rfl
theorem turn2b (elt target iter target2 iter2 : Expr) (ifs ifs2 : List Expr) (scope : Scope) (pos : Pos) (it acc : Value) (env : Env) :
    compTurn (.ListComp elt [⟨target, iter, ifs, 0⟩, ⟨target2, iter2, ifs2, 0⟩] scope pos) 1 it acc env =
      turnK iter2.pos target2 it env (emitK elt ifs2 acc env) (.compLoop (.ListComp elt [⟨target, iter, ifs, 0⟩, ⟨target2, iter2, ifs2, 0⟩] scope pos) 1 it acc env) := by rfl

def hid (K : List String) (σ : Sg) : Sg := fun y => if K.contains y then none else σ y

theorem FRc.weaken {env : Env} {σ σ' : Sg} {ρ : List Addr} {h : Heap} (F : FRc env σ ρ h) (hw : ∀ y v, σ' y = some v → σ y = some v) : FRc env σ' ρ h := by
  refine ⟨F.kind, F.glob, F.bltn, ?_, fun x k => ?_, F.inj, F.allc⟩
  · obtain ⟨m, hn, hm⟩ := F.loc
    exact ⟨m, hn, fun x v k s => hm x v k (hw x v s)⟩
  · obtain ⟨q, v₀, h1, h2, h3⟩ := F.cel x k
    exact ⟨q, v₀, h1, h2, fun v s => h3 v (hw x v s)⟩

structure StepX (X : List Addr) (ρ : List Addr) (h : Heap) (ρ' : List Addr) (h' : Heap) : Prop where
  pre : ρ <+: ρ'
  new : ∀ b ∈ ρ', b ∈ ρ ∨ h.get? b = none
  keep : ∀ b o, h.get? b = some o → b ∉ ρ → b ∉ X → h'.get? b = some o
theorem StepX.refl (X ρ : List Addr) (h : Heap) : StepX X ρ h ρ h := ⟨List.prefix_refl _, fun _ hb => .inl hb, fun _ _ e _ _ => e⟩
theorem Step.toX {X ρ ρ' : List Addr} {h h' : Heap} (S : Step ρ h ρ' h') : StepX X ρ h ρ' h' := ⟨S.pre, S.new, fun b o e hb _ => S.keep b o e hb⟩
theorem StepX.trans {X ρ ρ' ρ'' : List Addr} {h h' h'' : Heap} (x : StepX X ρ h ρ' h') (y : StepX X ρ' h' ρ'' h'') (own : ∀ b ∈ X, ∃ o, h'.get? b = some o) : StepX X ρ h ρ'' h'' := by
  have new1 : ∀ b o, h.get? b = some o → b ∉ ρ → b ∉ ρ' := fun b o e hb hb' => by
    rcases x.new b hb' with q | q
    · exact hb q
    · rw [e] at q; cases q
  refine ⟨x.pre.trans y.pre, fun b hb => ?_, fun b o e hb h1 => y.keep b o (x.keep b o e hb h1) (new1 b o e hb) h1⟩
  rcases y.new b hb with q | q
  · exact x.new b q
  · cases e : h.get? b with
    | none => exact .inr rfl
    | some o =>
      by_cases hb' : b ∈ ρ
      · exact .inl hb'
      · by_cases h1 : b ∈ X
        · obtain ⟨o', e'⟩ := own b h1; rw [e'] at q; cases q
        · rw [x.keep b o e hb' h1] at q; cases q
theorem StepX.notin {X ρ ρ' : List Addr} {h h' : Heap} (x : StepX X ρ h ρ' h') {b : Addr} {o : Obj} (e : h.get? b = some o) (hb : b ∉ ρ) : b ∉ ρ' := fun hb' => by
  rcases x.new b hb' with q | q
  · exact hb q
  · rw [e] at q; cases q

section
variable {c : Cx} {A : Around} {env : Env}

abbrev AC := Sg → AH → Option (List AV × AH)

def SimEm (c : Cx) (A : Around) (env : Env) (D : Addr) (rest : (Unit → Sem Fin) → Sem Fin) (body : AC) (K : List String) : Prop :=
  ∀ σ H vs H' ρ (s : Shared) (k : Unit → Sem Fin) (Q : Fin → Shared → Prop) (E : Value → Shared → Prop) (ys : List Value), body σ H = some (vs, H') → FRc env σ ρ s.heap → HR c.B ρ H s.heap →
    s.heap.PlainList D ys.toArray → D ∉ ρ → c.B.get? D = none → ys.length + vs.length ≤ LIM →
    (∀ ρ' h' tk ws, StepX [env.locals, D] ρ s.heap ρ' h' → HR c.B ρ' H' h' → FRc env (hid K σ) ρ' h' → h'.PlainList D (ys ++ ws).toArray → VsR ρ' vs ws → wpAny (model c.prog c.w) A (k ()) Q E { s with heap := h', toks := tk }) →
    wpAny (model c.prog c.w) A (rest k) Q E s

theorem tests_nil {env : Env} {Q : Bool → Shared → Prop} {E : Value → Shared → Prop} {s : Shared} (h : Q true s) : wpAny (model c.prog c.w) A (testsT [] env) Q E s := wpAny_tests_nil h
theorem tests_one {env : Env} {t : Expr} {Q : Bool → Shared → Prop} {E : Value → Shared → Prop} {s : Shared} (h : wpAny (model c.prog c.w) A (isTrue t env (eval t env)) Q E s) : wpAny (model c.prog c.w) A (testsT [t] env) Q E s := wpAny_tests_one h

/-- the tests: none, or one -/
def SimTs (c : Cx) (A : Around) (env : Env) (ifs : List Expr) (t : AB) : Prop := Sim c A env (fun _ b a => a = b) (testsT ifs env) t
def tTrue : AB := fun _ H => some (true, H)
theorem ts_nil : SimTs c A env [] tTrue := by
  intro σ H v H' ρ s Q E h F R P
  cases h
  exact tests_nil (P.ret0 R rfl)
theorem ts_one {t : Expr} {f : AB} (hf : SimB c A env t f) : SimTs c A env [t] f := by
  intro σ H v H' ρ s Q E h F R P
  exact tests_one (hf σ H v H' ρ s Q E h F R P)

def cEmit (t : AB) (f : AE) : AC := fun σ H => (t σ H).bind fun b => if b.1 = true then (f σ b.2).map fun r => ([r.1], r.2) else some ([], b.2)

theorem plain_at {h h' : Heap} {D : Addr} {ys : Array Value} (x : h.PlainList D ys) (k : ∀ o, h.get? D = some o → h'.get? D = some o) : h'.PlainList D ys := x.at k

theorem em_elt {D : Addr} {elt : Expr} {ifs : List Expr} {t : AB} {f : AE} (ht : SimTs c A env ifs t) (hf : SimE c A env elt f) : SimEm c A env D (emitK elt ifs (.ref D) env) (cEmit t f) [] := by
  intro σ H vs H' ρ s k Q E ys h F R hD hDρ hDB hl K
  obtain ⟨⟨b, H₁⟩, e1, h'⟩ := Option.bind_eq_some_iff.mp h
  unfold emitK
  refine wpAny_bind (ht σ H b H₁ ρ s _ E e1 F.toFR R fun ρ₁ h₁ tk₁ cb S₁ R₁ V₁ => ?_)
  subst V₁
  have F₁ := F.mono R S₁
  obtain ⟨nD, eD⟩ := id hD
  have hD₁ : h₁.PlainList D ys.toArray := plain_at hD fun o e => S₁.keep _ _ e hDρ
  have hDρ₁ : D ∉ ρ₁ := (Step.toX (X := []) S₁).notin eD hDρ
  have hidn : ∀ σ : Sg, hid [] σ = σ := fun σ => by funext y; simp [hid]
  dsimp only at h'
  cases cb with
  | true =>
    simp only [if_true, Option.map_eq_some_iff] at h'
    obtain ⟨⟨v, H₂⟩, e2, e3⟩ := h'
    cases e3
    simp only [if_true]
    refine wpAny_bind (wpAny_bind (hf σ H₁ v H₂ ρ₁ _ _ E e2 F₁.toFR R₁ fun ρ₂ h₂ tk₂ cv S₂ R₂ V₂ => ?_))
    have F₂ := F₁.mono R₁ S₂
    obtain ⟨nD₁, eD₁⟩ := id hD₁
    have hD₂ : h₂.PlainList D ys.toArray := plain_at hD₁ fun o e => S₂.keep _ _ e hDρ₁
    have hDρ₂ : D ∉ ρ₂ := (Step.toX (X := []) S₂).notin eD₁ hDρ₁
    refine wpAny_bind (wpAny_list_append_plain hD₂ (fun h₃ hL₃ hs₃ => ?_) (by
      have h3 : LIM = 1000 := rfl
      have h4 : sizeLine = 2 ^ 24 := rfl
      simp only [List.size_toArray]; omega))
    refine wpAny_pure ?_
    have keepO : ∀ b o, b ≠ D → h₂.get? b = some o → h₃.get? b = some o := fun b o hb e => (hs₃.2 b hb).trans e
    have R₃ := R₂.but hDρ₂ hDB keepO
    have F₃ : FRc env σ ρ₂ h₃ := by
      obtain ⟨nD₂, eD₂⟩ := id hD₂
      refine ⟨F₂.kind, F₂.glob, F₂.bltn, ?_, fun x kx => ?_, F₂.inj, fun p hp => ?_⟩
      · obtain ⟨m, ⟨o, es, ep, e, hd, r⟩, hm⟩ := F₂.loc
        exact ⟨m, ⟨o, es, ep, keepO _ _ (by intro q; rw [q, eD₂] at e; cases e; cases hd) e, hd, r⟩, hm⟩
      · obtain ⟨q, v₀, h1, ⟨o, e, hd⟩, h2⟩ := F₂.cel x kx
        exact ⟨q, v₀, h1, ⟨o, keepO _ _ (by intro q; rw [q, eD₂] at e; cases e; cases hd) e, hd⟩, h2⟩
      · obtain ⟨v, o, e, hd⟩ := F₂.allc p hp
        exact ⟨v, o, keepO _ _ (by intro q; rw [q, eD₂] at e; cases e; cases hd) e, hd⟩
    refine K ρ₂ h₃ tk₂ [cv] ?_ R₃ (by rw [hidn]; exact F₃) (by simpa using hL₃) (.cons V₂ .nil)
    refine ⟨S₁.pre.trans S₂.pre, (S₁.trans S₂).new, fun b o e hb hx => keepO b o (by rintro rfl; exact hx (by simp)) ((S₁.trans S₂).keep b o e hb)⟩
  | false =>
    simp only [Bool.false_eq_true, if_false] at h' ⊢
    cases h'
    exact K ρ₁ h₁ tk₁ [] S₁.toX R₁ (by rw [hidn]; exact F₁) (by simpa using hD₁) .nil

def cLoop (chk : AH → Bool) (asg : Asg) (body : AC) (σ : Sg) : List AV → AH → Option (List AV × AH)
  | [], H => if chk H = true then some ([], H) else none
  | x :: r, H => if chk H = true then (asg x σ H).bind fun σ₁ => (body σ₁ H).bind fun q => (cLoop chk asg body σ r q.2).map fun z => (q.1 ++ z.1, z.2) else none

/-- an assignment changes no other names -/
def AsgOn (asg : Asg) (ns : List String) : Prop := ∀ x σ H σ', asg x σ H = some σ' → ∀ y, ns.contains y = false → σ' y = σ y
theorem asgN_on (x : String) : AsgOn (asgN x) [x] := by
  intro v σ H σ' h y hy
  cases h
  simp at hy
  simp [upd, hy]

section
variable {prog : Program} {w : World} {R : Result → Shared → Prop} {s : Shared}
theorem compLoopG {elt : Expr} {gens : List Comprehension} {scope : Scope} {pos p : Pos} {d : Nat} {target : Expr} {it acc : Value} {rest : (Unit → Sem Fin) → Sem Fin}
    (hT : compTurn (.ListComp elt gens scope pos) d it acc env = turnK p target it env rest (.compLoop (.ListComp elt gens scope pos) d it acc env)) (I : Nat → Shared → Prop)
    (turn : ∀ n s, I n s → wpAny (model prog w) A (pyNext it) (fun r s₁ => match r with
      | none => R (.ok .next) s₁
      | some v => wpAny (model prog w) A (letOwnedTupleGo target it v) (fun _ s₁' => wpAny (model prog w) A (assign target env v) (fun _ s₂ =>
          wpAny (model prog w) A (rest fun _ => again (.compLoop (.ListComp elt gens scope pos) d it acc env)) (fun fin s' => match fin with | .done f => R (.ok f) s' | .again c' => c' = (.compLoop (.ListComp elt gens scope pos) d it acc env) ∧ ∃ m, m < n ∧ I m s')
            (notedBy (model prog w) A env fun e s' => R (.error e) s') s₂) (notedBy (model prog w) A env fun e s' => R (.error e) s') s₁')
          (notedBy (model prog w) A env fun e s' => R (.error e) s') s₁) (notedBy (model prog w) A env fun e s' => R (.error e) s') s)
    (n : Nat) (h : I n s) : codeAny (model prog w) A (.compLoop (.ListComp elt gens scope pos) d it acc env) R s := by
  refine codeAny_loop' rfl I (fun n s hI => ?_) n h
  show wpAny _ A ((compTurn (.ListComp elt gens scope pos) d it acc env).onRaise (fun x => do noteFrame x env; theTreesLotGoes x)) _ _ s
  refine wpAny_noted ?_
  rw [hT]
  unfold turnK
  refine wpAny_bind (wpAny_standAt (wpAny_bind (wpAny_mono (turn n s hI) (fun r s₁ h₁ => ?_) fun _ _ h' => h')))
  cases r with
  | none => exact wpAny_pure h₁
  | some v =>
    refine wpAny_bind (wpAny_mono h₁ (fun _ s₁' h₁' => ?_) fun _ _ h' => h')
    refine wpAny_bind (wpAny_mono h₁' (fun _ s₂ h₂ => ?_) fun _ _ h' => h')
    refine wpAny_mono h₂ (fun fin s₃ h₃ => ?_) fun _ _ h' => h'
    cases fin with
    | done f => exact h₃
    | again c' => exact .inl h₃

theorem compStartG {elt : Expr} {gens : List Comprehension} {scope : Scope} {pos : Pos} {d : Nat} {it acc : Value} (hA : ((clausesOf (.ListComp elt gens scope pos))[d]?).elim false (·.is_async != 0) = false)
    (h : wpAny (model prog w) A (pyIter it) (fun it' s' => codeAny (model prog w) A (.compLoop (.ListComp elt gens scope pos) d it' acc env) R s') (notedBy (model prog w) A env fun x s' => R (.error x) s') s)
    (h0 : codeAny (model prog w) A (.compLoop (.ListComp elt gens scope pos) d it acc env) R s) :
    codeAny (model prog w) A (.compStart (.ListComp elt gens scope pos) d it acc env) R s := by
  refine codeAny_of_tree ?_
  show wpAny _ _ ((compStart (.ListComp elt gens scope pos) d it acc env).onRaise (fun x => do noteFrame x env; standAt theWindowsPlace)) _ _ s
  refine wpAny_notedAt ?_
  unfold compStart
  rw [hA]
  simp only [Bool.false_eq_true, if_false]
  refine wpAny_bind (wpAny_askSetting (wpAny_ite ?_))
  split
  · first
      | exact wpAny_bind (wpAny_pure (wpAny_pure (And.intro rfl h0)))
      | exact wpAny_pure (And.intro rfl h0)
  · refine wpAny_bind (wpAny_rule ?_)
    split
    · exact wpAny_bind (wpAny_standAt (wpAny_bind (wpAny_mono h (fun it' s' h' => wpAny_pure (And.intro rfl h')) fun _ _ x => x)))
    · exact wpAny_bind (wpAny_mono h (fun it' s' h' => wpAny_pure (And.intro rfl h')) fun _ _ x => x)
end

theorem own_fields {σ : Sg} {ρ : List Addr} {h : Heap} (F : FRc env σ ρ h) {I : Addr} {o : Obj} {fs : Array Value} (e : h.get? I = some o) (hd : o.data = .fields fs) : I ≠ env.locals ∧ ∀ p ∈ env.cells, p.2 ≠ I := by
  refine ⟨?_, fun p hp q => ?_⟩
  · rintro rfl
    obtain ⟨m, ⟨o', es, ep, e', hd', _⟩, _⟩ := F.loc
    rw [e] at e'; cases e'; rw [hd] at hd'; cases hd'
  · obtain ⟨v, o', e', hd'⟩ := F.allc p hp
    rw [q, e] at e'; cases e'; rw [hd] at hd'; cases hd'

/-- only the object I has changed -/
theorem FRc.but {σ : Sg} {ρ : List Addr} {h h' : Heap} (F : FRc env σ ρ h) {I : Addr} {o : Obj} {fs : Array Value} (e : h.get? I = some o) (hd : o.data = .fields fs) (k : ∀ b o, b ≠ I → h.get? b = some o → h'.get? b = some o) : FRc env σ ρ h' := by
  obtain ⟨h1, h2⟩ := own_fields F e hd
  refine ⟨F.kind, F.glob, F.bltn, ?_, fun x kx => ?_, F.inj, fun p hp => ?_⟩
  · obtain ⟨m, ⟨o, es, ep, e, r⟩, hm⟩ := F.loc
    exact ⟨m, ⟨o, es, ep, k _ _ (Ne.symm h1) e, r⟩, hm⟩
  · obtain ⟨q, v₀, a1, ⟨o', e', hd'⟩, a2⟩ := F.cel x kx
    exact ⟨q, v₀, a1, ⟨o', k _ _ (by rintro rfl; rw [e] at e'; cases e'; rw [hd] at hd'; cases hd') e', hd'⟩, a2⟩
  · obtain ⟨v, o', e', hd'⟩ := F.allc p hp
    exact ⟨v, o', k _ _ (h2 p hp) e', hd'⟩

/-- the loop of one clause, from an iterator that stands at its start -/
theorem comp_loop {elt : Expr} {gens : List Comprehension} {scope : Scope} {pos p : Pos} {d : Nat} {target : Expr} {D I : Addr} {rest : (Unit → Sem Fin) → Sem Fin} {asg : Asg} {body : AC} {K ns : List String}
    {xs : List AV} {chk : AH → Bool} {St : Nat → List Addr → Heap → Prop} {σ : Sg} {H H' : AH} {vs : List AV} {ρ : List Addr} {s : Shared} {R : Result → Shared → Prop} {ys : List Value}
    (hT : compTurn (.ListComp elt gens scope pos) d (.ref I) (.ref D) env = turnK p target (.ref I) env rest (.compLoop (.ListComp elt gens scope pos) d (.ref I) (.ref D) env))
    (It : Itr c A I xs chk St) (st : St 0 ρ s.heap) (ha : ∀ σ H x cv σ' ρ (s : Shared) (Q : Unit → Shared → Prop) (E : Value → Shared → Prop), asg x σ H = some σ' → FRc env σ ρ s.heap → HR c.B ρ H s.heap → VR ρ x cv →
      (∀ h' tk, StepX [env.locals] ρ s.heap ρ h' → HR c.B ρ H h' → FRc env σ' ρ h' → Q () { s with heap := h', toks := tk }) → wpAny (model c.prog c.w) A (assign target env cv) Q E s)
    (hon : AsgOn asg ns) (hns : ∀ y, ns.contains y = true → σ y = none) (hK : ∀ y, K.contains y = true → σ y = none)
    (hb : SimEm c A env D rest body K) (h : cLoop chk asg body σ xs H = some (vs, H')) (F : FRc env σ ρ s.heap) (R₀ : HR c.B ρ H s.heap) (hD : s.heap.PlainList D ys.toArray) (hDρ : D ∉ ρ) (hDB : c.B.get? D = none) (hl : ys.length + vs.length ≤ LIM)
    (hQ : ∀ ρ' h' tk ws, StepX [env.locals, D, I] ρ s.heap ρ' h' → HR c.B ρ' H' h' → FRc env σ ρ' h' → h'.PlainList D (ys ++ ws).toArray → VsR ρ' vs ws → R (.ok .next) { s with heap := h', toks := tk }) :
    codeAny (model c.prog c.w) A (.compLoop (.ListComp elt gens scope pos) d (.ref I) (.ref D) env) R s := by
  refine compLoopG hT (fun n s' => ∃ i ρ₂ H₂ h₂ tk₂ us ws vs', n = xs.length + 1 - i ∧ i ≤ xs.length ∧ s' = { s with heap := h₂, toks := tk₂ } ∧ St i ρ₂ h₂ ∧ HR c.B ρ₂ H₂ h₂ ∧ FRc env σ ρ₂ h₂ ∧ StepX [env.locals, D, I] ρ s.heap ρ₂ h₂ ∧
    h₂.PlainList D (ys ++ ws).toArray ∧ D ∉ ρ₂ ∧ VsR ρ₂ us ws ∧ vs = us ++ vs' ∧ cLoop chk asg body σ (xs.drop i) H₂ = some (vs', H')) ?_ (xs.length + 1)
    ⟨0, ρ, H, s.heap, s.toks, [], [], vs, by omega, Nat.zero_le _, rfl, st, R₀, F, .refl .., by simpa using hD, hDρ, .nil, rfl, by simpa using h⟩
  rintro n s' ⟨i, ρ₂, H₂, h₂, tk₂, us, ws, vs', rfl, hil, rfl, st₂, R₂, F₂, S₂, hD₂, hDρ₂, hus, rfl, e2⟩
  obtain ⟨oI, T, fs, eI, hcI, hTI, hdI⟩ := It.live _ _ _ st₂
  obtain ⟨nD, eD⟩ := id hD₂
  have hDI : D ≠ I := by rintro rfl; rw [eD] at eI; cases eI; cases hdI
  have hIρ₂ : I ∉ ρ₂ := R₂.notin eI fun vs n q => by rw [hdI] at q; cases q
  have lw := hus.length
  by_cases hlt : i < xs.length
  · have hx : xs[i]? = some xs[i] := by simp [hlt]
    have hdp : xs.drop i = xs[i] :: xs.drop (i + 1) := List.drop_eq_getElem_cons hlt
    rw [hdp] at e2
    simp only [cLoop] at e2
    split at e2
    case isFalse => cases e2
    rename_i hchk
    obtain ⟨σ₃, ea, e2⟩ := Option.bind_eq_some_iff.mp e2
    obtain ⟨⟨v1, H₃⟩, eb, e2⟩ := Option.bind_eq_some_iff.mp e2
    simp only [Option.map_eq_some_iff] at e2
    obtain ⟨⟨v2, H₄⟩, ec, e3⟩ := e2
    cases e3
    refine It.item i ρ₂ H₂ _ _ _ xs[i] hx hchk st₂ R₂ fun h₃ tk₃ cv st₃ R₃ k₃ V₃ => ?_
    have F₃ := F₂.but eI hdI k₃
    obtain ⟨oI₃, T₃, fs₃, eI₃, hcI₃, hT₃, hdI₃⟩ := It.live _ _ _ st₃
    refine owned_go eI₃ hcI₃ hT₃ hdI₃ ?_
    refine ha σ H₂ xs[i] cv σ₃ ρ₂ _ _ _ ea F₃ R₃ V₃ fun h₄ tk₄ S₄ R₄ F₄ => ?_
    obtain ⟨hIL, hIC⟩ := own_fields F₃ eI₃ hdI₃
    have hDL : D ≠ env.locals := by
      rintro rfl
      obtain ⟨m, ⟨o', es, ep, e', hd', _⟩, _⟩ := F₂.loc
      rw [eD] at e'; cases e'; cases hd'
    have eI₄ : h₄.get? I = some oI₃ := S₄.keep _ _ eI₃ hIρ₂ (by simpa using hIL)
    have eD₃ : h₃.get? D = _ := k₃ _ _ hDI eD
    have eD₄ : h₄.get? D = _ := S₄.keep _ _ eD₃ hDρ₂ (by simpa using hDL)
    have hD₄ : h₄.PlainList D (ys ++ ws).toArray := ⟨nD, eD₄⟩
    refine hb σ₃ H₂ v1 H₃ ρ₂ _ _ _ _ (ys ++ ws) eb F₄ R₄ hD₄ hDρ₂ hDB (by simp only [List.length_append] at hl ⊢; omega) fun ρ₅ h₅ tk₅ zs S₅ R₅ F₅ hD₅ hz => ?_
    refine wpAny_pure ?_
    have hIρ₅ : I ∉ ρ₅ := S₅.notin eI₄ hIρ₂
    have eI₅ : h₅.get? I = some oI₃ := S₅.keep _ _ eI₄ hIρ₂ (by simp; exact ⟨hIL, hDI.symm⟩)
    have F₅' : FRc env σ ρ₅ h₅ := F₅.weaken fun y v sy => by
      have hnK : K.contains y = false := by
        cases q : K.contains y with
        | false => rfl
        | true => rw [hK y q] at sy; cases sy
      have hnN : ns.contains y = false := by
        cases q : ns.contains y with
        | false => rfl
        | true => rw [hns y q] at sy; cases sy
      simp only [hid, hnK, Bool.false_eq_true, if_false]
      rw [hon _ _ _ _ ea y hnN]; exact sy
    have st₅ : St (i + 1) ρ₅ h₅ := It.frame _ _ _ _ _ st₃ S₅.pre fun o e => by
      rw [eI₃] at e; cases e; exact eI₅
    have SSn : ∀ b ∈ ρ₅, b ∈ ρ₂ ∨ h₂.get? b = none := fun b hb' => by
      rcases S₅.new b hb' with q | q
      · exact .inl q
      · refine .inr ?_
        cases e : h₂.get? b with
        | none => rfl
        | some o =>
          exfalso
          by_cases hbI : b = I
          · rw [hbI, eI₄] at q; cases q
          · by_cases hbρ : b ∈ ρ₂
            · obtain ⟨n', hn', rfl⟩ := List.getElem_of_mem hbρ
              have hn'' : n' < H₂.length := R₄.len ▸ hn'
              obtain ⟨ob, vs, k, e', hd'⟩ := (R₄.obj n' ρ₂[n'] H₂[n'] (by simp [hn']) (by simp [hn''])).seq
              rw [e'] at q; cases q
            · by_cases hbL : b = env.locals
              · obtain ⟨o', e'⟩ := F₄.there b (.inl hbL)
                rw [e'] at q; cases q
              · rw [S₄.keep _ _ (k₃ _ _ hbI e) hbρ (by simpa using hbL)] at q; cases q
    have SS : StepX [env.locals, D, I] ρ₂ h₂ ρ₅ h₅ := ⟨S₅.pre, SSn, fun b o e hb' hx' => by
      simp only [List.mem_cons, List.not_mem_nil, or_false, not_or] at hx'
      exact S₅.keep _ _ (S₄.keep _ _ (k₃ _ _ hx'.2.2 e) hb' (by simpa using hx'.1)) hb' (by simp; exact ⟨hx'.1, hx'.2.1⟩)⟩
    refine ⟨rfl, xs.length + 1 - (i + 1), by omega, i + 1, ρ₅, H₃, h₅, tk₅, us ++ v1, ws ++ zs, v2, rfl, hlt, rfl, st₅, R₅, F₅', S₂.trans SS ?_, by simpa [List.append_assoc] using hD₅, S₅.notin eD₄ hDρ₂,
      pr_app (hus.mono S₅.pre) hz, by simp, ec⟩
    intro b hb'
    simp only [List.mem_cons, List.not_mem_nil, or_false] at hb'
    rcases hb' with rfl | rfl | rfl
    · exact F₂.there _ (.inl rfl)
    · exact ⟨_, eD⟩
    · exact ⟨_, eI⟩
  · have hin : i = xs.length := by omega
    subst hin
    rw [List.drop_length] at e2
    simp only [cLoop] at e2
    split at e2
    case isFalse => cases e2
    rename_i hchk
    cases e2
    refine It.done ρ₂ H' _ _ _ hchk st₂ R₂ fun h₃ tk₃ R₃ k₃ => ?_
    have F₃ := F₂.but eI hdI k₃
    refine hQ ρ₂ h₃ tk₃ ws ⟨S₂.pre, S₂.new, fun b o e hb' hx' => k₃ b o (by rintro rfl; exact hx' (by simp)) (S₂.keep b o e hb' hx')⟩ R₃ F₃ ⟨nD, k₃ _ _ hDI eD⟩ (by simpa using hus)
end
end Mine

namespace Mine
open PySem PyProof.Rows PySem.W

theorem lookup_mem {α β : Type} [BEq α] [LawfulBEq α] {x : α} {v : β} : ∀ {l : List (α × β)}, l.lookup x = some v → (x, v) ∈ l
  | [], h => by cases h
  | (a, b) :: r, h => by
    rw [List.lookup_cons] at h
    cases hb : (x == a) with
    | true => rw [hb] at h; cases h; rw [← beq_iff_eq.mp hb]; exact .head _
    | false => rw [hb] at h; exact .tail _ (lookup_mem h)

def locsIn (names : List (Str × NameKind)) (K : List String) : Bool := names.all fun p => p.2 != .local || K.any fun k => Str.ofString k == p.1
theorem locsIn_spec {names : List (Str × NameKind)} {K : List String} (h : locsIn names K = true) {x : String} (hx : names.lookup (Str.ofString x) = some .local) : K.contains x = true := by
  have hm := lookup_mem hx
  have h1 := List.all_eq_true.mp h _ hm
  simp only [bne_self_eq_false, Bool.false_or, List.any_eq_true] at h1
  obtain ⟨k, hk, e⟩ := h1
  have : k = x := ofString_inj (beq_iff_eq.mp e)
  subst this
  simpa using hk
def noCells (names : List (Str × NameKind)) : Bool := names.all fun p => p.2 != .cell && p.2 != .free
theorem noCells_spec {names : List (Str × NameKind)} (h : noCells names = true) {x : Str} {k : NameKind} (hx : names.lookup x = some k) : k ≠ .cell ∧ k ≠ .free := by
  have h1 := List.all_eq_true.mp h _ (lookup_mem hx)
  simp only [Bool.and_eq_true, bne_iff_ne] at h1
  exact h1
def cellsOk (names outer : List (Str × NameKind)) : Bool := names.all fun p => (p.2 != .cell && p.2 != .free) || outer.lookup p.1 == some .cell || outer.lookup p.1 == some .free
theorem cellsOk_spec {names outer : List (Str × NameKind)} (h : cellsOk names outer = true) {x : Str} {k : NameKind} (hx : names.lookup x = some k) (hk : k = .cell ∨ k = .free) : outer.lookup x = some .cell ∨ outer.lookup x = some .free := by
  have h1 := List.all_eq_true.mp h _ (lookup_mem hx)
  simp only [Bool.or_eq_true, Bool.and_eq_true, bne_iff_ne, beq_iff_eq] at h1
  rcases h1 with (h1 | h1) | h1
  · rcases hk with rfl | rfl
    · exact absurd rfl h1.1
    · exact absurd rfl h1.2
  · exact .inl h1
  · exact .inr h1

/-- the comprehension's own environment is in order -/
structure CEnv (env : Env) (scope : Scope) (cl : List (Str × Addr)) (K : List String) : Prop where
  kind : scope.kind = .function
  nocell : ∀ x ∈ scope.names, x.2 ≠ .cell
  names : ∀ x ∈ scope.names, x.2 = .local → scope.names.lookup x.1 = some .local
  clos : closureFor scope env = pure cl
  locs : locsIn (relabel scope env).names K = true
  cells : (cl = [] ∧ noCells (relabel scope env).names = true) ∨ (cl = env.cells ∧ cellsOk (relabel scope env).names env.scope.names = true)

section
variable {c : Cx} {A : Around} {env : Env}

theorem cenv_start {scope : Scope} {cl : List (Str × Addr)} {K : List String} (W : CEnv env scope cl K) {σ : Sg} {ρ : List Addr} {h : Heap} {C : Addr} {m : Str → Option Value} (F : FRc env σ ρ h) (hC : h.Ns C m) :
    FRc (compEnvC scope cl C env) (hid K σ) ρ h := by
  refine ⟨W.kind, F.glob, F.bltn, ⟨m, hC, fun x v k s => ?_⟩, fun x k => ?_, ?_, ?_⟩
  · have : K.contains x = true := locsIn_spec W.locs k
    simp only [hid, this, if_true] at s
    cases s
  · rcases W.cells with ⟨rfl, hn⟩ | ⟨rfl, hn⟩
    · rcases k with k | k
      · exact absurd rfl (noCells_spec hn k).1
      · exact absurd rfl (noCells_spec hn k).2
    · have hk : env.scope.names.lookup (Str.ofString x) = some .cell ∨ env.scope.names.lookup (Str.ofString x) = some .free := by
        rcases k with k | k
        · exact cellsOk_spec hn k (.inl rfl)
        · exact cellsOk_spec hn k (.inr rfl)
      obtain ⟨q, v₀, h1, h2, h3⟩ := F.cel x hk
      refine ⟨q, v₀, h1, h2, fun v s => h3 v ?_⟩
      unfold hid at s
      split at s
      · cases s
      · exact s
  · rcases W.cells with ⟨rfl, hn⟩ | ⟨rfl, hn⟩
    · intro x y q e _; cases e
    · exact F.inj
  · rcases W.cells with ⟨rfl, hn⟩ | ⟨rfl, hn⟩
    · intro p hp; cases hp
    · exact F.allc

/-- an assignment to a name in the comprehension's environment -/
theorem comp_asg {scope : Scope} {cl : List (Str × Addr)} {C : Addr} {x : String} {px : Pos} (B : EnvB c (compEnvC scope cl C env)) (hx : (relabel scope env).names.lookup (Str.ofString x) = some .local) :
    ∀ σ H v cv σ' ρ (s : Shared) (Q : Unit → Shared → Prop) (E : Value → Shared → Prop), asgN x v σ H = some σ' → FRc (compEnvC scope cl C env) σ ρ s.heap → HR c.B ρ H s.heap → VR ρ v cv →
      (∀ h' tk, StepX [C] ρ s.heap ρ h' → HR c.B ρ H h' → FRc (compEnvC scope cl C env) σ' ρ h' → Q () { s with heap := h', toks := tk }) → wpAny (model c.prog c.w) A (assign (.Name (Str.ofString x) px) (compEnvC scope cl C env) cv) Q E s := by
  intro σ H v cv σ' ρ s Q E h F R V K
  cases h
  have hp : ((compEnvC scope cl C env).scope.kind == .class || ((compEnvC scope cl C env).scope.kind == .module && (compEnvC scope cl C env).locals != (compEnvC scope cl C env).globals)) = false := by rw [F.kind]; rfl
  obtain ⟨m, hn, hm⟩ := F.loc
  have hL : C ∉ ρ := F.toFR.own R
  refine wpAny_assign_Name (wpAny_storeName_local (env := compEnvC scope cl C env) hx hn (fun h' hn' hs => ?_) hp)
  have keepO : ∀ b o, b ≠ C → s.heap.get? b = some o → h'.get? b = some o := fun b o hb e => (hs.2 b hb).trans e
  have R' := R.but hL B.loc keepO
  have notC : ∀ q v₀, s.heap.IsCell q v₀ → q ≠ C := fun q v₀ hc e => by
    obtain ⟨o, e1, hd⟩ := hc
    obtain ⟨o', es, ep, e2, hd', _⟩ := hn
    change s.heap.get? C = some o' at e2
    rw [e, e2] at e1; cases e1; rw [hd] at hd'; cases hd'
  refine K h' _ ⟨List.prefix_refl _, fun b hb => .inl hb, fun b o e _ hb => keepO b o (by rintro rfl; exact hb (by simp)) e⟩ R' ⟨F.kind, F.glob, F.bltn, ⟨_, hn', fun y w ky sy => ?_⟩, fun y ky => ?_, F.inj, fun p hp => ?_⟩
  · by_cases hy : y = x
    · subst hy
      simp only [upd, if_true] at sy
      cases sy
      exact ⟨cv, by simp, V⟩
    · simp only [upd, if_neg hy] at sy
      have hy' : Str.ofString y ≠ Str.ofString x := fun e => hy (ofString_inj e)
      simp only [if_neg hy']
      exact hm y w ky sy
  · have hy : y ≠ x := by
      rintro rfl
      change (relabel scope env).names.lookup (Str.ofString y) = some .cell ∨ (relabel scope env).names.lookup (Str.ofString y) = some .free at ky
      rw [hx] at ky; rcases ky with ky | ky <;> cases ky
    obtain ⟨q, v₀, h1, h2, h3⟩ := F.cel y ky
    obtain ⟨o, e1, hd⟩ := id h2
    exact ⟨q, v₀, h1, ⟨o, keepO _ _ (notC q v₀ h2) e1, hd⟩, fun w sw => by simp only [upd, if_neg hy] at sw; exact h3 w sw⟩
  · obtain ⟨w, h2⟩ := F.allc p hp
    obtain ⟨o, e1, hd⟩ := id h2
    exact ⟨w, o, keepO _ _ (notC _ _ h2) e1, hd⟩

theorem hid_none {K : List String} {σ : Sg} {y : String} (h : K.contains y = true) : hid K σ y = none := by simp [hid] at h ⊢; intro q; exact absurd h q

/-- the whole of a comprehension, up to its end -/
theorem comp_core {elt iter : Expr} {x : String} {px pos : Pos} {ifs : List Expr} {more : List Comprehension} {scope : Scope} {cl : List (Str × Addr)} {K : List String} {it : AI} {body : AC} {use : Option (Value → Sem Unit)}
    {σ : Sg} {H H₁ H' : AH} {xs vs : List AV} {chk : AH → Bool} {ρ : List Addr} {s : Shared} {Q : Value → Shared → Prop} {E : Value → Shared → Prop} {rest : Addr → Env → (Unit → Sem Fin) → Sem Fin}
    (hs : ∀ x, foldedSetIterable iter env x = pure x) (W : CEnv env scope cl K) (B : EnvB c env) (hx : (relabel scope env).names.lookup (Str.ofString x) = some .local) (hxK : K.contains x = true)
    (hT : ∀ I D C, compTurn (.ListComp elt (⟨.Name (Str.ofString x) px, iter, ifs, 0⟩ :: more) scope pos) 0 (.ref I) (.ref D) (compEnvC scope cl C env) =
      turnK iter.pos (.Name (Str.ofString x) px) (.ref I) (compEnvC scope cl C env) (rest D (compEnvC scope cl C env)) (.compLoop (.ListComp elt (⟨.Name (Str.ofString x) px, iter, ifs, 0⟩ :: more) scope pos) 0 (.ref I) (.ref D) (compEnvC scope cl C env)))
    (hb : ∀ D C, EnvB c (compEnvC scope cl C env) → SimEm c A (compEnvC scope cl C env) D (rest D (compEnvC scope cl C env)) body K) (hi : SimI c A env iter it)
    (e1 : it σ H = some ((xs, chk), H₁)) (e2 : cLoop chk (asgN x) body (hid K σ) xs H₁ = some (vs, H')) (hl : vs.length ≤ LIM) (F : FRc env σ ρ s.heap) (R : HR c.B ρ H s.heap)
    (fin : ∀ ρ' h' tk D C m' ws, Step ρ s.heap ρ' h' → HR c.B ρ' H' h' → h'.PlainList D (List.toArray ws) → VsR ρ' vs ws → s.heap.get? D = none → D ∉ ρ' → s.heap.get? C = none → c.B.get? D = none → D ≠ C → h'.Ns C m' →
      compPost (model c.prog c.w) A E use Q (.ref D) C (.ok .next) { s with heap := h', toks := tk }) :
    wpAny (model c.prog c.w) A (comprehension (.ListComp elt (⟨.Name (Str.ofString x) px, iter, ifs, 0⟩ :: more) scope pos) scope env iter.pos (newList []) false (eval iter env) use) Q E s := by
  refine wpAny_comprehension_free (cl := cl) rfl hs W.clos W.kind W.names ?_
  refine hi σ H xs chk H₁ ρ s _ E e1 F.toFR R fun ρ₁ h₁ tk₁ I St S₁ R₁ hI It st₁ => ?_
  have F₁ := F.mono R S₁
  refine wpAny_newObj_type (wpAny_newFunctionEnv W.nocell (by intro y hy; simp at hy) (fun h₂ hns₂ hsb₂ => ?_) W.kind)
  dsimp only at hns₂ hsb₂ ⊢
  generalize hH2 : h₁.push { cls := .type "list", dict := none, data := .seq ([] : List Value).toArray } = H2 at hns₂ hsb₂ ⊢
  have hC : H2.objs.size = h₁.objs.size + 1 := by rw [← hH2, Heap.size_push]
  have hDC : h₁.objs.size ≠ H2.objs.size := by rw [hC]; exact Nat.ne_of_lt (Nat.lt_succ_self _)
  have below : ∀ b, b < h₁.objs.size → b ≠ H2.objs.size := fun b hb => by rw [hC]; exact Nat.ne_of_lt (Nat.lt_succ_of_lt hb)
  have old : ∀ b o, h₁.get? b = some o → h₂.get? b = some o := fun b o e => hsb₂.extBut b o (below b (Heap.lt_size e)) (Heap.get?_push_of_some _ (hH2 ▸ Heap.get?_push_of_some _ e))
  have hD₂ : h₂.PlainList h₁.objs.size ([] : List Value).toArray := ⟨_, hsb₂.extBut _ _ hDC (Heap.get?_push_of_some _ (hH2 ▸ Heap.get?_push_size _ rfl))⟩
  have freeD : h₁.get? h₁.objs.size = none := get_none_size h₁
  have freeC : h₁.get? H2.objs.size = none := by
    cases q : h₁.get? H2.objs.size with
    | none => rfl
    | some o => exact absurd (Heap.lt_size q) (by rw [hC]; exact Nat.not_lt.mpr (Nat.le_succ _))
  have R₂ := R₁.of_keeps old
  have S₂ : Step ρ₁ h₁ ρ₁ h₂ := .of_keeps ρ₁ old
  have F₂ := F₁.mono R₁ S₂
  have Fc := cenv_start W (C := H2.objs.size) F₂ hns₂
  have Bc : EnvB c (compEnvC scope cl H2.objs.size env) := ⟨base_none R₁ freeC, fun p hp => by
    rcases W.cells with ⟨e, _⟩ | ⟨e, _⟩
    · change p ∈ cl at hp; rw [e] at hp; cases hp
    · change p ∈ cl at hp; rw [e] at hp; exact B.cel p hp⟩
  have oldS : ∀ a, h₁.get? a = none → s.heap.get? a = none := fun a ha => by
    cases q : s.heap.get? a with
    | none => rfl
    | some o =>
      by_cases hb : a ∈ ρ
      · obtain ⟨n', hn', rfl⟩ := List.getElem_of_mem (S₁.pre.subset hb)
        have hn'' : n' < H₁.length := R₁.len ▸ hn'
        obtain ⟨ob, vs, k, e', hd'⟩ := (R₁.obj n' ρ₁[n'] H₁[n'] (by simp [hn']) (by simp [hn''])).seq
        rw [ha] at e'; cases e'
      · rw [S₁.keep _ _ q hb] at ha; cases ha
  have hDρ : h₁.objs.size ∉ ρ₁ := fun hm => absurd (R₁.lt hm) (Nat.lt_irrefl _)
  have st₂ : St 0 ρ₁ h₂ := It.frame _ _ _ _ _ st₁ (List.prefix_refl _) fun o e => old _ o e
  have loop : ∀ tk, codeAny (model c.prog c.w) A (.compLoop (.ListComp elt (⟨.Name (Str.ofString x) px, iter, ifs, 0⟩ :: more) scope pos) 0 (.ref I) (.ref h₁.objs.size) (compEnvC scope cl H2.objs.size env))
      (compPost (model c.prog c.w) A E use Q (.ref h₁.objs.size) H2.objs.size) { s with heap := h₂, toks := tk } := by
    intro tk
    refine comp_loop (K := K) (ns := [x]) (ys := []) (hT _ _ _) It st₂ (comp_asg Bc hx) (asgN_on x) (fun y hy => ?_) (fun y hy => hid_none hy) (hb _ _ Bc) e2 Fc R₂ hD₂ hDρ (base_none R₁ freeD) (by simpa using hl) fun ρ₃ h₃ tk₃ ws S₃ R₃ F₃ hD₃ hv => ?_
    · have : y = x := by simpa using hy
      subst this; exact hid_none hxK
    · obtain ⟨m', hn', _⟩ := F₃.loc
      obtain ⟨nD, eD⟩ := id hD₃
      have hDρ₃ : h₁.objs.size ∉ ρ₃ := by
        obtain ⟨nD₂, eD₂⟩ := id hD₂
        exact S₃.notin eD₂ hDρ
      have n₁ : ∀ b o, s.heap.get? b = some o → b ∉ ρ → b ∉ ρ₁ := fun b o e hb' => (Step.toX (X := []) S₁).notin e hb'
      have SSn : ∀ b ∈ ρ₃, b ∈ ρ ∨ s.heap.get? b = none := fun b hb' => by
        rcases S₃.new b hb' with q | q
        · exact S₁.new b q
        · cases e : s.heap.get? b with
          | none => exact .inr rfl
          | some o =>
            by_cases hbρ : b ∈ ρ
            · exact .inl hbρ
            · rw [old _ _ (S₁.keep _ _ e hbρ)] at q; cases q
      have SS : Step ρ s.heap ρ₃ h₃ := ⟨S₁.pre.trans S₃.pre, SSn, fun b o e hb' => by
        have e₁ := S₁.keep _ _ e hb'
        refine S₃.keep _ _ (old _ _ e₁) (n₁ b o e hb') ?_
        simp only [List.mem_cons, List.not_mem_nil, or_false, not_or]
        refine ⟨below _ (Heap.lt_size e₁), Nat.ne_of_lt (Heap.lt_size e₁), ?_⟩
        rintro rfl; rw [hI] at e; cases e⟩
      exact fin ρ₃ h₃ tk₃ h₁.objs.size H2.objs.size m' ws SS R₃ (by simpa using hD₃) hv (oldS _ freeD) hDρ₃ (oldS _ freeC) (base_none R₁ freeD) hDC hn'
  exact compStartG rfl (It.again _ _ _ _ _ st₂ (loop _)) (loop _)
end
end Mine

namespace Mine
open PySem PyProof.Rows PySem.W

theorem HR.adopt {B : Heap} {ρ : List Addr} {H : AH} {h : Heap} {D : Addr} {vs : List AV} {ws : List Value} (R : HR B ρ H h) (hD : h.PlainList D ws.toArray) (hDρ : D ∉ ρ) (hB : B.get? D = none) (hv : VsR ρ vs ws) :
    HR B (ρ ++ [D]) (H ++ [.list vs]) h := by
  obtain ⟨n, eD⟩ := hD
  refine ⟨R.base, ?_, by simp [R.len], fun k b ob e1 e2 => ?_⟩
  · rw [List.nodup_append]; refine ⟨R.nodup, by simp, fun x hx y hy => ?_⟩
    rw [List.mem_singleton.mp hy]; rintro rfl; exact hDρ hx
  · by_cases hlt : k < ρ.length
    · rw [List.getElem?_append_left hlt] at e1
      rw [List.getElem?_append_left (R.len ▸ hlt)] at e2
      exact (R.obj k b ob e1 e2).of_keeps (List.prefix_append _ _) fun _ e => e
    · have hl : k = ρ.length := by
        have := (List.getElem?_eq_some_iff.mp e1).1
        simp at this; omega
      subst hl
      simp at e1; rw [R.len] at e2; simp at e2
      subst e1; subst e2
      exact ⟨hB, ws.toArray, n, eD, by simpa using hv.mono (List.prefix_append ρ [D])⟩

section
variable {c : Cx} {A : Around} {env : Env}

theorem _root_.Mine.FR.pre {env : Env} {σ : Sg} {ρ ρ' : List Addr} {h : Heap} (F : FRc env σ ρ h) (hp : ρ <+: ρ') : FRc env σ ρ' h := by
  refine ⟨F.kind, F.glob, F.bltn, ?_, fun x k => ?_, F.inj, F.allc⟩
  · obtain ⟨m, hn, hm⟩ := F.loc
    refine ⟨m, hn, fun x v k s => ?_⟩
    obtain ⟨cv, h1, h2⟩ := hm x v k s
    exact ⟨cv, h1, h2.mono hp⟩
  · obtain ⟨q, v₀, h1, h2, h3⟩ := F.cel x k
    refine ⟨q, v₀, h1, h2, fun v s => ?_⟩
    obtain ⟨cv, h4, h5⟩ := h3 v s
    exact ⟨cv, h4, h5.mono hp⟩

def eComp (it : AI) (x : String) (body : AC) (K : List String) : AE := fun σ H => (it σ H).bind fun r => (cLoop r.1.2 (asgN x) body (hid K σ) r.1.1 r.2).bind fun q =>
  if q.1.length ≤ LIM then some (.ref q.2.length, q.2 ++ [.list q.1]) else none

/-- what a comprehension's clause leaves to do after the name is bound -/
structure CBody (c : Cx) (A : Around) (env : Env) (scope : Scope) (cl : List (Str × Addr)) (elt iter : Expr) (x : String) (px pos : Pos) (ifs : List Expr) (more : List Comprehension) (body : AC) (K : List String) : Prop where
  ex : ∃ rest : Addr → Env → (Unit → Sem Fin) → Sem Fin,
    (∀ I D C, compTurn (.ListComp elt (⟨.Name (Str.ofString x) px, iter, ifs, 0⟩ :: more) scope pos) 0 (.ref I) (.ref D) (compEnvC scope cl C env) =
      turnK iter.pos (.Name (Str.ofString x) px) (.ref I) (compEnvC scope cl C env) (rest D (compEnvC scope cl C env)) (.compLoop (.ListComp elt (⟨.Name (Str.ofString x) px, iter, ifs, 0⟩ :: more) scope pos) 0 (.ref I) (.ref D) (compEnvC scope cl C env))) ∧
    (∀ D C, EnvB c (compEnvC scope cl C env) → SimEm c A (compEnvC scope cl C env) D (rest D (compEnvC scope cl C env)) body K)

theorem r_comp {elt iter : Expr} {x : String} {px pos : Pos} {ifs : List Expr} {more : List Comprehension} {scope : Scope} {cl : List (Str × Addr)} {K : List String} {it : AI} {body : AC}
    (hs : ∀ x, foldedSetIterable iter env x = pure x) (W : CEnv env scope cl K) (B : EnvB c env) (hx : (relabel scope env).names.lookup (Str.ofString x) = some .local) (hxK : K.contains x = true)
    (hi : SimI c A env iter it) (hb : CBody c A env scope cl elt iter x px pos ifs more body K) :
    SimE c A env (.ListComp elt (⟨.Name (Str.ofString x) px, iter, ifs, 0⟩ :: more) scope pos) (eComp it x body K) := by
  intro σ H v H' ρ s Q E h F R P
  obtain ⟨⟨⟨xs, chk⟩, H₁⟩, e1, h⟩ := Option.bind_eq_some_iff.mp h
  obtain ⟨⟨vs, H₂⟩, e2, h⟩ := Option.bind_eq_some_iff.mp h
  dsimp only at h
  split at h
  · rename_i hl
    cases h
    obtain ⟨rest, hT, hbb⟩ := hb.ex
    rw [eval_ListComp]
    refine comp_core (use := none) hs W B hx hxK hT hbb hi e1 e2 hl F R fun ρ' h' tk D C m' ws S' R' hD hv hDs hDρ hCs hDB hDC hn => ?_
    refine ⟨m', hn, fun h'' hs'' => ?_⟩
    have hCρ : C ∉ ρ' := by
      obtain ⟨o, es, ep, e, hd, _⟩ := hn
      exact R'.notin e fun vs n q => by rw [hd] at q; cases q
    have hCB : c.B.get? C = none := by
      cases q : c.B.get? C with
      | none => rfl
      | some o => rw [R.base _ _ q] at hCs; cases hCs
    have keepO : ∀ b o, b ≠ C → h'.get? b = some o → h''.get? b = some o := fun b o hb e => (hs''.2 b hb).trans e
    have R'' := R'.but hCρ hCB keepO
    have hD'' : h''.PlainList D ws.toArray := hD.at fun o e => keepO _ _ hDC e
    have R₃ := R''.adopt hD'' hDρ hDB hv
    refine P (ρ' ++ [D]) h'' tk (.ref D) ⟨S'.pre.trans (List.prefix_append _ _), fun b hb' => ?_, fun b o e hb' => keepO _ _ (by rintro rfl; rw [hCs] at e; cases e) (S'.keep _ _ e hb')⟩ R₃ ⟨D, by rw [← R'.len]; simp, rfl⟩
    rcases List.mem_append.mp hb' with q | q
    · exact S'.new b q
    · rw [List.mem_singleton.mp q]; exact .inr hDs
  · cases h

/-- the same, where the value goes to a local name before the comprehension's own names are let go -/
theorem x_asgc {elt iter : Expr} {x y : String} {px py pos spos : Pos} {ifs : List Expr} {more : List Comprehension} {scope : Scope} {cl : List (Str × Addr)} {K : List String} {it : AI} {body : AC}
    (hsw : swapsWith (.ListComp elt (⟨.Name (Str.ofString x) px, iter, ifs, 0⟩ :: more) scope pos) (some (.Name (Str.ofString y) py)) spos.line env = pure true)
    (hs : ∀ x, foldedSetIterable iter env x = pure x) (W : CEnv env scope cl K) (B : EnvB c env) (hx : (relabel scope env).names.lookup (Str.ofString x) = some .local) (hxK : K.contains x = true)
    (hy : env.kindOf (Str.ofString y) = some .local)
    (hi : SimI c A env iter it) (hb : CBody c A env scope cl elt iter x px pos ifs more body K) :
    SimX c A env (.Assign [.Name (Str.ofString y) py] (.ListComp elt (⟨.Name (Str.ofString x) px, iter, ifs, 0⟩ :: more) scope pos) spos) (sAsg y (eComp it x body K)) := by
  intro σ H fl σ' H' ρ s Q E _ h F R P
  simp only [sAsg, Option.map_eq_some_iff] at h
  obtain ⟨⟨v, H₃⟩, h, e0⟩ := h
  cases e0
  obtain ⟨⟨⟨xs, chk⟩, H₁⟩, e1, h⟩ := Option.bind_eq_some_iff.mp h
  obtain ⟨⟨vs, H₂⟩, e2, h⟩ := Option.bind_eq_some_iff.mp h
  dsimp only at h
  split at h
  · rename_i hl
    cases h
    obtain ⟨rest, hT, hbb⟩ := hb.ex
    rw [exec_Assign_Name_used _ _ _ _ hsw]
    refine wpAny_bind (wpAny_standAt (wpAny_bind ?_))
    show wpAny _ A (do let _ ← comprehension (.ListComp elt (⟨.Name (Str.ofString x) px, iter, ifs, 0⟩ :: more) scope pos) scope env iter.pos (newList []) false (eval iter env) (some (assign (.Name (Str.ofString y) py) env))) _ _ s
    refine wpAny_bind ?_
    refine comp_core (use := some (assign (.Name (Str.ofString y) py) env)) hs W B hx hxK hT hbb hi e1 e2 hl F R fun ρ' h' tk D C m' ws S' R' hD hv hDs hDρ hCs hDB hDC hn => ?_
    show wpAny _ A (assign (.Name (Str.ofString y) py) env (.ref D)) _ _ _
    have hCρ : C ∉ ρ' := by
      obtain ⟨o, es, ep, e, hd, _⟩ := hn
      exact R'.notin e fun vs n q => by rw [hd] at q; cases q
    have hCB : c.B.get? C = none := by
      cases q : c.B.get? C with
      | none => rfl
      | some o => rw [R.base _ _ q] at hCs; cases hCs
    have R₃ := R'.adopt hD hDρ hDB hv
    have F' : FRc env σ (ρ' ++ [D]) h' := (F.mono R S').pre (List.prefix_append _ _)
    have V' : VR (ρ' ++ [D]) (.ref H₂.length) (.ref D) := ⟨D, by rw [← R'.len]; simp, rfl⟩
    refine wpAny_assign_Name (store_sim (.inl hy) F' R₃ B.loc B.cel V' fun h₄ tk₄ S₄ R₄ F₄ => ?_)
    have hCL : C ≠ env.locals := by
      rintro rfl
      obtain ⟨o, e⟩ := F.there _ (.inl rfl)
      rw [hCs] at e; cases e
    have hCC : C ∉ env.cells.map (·.2) := fun hm => by
      obtain ⟨o, e⟩ := F.there _ (.inr hm)
      rw [hCs] at e; cases e
    have hCρ' : C ∉ ρ' ++ [D] := by
      intro hm
      rcases List.mem_append.mp hm with q | q
      · exact hCρ q
      · exact hDC (List.mem_singleton.mp q).symm
    have hn₄ : h₄.Ns C m' := by
      obtain ⟨o, es, ep, e, r⟩ := hn
      exact ⟨o, es, ep, S₄.keep _ _ e hCρ' hCL hCC, r⟩
    refine ⟨m', hn₄, fun h₅ hs₅ => ?_⟩
    have keepO : ∀ b o, b ≠ C → h₄.get? b = some o → h₅.get? b = some o := fun b o hb e => (hs₅.2 b hb).trans e
    have R₅ := R₄.but hCρ' hCB keepO
    refine wpAny_pure (wpAny_pure (P (ρ' ++ [D]) h₅ _ ⟨S'.pre.trans (List.prefix_append _ _), fun b hb' => ?_, fun b o e hb' h1 h2 => ?_⟩ R₅ ?_))
    · rcases List.mem_append.mp hb' with q | q
      · exact S'.new b q
      · rw [List.mem_singleton.mp q]; exact .inr hDs
    · have hbρ : b ∉ ρ' ++ [D] := by
        intro hm
        rcases List.mem_append.mp hm with q | q
        · exact (Step.toX (X := []) S').notin e hb' q
        · rw [List.mem_singleton.mp q, hDs] at e; cases e
      exact keepO _ _ (by rintro rfl; rw [hCs] at e; cases e) (S₄.keep _ _ (S'.keep _ _ e hb') hbρ h1 h2)
    · refine ⟨F₄.kind, F₄.glob, F₄.bltn, ?_, fun z kz => ?_, F₄.inj, fun p hp => ?_⟩
      · obtain ⟨m, ⟨o, es, ep, e, r⟩, hm⟩ := F₄.loc
        exact ⟨m, ⟨o, es, ep, keepO _ _ (Ne.symm hCL) e, r⟩, hm⟩
      · obtain ⟨q, v₀, a1, ⟨o', e', hd'⟩, a2⟩ := F₄.cel z kz
        exact ⟨q, v₀, a1, ⟨o', keepO _ _ (by
          rintro rfl
          obtain ⟨o, es, ep, e, hd, _⟩ := hn₄
          rw [e] at e'; cases e'; rw [hd] at hd'; cases hd') e', hd'⟩, a2⟩
      · obtain ⟨v, o', e', hd'⟩ := F₄.allc p hp
        exact ⟨v, o', keepO _ _ (fun q => hCC (q ▸ List.mem_map.mpr ⟨p, hp, rfl⟩)) e', hd'⟩
  · cases h

def cInner (t : AB) (it : AI) (y : String) (body : AC) : AC := fun σ H => (t σ H).bind fun b => if b.1 = true then (it σ b.2).bind fun r => cLoop r.1.2 (asgN y) body (hid [y] σ) r.1.1 r.2 else some ([], b.2)

theorem step_none {ρ ρ' : List Addr} {h h' : Heap} {B : Heap} {H' : AH} {a : Addr} (S : Step ρ h ρ' h') (R : HR B ρ' H' h') (ha : h'.get? a = none) : h.get? a = none := by
  cases q : h.get? a with
  | none => rfl
  | some o =>
    by_cases hb : a ∈ ρ
    · obtain ⟨n', hn', rfl⟩ := List.getElem_of_mem (S.pre.subset hb)
      have hn'' : n' < H'.length := R.len ▸ hn'
      obtain ⟨ob, vs, k, e', hd'⟩ := (R.obj n' ρ'[n'] H'[n'] (by simp [hn']) (by simp [hn''])).seq
      rw [ha] at e'; cases e'
    · rw [S.keep _ _ q hb] at ha; cases ha

theorem em_inner {scope : Scope} {cl : List (Str × Addr)} {C D : Addr} {elt iter iter2 target : Expr} {y : String} {py pos : Pos} {ifs ifs2 : List Expr} {t : AB} {it : AI} {body : AC} (B : EnvB c (compEnvC scope cl C env))
    (hy : (relabel scope env).names.lookup (Str.ofString y) = some .local) (hs : ∀ x, foldedSetIterable iter2 (compEnvC scope cl C env) x = pure x)
    (ht : SimTs c A (compEnvC scope cl C env) ifs t) (hi : SimI c A (compEnvC scope cl C env) iter2 it) (hb : SimEm c A (compEnvC scope cl C env) D (emitK elt ifs2 (.ref D) (compEnvC scope cl C env)) body []) :
    SimEm c A (compEnvC scope cl C env) D (innerK (.ListComp elt [⟨target, iter, ifs, 0⟩, ⟨.Name (Str.ofString y) py, iter2, ifs2, 0⟩] scope pos) ifs iter2 (.ref D) (compEnvC scope cl C env)) (cInner t it y body) [y] := by
  intro σ H vs H' ρ s k Q E ys h F R hD hDρ hDB hl K
  obtain ⟨⟨b, H₁⟩, e1, h'⟩ := Option.bind_eq_some_iff.mp h
  unfold innerK
  refine wpAny_bind (ht σ H b H₁ ρ s _ E e1 F.toFR R fun ρ₁ h₁ tk₁ cb S₁ R₁ V₁ => ?_)
  subst V₁
  have F₁ := F.mono R S₁
  obtain ⟨nD, eD⟩ := id hD
  have hD₁ : h₁.PlainList D ys.toArray := hD.at fun o e => S₁.keep _ _ e hDρ
  have hDρ₁ : D ∉ ρ₁ := (Step.toX (X := []) S₁).notin eD hDρ
  have weak : ∀ {ρ h}, FRc (compEnvC scope cl C env) σ ρ h → FRc (compEnvC scope cl C env) (hid [y] σ) ρ h := fun F => F.weaken fun z v sz => by
    unfold hid at sz; split at sz
    · cases sz
    · exact sz
  dsimp only at h'
  cases cb with
  | true =>
    simp only [if_true] at h' ⊢
    obtain ⟨⟨⟨xs, chk⟩, H₂⟩, e2, h'⟩ := Option.bind_eq_some_iff.mp h'
    dsimp only at h'
    refine wpAny_bind (wpAny_mono (hi σ H₁ xs chk H₂ ρ₁ _ (fun it s₂ => wpAny (model c.prog c.w) A (runOwn (.compStart (.ListComp elt [⟨target, iter, ifs, 0⟩, ⟨.Name (Str.ofString y) py, iter2, ifs2, 0⟩] scope pos) 1 it (.ref D) (compEnvC scope cl C env)) (compEnvC scope cl C env) >>= fun _ => k ()) Q E s₂) E e2 F₁.toFR R₁ fun ρ₂ h₂ tk₂ I St S₂ R₂ hI It st₂ => ?_)
      (fun x s₁ hx => wpAny_bind (wpAny_standAt (wpAny_bind (wpAny_of_eq (hs x) (wpAny_bind (wpAny_holding hx)))))) fun _ _ e => e)
    have F₂ := F₁.mono R₁ S₂
    obtain ⟨nD₁, eD₁⟩ := id hD₁
    have hD₂ : h₂.PlainList D ys.toArray := hD₁.at fun o e => S₂.keep _ _ e hDρ₁
    have hDρ₂ : D ∉ ρ₂ := (Step.toX (X := []) S₂).notin eD₁ hDρ₁
    have loop : ∀ E', codeAny (model c.prog c.w) A (.compLoop (.ListComp elt [⟨target, iter, ifs, 0⟩, ⟨.Name (Str.ofString y) py, iter2, ifs2, 0⟩] scope pos) 1 (.ref I) (.ref D) (compEnvC scope cl C env))
        (fun r s' => match r with | .ok f => wpAny (model c.prog c.w) A (k ()) Q E s' | .error e => cameBackBy (model c.prog c.w) A (compEnvC scope cl C env) E' e s') { s with heap := h₂, toks := tk₂ } := by
      intro E'
      refine comp_loop (K := []) (ns := [y]) (ys := ys) (turn2b _ _ _ _ _ _ _ _ _ _ _ _) It st₂ (comp_asg B hy) (asgN_on y) (fun z hz => ?_) (fun z hz => by simp at hz) hb h' (weak F₂) R₂ hD₂ hDρ₂ hDB hl fun ρ₃ h₃ tk₃ ws S₃ R₃ F₃ hD₃ hv => ?_
      · have : z = y := by simpa using hz
        subst this; exact hid_none (by simp)
      · have S12 := S₁.trans S₂
        have hI0 : s.heap.get? I = none := step_none S₁ R₁ hI
        refine K ρ₃ h₃ tk₃ ws ⟨S12.pre.trans S₃.pre, fun b hb' => ?_, fun b o e hb' hx => ?_⟩ R₃ F₃ hD₃ hv
        · rcases S₃.new b hb' with q | q
          · exact S12.new b q
          · exact .inr (step_none S12 R₂ q)
        · simp only [List.mem_cons, List.not_mem_nil, or_false, not_or] at hx
          refine S₃.keep _ _ (S12.keep _ _ e hb') ((Step.toX (X := []) S12).notin e hb') ?_
          simp only [List.mem_cons, List.not_mem_nil, or_false, not_or]
          exact ⟨hx.1, hx.2, by rintro rfl; rw [hI0] at e; cases e⟩
    refine wpAny_bind (wpAny_runOwn (h := none) ?_)
    exact compStartG rfl (It.again _ _ _ _ _ st₂ (loop _)) (loop _)
  | false =>
    simp only [Bool.false_eq_true, if_false] at h' ⊢
    cases h'
    exact K ρ₁ h₁ tk₁ [] S₁.toX R₁ (weak F₁) (by simpa using hD₁) .nil

theorem cb_one {scope : Scope} {cl : List (Str × Addr)} {elt iter : Expr} {x : String} {px pos : Pos} {ifs : List Expr} {t : AB} {f : AE} {K : List String}
    (ht : ∀ C, EnvB c (compEnvC scope cl C env) → SimTs c A (compEnvC scope cl C env) ifs t) (hf : ∀ C, EnvB c (compEnvC scope cl C env) → SimE c A (compEnvC scope cl C env) elt f) :
    CBody c A env scope cl elt iter x px pos ifs [] (cEmit t f) K := by
  refine ⟨fun D e => emitK elt ifs (.ref D) e, fun I D C => turn1 _ _ _ _ _ _ _ _ _, fun D C B => ?_⟩
  intro σ H vs H' ρ s k Q E ys h F R hD hDρ hDB hl Kp
  refine em_elt (ht C B) (hf C B) σ H vs H' ρ s k Q E ys h F R hD hDρ hDB hl fun ρ' h' tk ws S' R' F' => Kp ρ' h' tk ws S' R' (F'.weaken fun y v sy => ?_)
  unfold hid at sy; split at sy
  · cases sy
  · simpa [hid] using sy

theorem cb_two {scope : Scope} {cl : List (Str × Addr)} {elt iter iter2 : Expr} {x y : String} {px py pos : Pos} {ifs ifs2 : List Expr} {t t2 : AB} {f : AE} {it : AI} {K : List String}
    (hy : (relabel scope env).names.lookup (Str.ofString y) = some .local) (hyK : K.contains y = true) (hs : ∀ C x, foldedSetIterable iter2 (compEnvC scope cl C env) x = pure x)
    (ht : ∀ C, EnvB c (compEnvC scope cl C env) → SimTs c A (compEnvC scope cl C env) ifs t) (hi : ∀ C, EnvB c (compEnvC scope cl C env) → SimI c A (compEnvC scope cl C env) iter2 it)
    (ht2 : ∀ C, EnvB c (compEnvC scope cl C env) → SimTs c A (compEnvC scope cl C env) ifs2 t2) (hf : ∀ C, EnvB c (compEnvC scope cl C env) → SimE c A (compEnvC scope cl C env) elt f) :
    CBody c A env scope cl elt iter x px pos ifs [⟨.Name (Str.ofString y) py, iter2, ifs2, 0⟩] (cInner t it y (cEmit t2 f)) K := by
  refine ⟨fun D e => innerK (.ListComp elt [⟨.Name (Str.ofString x) px, iter, ifs, 0⟩, ⟨.Name (Str.ofString y) py, iter2, ifs2, 0⟩] scope pos) ifs iter2 (.ref D) e, fun I D C => turn2a _ _ _ _ _ _ _ _ _ _ _ _, fun D C B => ?_⟩
  intro σ H vs H' ρ s k Q E ys h F R hD hDρ hDB hl Kp
  refine em_inner B hy (hs C) (ht C B) (hi C B) (em_elt (ht2 C B) (hf C B)) σ H vs H' ρ s k Q E ys h F R hD hDρ hDB hl fun ρ' h' tk ws S' R' F' => Kp ρ' h' tk ws S' R' (F'.weaken fun z v sz => ?_)
  unfold hid at sz ⊢; split at sz
  · cases sz
  · rename_i hz
    have : ¬ ([y].contains z = true) := by
      intro q
      have : z = y := by simpa using q
      subst this; exact hz hyK
    simp only [this, Bool.false_eq_true, if_false]; exact sz
end
end Mine

namespace Mine
open PySem PyProof.Rows PySem.W

abbrev fnEnv (name : Str) (scope : Scope) (L a : Addr) (cd : Value) : Env := envOfC name scope L a cd

structure Fn (c : Cx) (name : String) (fa : Addr) (params : Arguments) (body : List Stmt) (scope : Scope) : Prop where
  glob : c.mg (Str.ofString name) = some (.ref fa)
  ex : ∃ fo pm cd doc, c.B.get? fa = some fo ∧ fo.data = .func (Calls.docDef (Str.ofString name) params body scope pm cd doc) ∧ c.B.CodeRec cd (Str.ofString name)

structure AOk (A : Around) (n : Nat) : Prop where
  hand : A.handled = none
  depth : A.depth + n < recursionLimit
  units : A.units + 3 * n + 100 < cLine

theorem AOk.deeper {A : Around} {n : Nat} (h : AOk A (n + 1)) (env : Env) : AOk (A.deeper env) n :=
  ⟨h.hand, by show A.depth + 1 + n < _; have := h.depth; omega, by show A.units + 3 + 3 * n + 100 < _; have := h.units; omega⟩
theorem AOk.u64 {A : Around} {n : Nat} (h : AOk A n) : A.units + 64 < cLine := by have := h.units; omega
theorem AOk.room {A : Around} {n : Nat} (h : AOk A n) : A.depth < recursionLimit := by have := h.depth; omega

def argσ : List String → List AV → Sg → Sg
  | p :: ps, v :: vs, σ => argσ ps vs (upd σ p v)
  | _, _, σ => σ

theorem argσ_none : ∀ (ps : List String) (vs : List AV) (σ : Sg) (x : String), x ∉ ps → argσ ps vs σ x = σ x
  | [], _, _, _, _ => by cases ‹List AV› <;> rfl
  | p :: ps, [], _, _, _ => rfl
  | p :: ps, v :: vs, σ, x, h => by
    simp only [argσ]
    rw [argσ_none ps vs _ x (fun q => h (by simp [q]))]
    have : x ≠ p := fun q => h (by simp [q])
    simp [upd, this]

theorem arg_binds {ρ : List Addr} {kind : Str → Option NameKind} : ∀ (ps : List String) (vs : List AV) (cs : List Value) (σ : Sg) (m : Str → Option Value), VsR ρ vs cs → (∀ p ∈ ps, kind (Str.ofString p) = some .local) →
    (∀ x v, kind (Str.ofString x) = some .local → σ x = some v → ∃ cv, m (Str.ofString x) = some cv ∧ VR ρ v cv) →
    ∀ x v, kind (Str.ofString x) = some .local → argσ ps vs σ x = some v → ∃ cv, bindL kind ((ps.map Str.ofString).zip cs) m (Str.ofString x) = some cv ∧ VR ρ v cv
  | [], vs, cs, σ, m, _, _, h => by
    have e : argσ [] vs σ = σ := by cases vs <;> rfl
    rw [e]; exact h
  | p :: ps, _, _, σ, m, .nil, _, h => h
  | p :: ps, v :: vs, w :: cs, σ, m, .cons V r, hp, h => by
    simp only [argσ, List.map_cons, List.zip_cons_cons, bindL]
    rw [if_pos (hp p (by simp))]
    refine arg_binds ps vs cs _ _ r (fun q hq => hp q (by simp [hq])) fun x u kx sx => ?_
    by_cases hx : x = p
    · subst hx
      simp only [upd, if_true] at sx
      cases sx
      exact ⟨w, by simp, V⟩
    · simp only [upd, if_neg hx] at sx
      have : Str.ofString x ≠ Str.ofString p := fun e => hx (ofString_inj e)
      simp only [if_neg this]
      exact h x u kx sx

theorem bindC_none {kind : Str → Option NameKind} : ∀ (bs : List (Str × Value)) (m : Str → Option Value), (∀ b ∈ bs, kind b.1 = some .local) → bindC kind bs m = m
  | [], _, _ => rfl
  | (n, v) :: r, m, h => by
    simp only [bindC]
    rw [if_pos (h (n, v) (by simp))]
    exact bindC_none r m fun b hb => h b (by simp [hb])

section
variable {c : Cx} {A : Around}

/-- the frame of a call, as it stands at its start -/
theorem call_start {name : String} {fa : Addr} {params : Arguments} {body : List Stmt} {scope : Scope} {ps : List String} {n : Nat} {ρ : List Addr} {H : AH} {vs : List AV} {cs : List Value} {s : Shared} {R : Result → Shared → Prop}
    (G : Glo c) (Fa : Fn c name fa params body scope) (hA : AOk A (n + 1)) (hk : scope.kind = .function) (hco : scope.isCoroutine = false) (hgen : scope.isGenerator = false)
    (hps : ∀ p ∈ ps, scope.names.lookup (Str.ofString p) = some .local) (hbind : ∀ (vs : List Value) (pm cd doc : Value), vs.length = ps.length → bindArgs (Calls.docDef (Str.ofString name) params body scope pm cd doc) ⟨vs, []⟩ = pure ((ps.map Str.ofString).zip vs))
    (hnd : ((cellsFrom 0 scope.names []).map (·.1)).Nodup) (hcells : ∀ L : Addr, ∀ x k, (scope.names.lookup x = some k ∧ (k = .cell ∨ k = .free)) → ((cellsFrom (L + 1) scope.names []).lookup x).isSome = true)
    (HRs : HR c.B ρ H s.heap) (hlen : vs.length = ps.length) (V : VsR ρ vs cs)
    (h : ∀ L cd h₁ tk, FRc (fnEnv (Str.ofString name) scope L fa cd) (argσ ps vs fun _ => none) ρ h₁ → HR c.B ρ H h₁ → EnvB c (fnEnv (Str.ofString name) scope L fa cd) → (∀ b o, s.heap.get? b = some o → h₁.get? b = some o) →
      s.heap.get? L = none → s.heap.objs.size ≤ L → (∀ q ∈ (fnEnv (Str.ofString name) scope L fa cd).cells, s.heap.get? q.2 = none) →
      wpAny (model c.prog c.w) (A.deeper (fnEnv (Str.ofString name) scope L fa cd)) (execs body (fnEnv (Str.ofString name) scope L fa cd))
        (fun f s' => R (.ok (.ret (match f with | .ret v => v | _ => .none))) s')
        (fun e s' => wpAny (model c.prog c.w) (A.deeper (fnEnv (Str.ofString name) scope L fa cd)) (leaving (fnEnv (Str.ofString name) scope L fa cd) e) (fun _ s'' => R (.error e) s'') (fun e' s'' => R (.error e') s'') s')
        { s with heap := h₁, toks := tk }) :
    codeAny (model c.prog c.w) A (.call (.ref fa) ⟨cs, []⟩) R s := by
  obtain ⟨fo, pm, cd, doc, hfo, hdat, hcd⟩ := Fa.ex
  have hcl : cs.length = ps.length := V.length ▸ hlen
  refine codeAny_call_function (fd := Calls.docDef (Str.ofString name) params body scope pm cd doc) hA.room (HRs.base _ _ hfo) hdat hco hgen rfl (hcd.keeps HRs.base) ?_
  rw [hbind cs pm cd doc hcl]
  have hbk : ∀ b ∈ (ps.map Str.ofString).zip cs, scope.names.lookup b.1 = some .local := fun b hb => by
    have h1 := (List.of_mem_zip hb).1
    obtain ⟨p, hp, e⟩ := List.mem_map.mp h1
    rw [← e]; exact hps p hp
  refine wpAny_pure (wpAny_newFunctionEnv_cells hk (fun x hx => .inl (hbk x hx)) fun env' he s' x => ?_)
  have he' : env' = fnEnv (Str.ofString name) scope s.heap.objs.size fa cd := he
  subst he'
  have keep := x.toInCall.keep
  refine ⟨(G.lim.keeps HRs.base).keeps keep, codeAny_func ?_⟩
  obtain ⟨h₁, tk, rfl, _⟩ := x.done
  have R₁ := HRs.of_keeps keep
  have hLn := get_none_size s.heap
  have hcn : ∀ q ∈ cellsFrom (s.heap.objs.size + 1) scope.names [], s.heap.get? q.2 = none := fun q hq => by
    cases e : s.heap.get? q.2 with
    | none => rfl
    | some o => exact absurd (Heap.lt_size e) (Nat.not_lt.mpr (Nat.le_of_lt (x.above q.1 q.2 hq)))
  have hCC : ∀ b ∈ (ps.map Str.ofString).zip cs, (fnEnv (Str.ofString name) scope s.heap.objs.size fa cd).kindOf b.1 = some .local := hbk
  refine h s.heap.objs.size cd h₁ tk ⟨hk, rfl, rfl, ⟨_, x.toInCall.ns, ?_⟩, fun y ky => ?_, fun a b q h1 h2 => ?_, fun p hp => ?_⟩ R₁ ⟨base_none HRs hLn, fun p hp => base_none HRs (hcn p hp)⟩ keep hLn (Nat.le_refl _) hcn
  · exact arg_binds (kind := (fnEnv (Str.ofString name) scope s.heap.objs.size fa cd).kindOf) ps vs cs _ _ V hps (fun x v _ sx => by cases sx)
  · obtain ⟨k, hk', hkk⟩ : ∃ k, scope.names.lookup (Str.ofString y) = some k ∧ (k = .cell ∨ k = .free) := by
      rcases ky with ky | ky
      · exact ⟨_, ky, .inl rfl⟩
      · exact ⟨_, ky, .inr rfl⟩
    obtain ⟨q, hq⟩ := Option.isSome_iff_exists.mp (hcells s.heap.objs.size _ k ⟨hk', hkk⟩)
    refine ⟨q, _, hq, x.cell _ _ hq, fun v sv => ?_⟩
    have hy : y ∉ ps := fun hm => by
      have := hps y hm
      rw [hk'] at this; cases this; rcases hkk with h | h <;> cases h
    rw [argσ_none ps vs _ y hy] at sv
    cases sv
  · exact name_of_addr x.apart (lookup_mem h1) (lookup_mem h2)
  · exact ⟨_, x.cell p.1 p.2 (lookup_of_mem_nodup (cellsFrom_names scope.names 0 (s.heap.objs.size + 1) [] [] rfl ▸ hnd) hp)⟩
end
end Mine

namespace Mine
open PySem PyProof.Rows PySem.W

def fnF (ps : List String) (f : AS) : List AV → AH → Option (AV × AH) := fun vs H =>
  if vs.length = ps.length then
    match f (argσ ps vs fun _ => none) H with
    | some (.ret v, _, H') => some (v, H')
    | some (.next, _, H') => some (.none, H')
    | _ => none
  else none

structure FnOk (c : Cx) (name : String) (fa : Addr) (params : Arguments) (body : List Stmt) (scope : Scope) (ps : List String) : Prop where
  fn : Fn c name fa params body scope
  hk : scope.kind = .function
  hco : scope.isCoroutine = false
  hgen : scope.isGenerator = false
  hps : ∀ p ∈ ps, scope.names.lookup (Str.ofString p) = some .local
  hbind : ∀ (vs : List Value) (pm cd doc : Value), vs.length = ps.length → bindArgs (Calls.docDef (Str.ofString name) params body scope pm cd doc) ⟨vs, []⟩ = pure ((ps.map Str.ofString).zip vs)
  hnd : ((cellsFrom 0 scope.names []).map (·.1)).Nodup
  hcells : ∀ L : Addr, ∀ x k, (scope.names.lookup x = some k ∧ (k = .cell ∨ k = .free)) → ((cellsFrom (L + 1) scope.names []).lookup x).isSome = true

section
variable {c : Cx} {A : Around}

/-- the step over a call: the frame's own objects are new -/
theorem call_step {env : Env} {ρ ρ' : List Addr} {h h₁ h' : Heap} (S : StepL env ρ h₁ ρ' h') (keep : ∀ b o, h.get? b = some o → h₁.get? b = some o) (hL : h.get? env.locals = none) (hc : ∀ q ∈ env.cells, h.get? q.2 = none) : Step ρ h ρ' h' := by
  refine ⟨S.pre, fun b hb => ?_, fun b o e hb => S.keep b o (keep b o e) hb (by rintro rfl; rw [hL] at e; cases e) fun hm => ?_⟩
  · rcases S.new b hb with q | q
    · exact .inl q
    · refine .inr ?_
      cases e : h.get? b with
      | none => rfl
      | some o => rw [keep b o e] at q; cases q
  · obtain ⟨p, hp, rfl⟩ := List.mem_map.mp hm
    rw [hc p hp] at e; cases e

theorem s_call {name : String} {fa : Addr} {params : Arguments} {body : List Stmt} {scope : Scope} {ps : List String} {n : Nat} {f : AS} (G : Glo c) (K : FnOk c name fa params body scope ps) (hA : AOk A (n + 1))
    (hb : ∀ (A : Around) (L : Addr) (cd : Value), AOk A n → EnvB c (fnEnv (Str.ofString name) scope L fa cd) → SimS c A (fnEnv (Str.ofString name) scope L fa cd) body f) :
    SimO c A VsR VR (fun vs => call (.ref fa) vs) (fnF ps f) := by
  intro vs H v H' ρ s cx Q E h R V P
  unfold fnF at h
  split at h
  case isFalse => cases h
  rename_i hlen
  refine wpAny_call (call_start G K.fn hA K.hk K.hco K.hgen K.hps K.hbind K.hnd K.hcells R hlen V fun L cd h₁ tk F R₁ EB keep hLn hsz hcn => ?_)
  refine wpAny_noRaise ?_
  have hb' := hb (A.deeper (fnEnv (Str.ofString name) scope L fa cd)) L cd (hA.deeper _) EB
  cases e : f (argσ ps vs fun _ => none) H with
  | none => rw [e] at h; cases h
  | some r =>
    obtain ⟨fl, σ', H''⟩ := r
    rw [e] at h
    refine hb' _ H fl σ' H'' ρ _ _ _ PassesOwn.never e F R₁ fun ρ' h' tk' S R' F' => ?_
    have S' := call_step S keep hLn hcn
    cases fl with
    | ret w =>
      cases h
      intro cv W
      exact P ρ' h' tk' cv S' R' W
    | next =>
      cases h
      exact P ρ' h' tk' _ S' R' rfl
    | _ => cases h

/-- the name of a function of the program -/
structure FName (c : Cx) (env : Env) (fn : String) (fa : Addr) : Prop where
  kind : env.kindOf (Str.ofString fn) = some .globalImplicit
  glob : c.mg (Str.ofString fn) = some (.ref fa)
  nd : (Str.ofString fn == ("__debug__" : Str)) = false

theorem fun_name {env : Env} {fn : String} {fa : Addr} {p1 : Pos} {σ : Sg} {ρ : List Addr} {H : AH} {s : Shared} {Q : Value → Shared → Prop} {E : Value → Shared → Prop} (G : Glo c) (F : FR env σ ρ s.heap) (R : HR c.B ρ H s.heap)
    (N : FName c env fn fa) (h : Q (.ref fa) s) : wpAny (model c.prog c.w) A (eval (.Name (Str.ofString fn) p1) env) Q E s :=
  Calls.Name_function_global F.kind N.kind (Calls.loadGlobal_global (by rw [F.glob]; exact G.g.keeps R.base) N.glob h) N.nd

theorem r_callF {env : Env} {fn : String} {fa : Addr} {name : String} {params : Arguments} {body : List Stmt} {scope : Scope} {e : Expr} {r : List Expr} {p1 pos : Pos} {g : AL} {o : List AV → AH → Option (AV × AH)} (G : Glo c) (K : Fn c name fa params body scope) (hN : FName c env fn fa)
    (he : starEach (e :: r) env = (false, eval e env) :: starEach r env)
    (ho : SimO c A VsR VR (fun vs => call (.ref fa) vs) o) (hg : SimL c A env pos (e :: r) g) : SimE c A env (.Call (.Name (Str.ofString fn) p1) (e :: r) [] pos) (cL o g) := by
  intro σ H v H' ρ s Q E h F R P
  obtain ⟨⟨l, H₁⟩, e1, h'⟩ := Option.bind_eq_some_iff.mp h
  rw [eval_CallN]
  refine wpAny_bind (fun_name G F R hN ?_)
  obtain ⟨fo, pm, cd, doc, hfo, hdat, hcd⟩ := K.ex
  refine PyProof.Rows.callWith_def hdat ?_ he
  refine hg σ H l H₁ ρ s _ E e1 F R fun ρ₁ h₁ tk₁ vs S₁ R₁ V₁ => ?_
  exact ⟨R₁.base _ _ hfo, ho _ _ _ _ _ _ _ _ _ h' R₁ V₁ (P.step S₁)⟩

def sRaise : AS := fun σ H => some (.exc, σ, H)
theorem x_raise {env : Env} {msg : Str} {np cpos pos : Pos} {k : Nat} {p2 : Pos} (G : Glo c) (hN : BName env "RuntimeError" (.type "RuntimeError")) (hh : A.handled = none)
    (he : starEach [.Constant (.str msg) k p2] env = (false, eval (.Constant (.str msg) k p2) env) :: starEach [] env) :
    SimX c A env (.Raise (some (.Call (.Name (Str.ofString "RuntimeError") np) [.Constant (.str msg) k p2] [] cpos)) none pos) sRaise := by
  intro σ H fl σ' H' ρ s Q E _ h F R P
  cases h
  refine Raise_madeB PySem.F.excCall_RuntimeError PySem.F.excRaise_RuntimeError hh ?_ he
  refine glob_name G F R hN.kind hN.mem hN.boot hN.nn hN.nd ⟨rfl, ?_⟩
  rw [he]
  refine Calls.spliced_cons (wpAny_Constant_str (k := k) (pos := p2) ?_)
  refine Calls.spliced_nil ⟨(by decide : (1 : Nat) ≤ sizeLine), fun h' e hm => ?_⟩
  exact P ρ s.heap (s.toks + 1) (Step.refl _ _).toL R F h' e hm.newExc
end
end Mine

namespace Mine
open PySem PyProof.Rows PySem.W

/-- the last stretch of the outermost function: what it returns, with the base kept -/
abbrev AW := Sg → AH → Option AV

def PostW (c : Cx) (s : Shared) (v : AV) (Q : Flow → Shared → Prop) : Prop :=
  ∀ ρ' h' tk cv, (∀ b o, c.B.get? b = some o → h'.get? b = some o) → VR ρ' v cv → Q (.ret cv) { s with heap := h', toks := tk }

def SimW (c : Cx) (A : Around) (env : Env) (t : Sem Flow) (f : AW) : Prop :=
  ∀ σ H v ρ (s : Shared) (Q : Flow → Shared → Prop) (E : Value → Shared → Prop), PassesOwn (model c.prog c.w) A env E → f σ H = some v → FRc env σ ρ s.heap → HR c.B ρ H s.heap →
    PostW c s v Q → wpAny (model c.prog c.w) A t Q E s

def wSeq (f : AS) (g : AW) : AW := fun σ H => (f σ H).bind fun r => match r.1 with
  | .next => g r.2.1 r.2.2
  | .ret v => some v
  | _ => none

section
variable {c : Cx} {A : Around} {env : Env}

theorem PostW.step {s : Shared} {v : AV} {Q : Flow → Shared → Prop} {h' : Heap} {tk : Nat} (P : PostW c s v Q) : PostW c { s with heap := h', toks := tk } v Q :=
  fun ρ'' h'' tk'' cv b V => P ρ'' h'' tk'' cv b V

theorem w_seq {st : Stmt} {rest : List Stmt} {f : AS} {g : AW} (hf : SimX c A env st f) (hg : SimW c A env (execs rest env) g) : SimW c A env (execs (st :: rest) env) (wSeq f g) := by
  intro σ H v ρ s Q E hE h F R P
  obtain ⟨⟨fl₁, σ₁, H₁⟩, e1, h'⟩ := Option.bind_eq_some_iff.mp h
  refine wpAny_execs_cons (hf σ H fl₁ σ₁ H₁ ρ s _ E hE e1 F R fun ρ₁ h₁ tk₁ S₁ R₁ F₁ => ?_)
  dsimp only at h'
  cases fl₁ with
  | next => exact hg σ₁ H₁ v ρ₁ _ Q E hE h' F₁ R₁ P.step
  | ret w => cases h'; intro cv V; exact P ρ₁ h₁ tk₁ cv R₁.base V
  | _ => cases h'

theorem w_last {sts : List Stmt} {f : AS} (hf : SimS c A env sts f) : SimW c A env (execs sts env) (wSeq f fun _ _ => none) := by
  intro σ H v ρ s Q E hE h F R P
  obtain ⟨⟨fl₁, σ₁, H₁⟩, e1, h'⟩ := Option.bind_eq_some_iff.mp h
  refine hf σ H fl₁ σ₁ H₁ ρ s _ E hE e1 F R fun ρ₁ h₁ tk₁ S₁ R₁ F₁ => ?_
  dsimp only at h'
  cases fl₁ with
  | ret w => cases h'; intro cv V; exact P ρ₁ h₁ tk₁ cv R₁.base V
  | _ => cases h'

/-- what leaving a frame does, in its two steps -/
theorem leaving_steps {M : Model} {env : Env} {f : Addr} {e : Value} {s : Shared} {Q : Unit → Shared → Prop} {E : Value → Shared → Prop} (hf : env.frame = some f) (h : wpAny M A (leaving env e) Q E s) :
    wpAny M A (noteFrame e env) (fun _ s' => wpAny M A (setFlight e none) Q E s') E s := by
  intro Γ p hΓ
  have h0 := h Γ p hΓ
  unfold leaving at h0
  rw [Sem.wp_bind'] at h0
  refine Sem.wp_mono M Γ _ (fun _ p₁ s₁ h₁ => ?_) (fun _ _ _ x => x) p s (wp_noteFrame_marks Γ Γ rfl rfl hf _ _ (fun x _ s' => E x s') p s h0)
  obtain ⟨hq, a, oe, vs, tb, ot, ws, ea, h1, h2, h3, h4, h5, h6⟩ := h₁
  subst ea
  -- the mark is there, so the second step has one way to go
  refine wpAny_setFlight_none h1 h2 h3 h4 h5 (Array.getElem?_eq_some_iff.mp h6).1 ?_
  unfold setFlight at hq
  rw [Sem.wp_bind', wp_field_iff] at hq
  obtain ⟨a', oe', vs', y, ea, q1, q2, q3, hq⟩ := hq
  cases ea
  obtain rfl := Option.some.inj (h1.symm.trans q1)
  have ev : vs = vs' := by
    have := h2.symm.trans q2
    injection this
  subst ev
  obtain rfl := Option.some.inj (h3.symm.trans q3)
  have hb : (Value.ref tb != Value.none) = true := by simp
  rw [if_pos hb, wp_setField_iff] at hq
  obtain ⟨tb', o', vs'', eb, _, _, _, hq⟩ := hq
  cases eb
  exact hq

theorem noted_next {M : Model} {base : Heap} {env : Env} {outer : List Env} {L e : Addr} {cls : Value} {s : Shared} {Q : Unit → Shared → Prop} {E : Value → Shared → Prop}
    (h1 : A.frames = some (env :: outer)) (h2 : s.heap.FunFrames base (env :: outer)) (h3 : env.frame = some L) (h4 : s.heap.Traced base e cls) (h5 : base.StaysIn s.heap) (h6 : base.get? e = none)
    (h : ∀ h', Heap.Left base (env :: outer) e cls s.heap h' → Q () { s with heap := h' }) : wpAny M A (noteFrame (.ref e) env) (fun _ s' => wpAny M A (setFlight (.ref e) none) Q E s') E s :=
  leaving_steps h3 (wpAny_leaving_next h1 h2 h3 h4 h5 h6 h)

/-- up to the slots of its objects a frame stands -/
theorem FR.slots {σ : Sg} {ρ : List Addr} {h h' : Heap} (F : FR env σ ρ h) (k : ∀ b o, h.get? b = some o → (∀ vs, o.data ≠ .fields vs) → ∃ sl, h'.get? b = some { o with slots := sl }) (σ' : Sg)
    (hσ : ∀ x v, σ' x = some v → env.kindOf (Str.ofString x) = some .local ∧ σ x = some v ∧ ∀ cv, VR ρ v cv → VR [] v cv) : FR env σ' [] h' := by
  refine ⟨F.kind, F.glob, F.bltn, ?_, fun x kx => ?_, F.inj, fun p hp => ?_⟩
  · obtain ⟨m, ⟨o, es, ep, e, hd, r⟩, hm⟩ := F.loc
    obtain ⟨sl, e'⟩ := k _ o e fun vs q => by rw [hd] at q; cases q
    refine ⟨m, ⟨_, es, ep, e', hd, r⟩, fun x v kx sx => ?_⟩
    obtain ⟨_, h1, h2⟩ := hσ x v sx
    obtain ⟨cv, h3, h4⟩ := hm x v kx h1
    exact ⟨cv, h3, h2 cv h4⟩
  · obtain ⟨q, v₀, h1, ⟨o, e, hd⟩, h2⟩ := F.cel x kx
    obtain ⟨sl, e'⟩ := k _ o e fun vs q => by rw [hd] at q; cases q
    refine ⟨q, v₀, h1, ⟨_, e', hd⟩, fun v sv => ?_⟩
    obtain ⟨h3, _, _⟩ := hσ x v sv
    rcases kx with kx | kx <;> rw [h3] at kx <;> cases kx
  · obtain ⟨v, o, e, hd⟩ := F.allc p hp
    obtain ⟨sl, e'⟩ := k _ o e fun vs q => by rw [hd] at q; cases q
    exact ⟨v, _, e', hd⟩

def keepCount (σ : Sg) (y : String) : Sg := fun x => if x = y then match σ y with
  | some (.int i) => some (.int i)
  | _ => none else none

/-- try: y = fn(arg)  except RuntimeError: return …   and what follows -/
def wTry (y cn : String) (g : AL) (ps : List String) (f : AS) (hd : AS) (rest : AW) : AW := fun σ H => (g σ H).bind fun r =>
  if r.1.length = ps.length then match f (argσ ps r.1 fun _ => none) r.2 with
    | some (.ret v, _, H') => rest (upd σ y v) H'
    | some (.exc, _, _) => (hd (keepCount σ cn) []).bind fun q => match q.1 with
      | .ret v => some v
      | _ => none
    | _ => none
  else none

theorem w_try {y cn fn : String} {py : Pos} {fa : Addr} {name : String} {params : Arguments} {body : List Stmt} {scope : Scope} {ps : List String} {n : Nat} {f : AS} {e : Expr} {r : List Expr} {p1 cpos apos pos hpos npos : Pos} {g : AL} {b₀ : Stmt} {suite : List Stmt}
    {hd : AS} {rest : List Stmt} {gr : AW} (G : Glo c) (K : FnOk c name fa params body scope ps) (hA : AOk A (n + 1)) (hfr : A.frames = some [env]) (hframe : env.frame = some env.locals) (EB : EnvB c env) (hN : FName c env fn fa)
    (hX : BName env "RuntimeError" (.type "RuntimeError")) (hcn : env.kindOf (Str.ofString cn) = some .local)
    (he : starEach (e :: r) env = (false, eval e env) :: starEach r env) (hky : env.kindOf (Str.ofString y) = some .local ∨ env.kindOf (Str.ofString y) = some .cell)
    (hs : swapsWith (.Call (.Name (Str.ofString fn) p1) (e :: r) [] cpos) (some (.Name (Str.ofString y) py)) apos.line env = pure false) (hg : SimL c A env cpos (e :: r) g)
    (hb : ∀ (A : Around) (L : Addr) (cd : Value), AOk A n → EnvB c (fnEnv (Str.ofString name) scope L fa cd) → SimS c A (fnEnv (Str.ofString name) scope L fa cd) body f)
    (hh : ∀ x, SimS c (A.mark (some (.ref x))) env (b₀ :: suite) hd) (hr : SimW c A env (execs rest env) gr) :
    SimW c A env (execs (.Try [.Assign [.Name (Str.ofString y) py] (.Call (.Name (Str.ofString fn) p1) (e :: r) [] cpos) apos] [.ExceptHandler (some (.Name (Str.ofString "RuntimeError") npos)) none (b₀ :: suite) hpos] [] [] pos :: rest) env) (wTry y cn g ps f hd gr) := by
  intro σ H v ρ s Q E hE h F R P
  obtain ⟨⟨l, H₁⟩, e1, h'⟩ := Option.bind_eq_some_iff.mp h
  dsimp only at h'
  split at h'
  case isFalse => cases h'
  rename_i hlen
  refine wpAny_execs_cons (wpAny_Try_except (wpAny_execs_cons (wpAny_Assign_Name ?_ hs)))
  rw [eval_CallN]
  refine wpAny_bind (fun_name G F R hN ?_)
  obtain ⟨fo, pm, cd, doc, hfo, hdat, hcd⟩ := K.fn.ex
  refine PyProof.Rows.callWith_def hdat ?_ he
  refine hg σ H l H₁ ρ s _ _ e1 F R fun ρ₁ h₁ tk₁ vs S₁ R₁ V₁ => ?_
  refine ⟨R₁.base _ _ hfo, ?_⟩
  have F₁ := F.mono R S₁
  refine wpAny_call (call_start G K.fn hA K.hk K.hco K.hgen K.hps K.hbind K.hnd K.hcells R₁ hlen V₁ fun L cd h₂ tk₂ F₂ R₂ EB₂ keep hLn hsz hcn' => ?_)
  have hb' := hb (A.deeper (fnEnv (Str.ofString name) scope L fa cd)) L cd (hA.deeper _) EB₂
  cases ef : f (argσ ps l fun _ => none) H₁ with
  | none => rw [ef] at h'; cases h'
  | some r' =>
    obtain ⟨fl, σ', H''⟩ := r'
    rw [ef] at h'
    refine hb' _ H₁ fl σ' H'' ρ₁ _ _ _ PassesOwn.leaving ef F₂ R₂ fun ρ' h₃ tk' S₃ R' F' => ?_
    have S' := call_step S₃ keep hLn hcn'
    have F₃ := F₁.mono R₁ S'
    cases fl with
    | ret w =>
      intro cv W
      refine store_sim hky F₃ R' EB.loc EB.cel W fun h₄ tk₄ S₄ R₄ F₄ => ?_
      refine wpAny_execs_nil (wpAny_execs_nil ?_)
      exact hr _ _ v ρ' _ Q E hE h' F₄ R₄ P.step
    | exc =>
      intro h₄ x hx
      dsimp only at h'
      obtain ⟨⟨fl', σ₅, H₅⟩, e5, h5⟩ := Option.bind_eq_some_iff.mp h'
      obtain ⟨ob, tp, hxe, hxc, hxd⟩ := hx.there
      have hb4 : ∀ b o, c.B.get? b = some o → h₄.get? b = some o := fun b o q => hx.keeps _ _ (R'.base b o q)
      have hxn : c.B.get? x = none := base_none R' hx.new
      obtain ⟨mL, hLns, _⟩ := F'.loc
      obtain ⟨mE, hEns, _⟩ := F₃.loc
      have nsk : ∀ {q m}, h₃.Ns q m → h₄.Ns q m := fun hq => hq.keeps hx.keeps
      have ff : h₄.FunFrames c.B [fnEnv (Str.ofString name) scope L fa cd, env] :=
        Heap.FunFrames.cons (by show scope.kind ≠ .module; rw [K.hk]; decide) rfl (nsk hLns) EB₂.loc (Heap.FunFrames.cons (by rw [F.kind]; decide) hframe (nsk hEns) EB.loc trivial)
      refine wpAny_leaving_first (base := c.B) (outer := [env]) (L := L) (Around.frames_deeper hfr) ff rfl hxe hb4 hxn hxd rfl fun h₅ hleft => ?_
      obtain ⟨y1, y2, y3, y4⟩ := hleft
      refine noted_next (base := c.B) (outer := []) (L := env.locals) hfr y2.2.2 hframe y3 y1 hxn fun h₆ hleft6 => ?_
      obtain ⟨z1, z2, z3, z4⟩ := hleft6
      have slots : ∀ b o, h₃.get? b = some o → (∀ vs, o.data ≠ .fields vs) → ∃ sl, h₆.get? b = some { o with slots := sl } := fun b o q hq => by
        obtain ⟨sl, q5⟩ := y4 b o (hx.keeps _ _ q) hq
        obtain ⟨sl', q6⟩ := z4 b _ q5 hq
        exact ⟨sl', q6⟩
      have F₆ : FR env (keepCount σ cn) [] h₆ := F₃.slots slots _ fun z w hw => by
        unfold keepCount at hw
        split at hw
        · rename_i hz
          subst hz
          split at hw
          · rename_i i hi
            cases hw
            exact ⟨hcn, hi, fun cv q => q⟩
          · cases hw
        · cases hw
      have R₆ : HR c.B [] [] h₆ := ⟨z1, List.nodup_nil, rfl, fun n a o q => by simp at q⟩
      refine wpAny_handleBy_builtin (X := "RuntimeError") (T := "RuntimeError") (b := true) PySem.F.isExc_RuntimeError PySem.F.notTuple_RuntimeError PySem.F.self_RuntimeError ?_
      refine glob_name G F₆ R₆ hX.kind hX.mem hX.boot hX.nn hX.nd ⟨rfl, ?_, ?_⟩
      · obtain ⟨oe, vs', T, oT, ts, q1, q2, _⟩ := z3
        exact ⟨oe, q1, q2.trans hxc⟩
      · rw [if_pos rfl]
        obtain ⟨oe, vs', T, oT, ts, q1, q2, q3, q4, q5, q6, q7, q8, q9⟩ := z3
        refine wpAny_setFlight_none q1 q3 q4 q7 q8 (Array.getElem?_eq_some_iff.mp q9).1 ?_
        have k7 : ∀ b o, h₆.get? b = some o → (∀ vs, o.data ≠ .fields vs) → (h₆.update T (Obj.mapFields (·.setIfInBounds 3 .none))).get? b = some o := fun b o q hq => by
          rw [Heap.get?_update_other _ _ (by rintro rfl; rw [q7] at q; cases q; exact hq _ q8)]; exact q
        have F₇ : FR env (keepCount σ cn) [] (h₆.update T (Obj.mapFields (·.setIfInBounds 3 .none))) := F₆.slots (fun b o q hq => ⟨o.slots, k7 b o q hq⟩) _ fun z w hw => by
          have hw' := hw
          unfold keepCount at hw'
          split at hw'
          · rename_i hz
            subst hz
            exact ⟨hcn, hw, fun cv q => q⟩
          · cases hw'
        have R₇ : HR c.B [] [] (h₆.update T (Obj.mapFields (·.setIfInBounds 3 .none))) := ⟨fun b o q => by
          rw [Heap.get?_update_other _ _ (by rintro rfl; rw [q5] at q; cases q)]; exact z1 b o q, List.nodup_nil, rfl, fun n a o q => by simp at q⟩
        refine wpAny_noRaise (hh x _ [] fl' σ₅ H₅ [] _ _ _ PassesOwn.never e5 F₇ R₇ fun ρ₈ h₈ tk₈ S₈ R₈ F₈ => ?_)
        dsimp only at h5
        cases fl' with
        | ret w =>
          cases h5
          intro cv W
          exact P ρ₈ h₈ tk₈ cv R₈.base W
        | _ => cases h5
    | _ => cases h'
end
end Mine

namespace Mine
open PySem PyProof.Rows PySem.W

def pairOf (H : AH) (x : AV) : Option (Int × Int) := match tget H x with
  | some [.int a, .int b] => some (a, b)
  | _ => none
def pairsOf (H : AH) : List AV → Option (List (Int × Int))
  | [] => some []
  | x :: r => (pairOf H x).bind fun p => (pairsOf H r).map (p :: ·)

def oNotIn : AV × AV → AH → Option (AV × AH) := fun p H => match pairOf H p.1, (lget H p.2).bind (pairsOf H) with
  | some q, some qs => some (.bool (!decide (q ∈ qs)), H)
  | _, _ => none

def vpair (h : Heap) : Value → Option (Int × Int)
  | .ref a => (h.get? a).bind fun o => match o.data with
    | .seq vs _ => match vs.toList with
      | [.int a _, .int b _] => some (a, b)
      | _ => none
    | _ => none
  | _ => none

theorem pair_spec {c : Cx} {ρ : List Addr} {H : AH} {h : Heap} {x : AV} {cx : Value} {p : Int × Int} (R : HR c.B ρ H h) (V : VR ρ x cx) (e : pairOf H x = some p) :
    ∃ a t u k, cx = .ref a ∧ h.get? a = some (tupObj #[.int p.1 t, .int p.2 u] k) ∧ vpair h cx = some p := by
  unfold pairOf at e
  split at e
  · rename_i a b ht
    cases e
    obtain ⟨l, vs, k, rfl, hg, hv⟩ := tget_spec R V ht
    have hv' : ∃ t u, vs.toList = [.int a t, .int b u] := by
      revert hv
      generalize vs.toList = ws
      intro hv
      cases hv with
      | cons p q => cases q with
        | cons p' q' => cases q' with
          | nil =>
            obtain ⟨t, rfl⟩ := p
            obtain ⟨u, rfl⟩ := p'
            exact ⟨t, u, rfl⟩
    obtain ⟨t, u, hw⟩ := hv'
    have hvs : vs = #[.int a t, .int b u] := by rw [← toArray_toList vs, hw]
    subst hvs
    exact ⟨l, t, u, k, rfl, hg, by simp [vpair, hg]⟩
  · cases e

theorem pairs_spec {c : Cx} {ρ : List Addr} {H : AH} {h : Heap} (R : HR c.B ρ H h) {q : Int × Int} : ∀ {xs : List AV} {vs : List Value} {ps : List (Int × Int)}, VsR ρ xs vs → pairsOf H xs = some ps →
    vs.any (fun y => decide (vpair h y = some q)) = decide (q ∈ ps) ∧ ∀ y ∈ vs, ∃ x p, VR ρ x y ∧ pairOf H x = some p := by
  intro xs vs ps V
  induction V generalizing ps with
  | nil => intro e; cases e; exact ⟨rfl, by simp⟩
  | cons a t ih =>
    rename_i x v xs vs
    intro e
    obtain ⟨p, e1, e2⟩ := Option.bind_eq_some_iff.mp e
    simp only [Option.map_eq_some_iff] at e2
    obtain ⟨r, e3, rfl⟩ := e2
    obtain ⟨i1, i2⟩ := ih e3
    obtain ⟨_, _, _, _, _, _, e4⟩ := pair_spec R a e1
    refine ⟨?_, fun y hy => ?_⟩
    · rw [List.any_cons, i1, e4]
      by_cases hq : p = q
      · subst hq; simp
      · simp [hq, Ne.symm hq]
    · rcases List.mem_cons.mp hy with rfl | hy
      · exact ⟨x, p, a, e1⟩
      · exact i2 y hy

theorem s_notin {c : Cx} {A : Around} (hu : A.units + 64 < cLine) : SimO c A V2 VR (fun p => compareOp .NotIn p.1 p.2) oNotIn := by
  rintro ⟨x, y⟩ H v H' ρ s ⟨cx, cy⟩ Q E h R ⟨h1, h2⟩ P
  unfold oNotIn at h
  split at h
  · rename_i q qs hx hy
    cases h
    obtain ⟨ys, ey, iy⟩ := Option.bind_eq_some_iff.mp hy
    obtain ⟨l, vs, q', hL, hv⟩ := lget_spec R h2 ey
    simp only at q'; subst q'
    obtain ⟨a, t, u, k, hcx, hg, hvp⟩ := pair_spec R h1 hx
    simp only at hcx; subst hcx
    obtain ⟨i1, i2⟩ := pairs_spec R (q := q) hv iy
    refine SeqAt.notIn_listAt (fun z => decide (vpair s.heap z = some q)) hL (fun z hz => ?_) (P.ret0 R ?_)
    · obtain ⟨z', p, Vz, ez⟩ := i2 z (by simpa using hz)
      obtain ⟨a', t', u', k', rfl, hg', hvp'⟩ := pair_spec R Vz ez
      by_cases hn : a' = a
      · subst hn
        rw [decide_eq_true hvp]
        exact SeqAt.EqAt.same _
      · have e : (decide (vpair s.heap (.ref a') = some q)) = ((List.range (min (#[Value.int p.1 t', .int p.2 u'] : Array Value).size (#[Value.int q.1 t, .int q.2 u] : Array Value).size)).all (fun j => if j = 0 then p.1 == q.1 else p.2 == q.2) && (#[Value.int p.1 t', .int p.2 u'] : Array Value).size == (#[Value.int q.1 t, .int q.2 u] : Array Value).size) := by
          rw [hvp']
          obtain ⟨p1, p2⟩ := p
          obtain ⟨q1, q2⟩ := q
          simp [List.range_succ]
          rfl
        rw [e]
        refine SeqAt.EqAt.of_refs hn (SeqAt.RcAt.tuples ⟨_, hg', rfl, k', rfl⟩ ⟨_, hg, rfl, k, rfl⟩ (by show A.units + 1 < cLine; omega) fun j h1 h2 => ?_)
        match j, h1, h2 with
        | 0, _, _ => exact SeqAt.EqAt.int_int _ _ _ _
        | 1, _, _ => exact SeqAt.EqAt.int_int _ _ _ _
        | (n + 2), h1, _ => simp at h1; omega
    · rw [show vs.any (fun z => decide (vpair s.heap z = some q)) = vs.toList.any (fun z => decide (vpair s.heap z = some q)) by simp, i1]
      rfl
  · cases h
end Mine

namespace Mine
open PySem PyProof.Rows PySem.W

/-! the pure twins of the functions -/
def wC3 : AS :=
  sSeq (sAsg "sequences" (eComp (iL (eVar "sequences")) "s" (cEmit (c1 oTruth (eVar "s")) (eVar "s")) [".0", "s"]))
  (sSeq (sIf (bNot (c1 oTruth (eVar "sequences"))) (sSeq (sRet (eVar "result")) sNil) sNil)
  (sSeq (sFor (iL (eVar "sequences")) (asgN "s1")
     (sSeq (sAsg "candidate" (c2 oIdx (eVar "s1") (eInt 0)))
     (sSeq (sFor (iL (eVar "sequences")) (asgN "s2")
          (sSeq (sIf (asB (c2 oIn (eVar "candidate") (c3 oSlice (eVar "s2") (eInt 1) eNone))) (sSeq (sAsg "candidate" eNone) (sSeq sBrk sNil)) sNil) sNil)
          (sSeq sBrk sNil)) sNil))
     sNil)
  (sSeq (sIf (asB (c2 oIs (eVar "candidate") eNone)) (sSeq sRaise sNil) sNil)
  (sSeq (sApp (eVar "result") (eVar "candidate"))
  (sSeq (sFor (iL (eVar "sequences")) (asgN "seq") (sSeq (sIf (asB (c2 oEq (c2 oIdx (eVar "seq") (eInt 0)) (eVar "candidate"))) (sSeq (sDel (eVar "seq") (eInt 0)) sNil) sNil) sNil) sNil) sNil)))))
def fC3 : AS := sSeq (sAsg "result" (cL oList lNil)) (sSeq (aWhile (c1 oTruth (eBool true)) wC3 100) sNil)

def lInts : List Int → AL
  | [] => lNil
  | i :: r => lCons (eInt i) (lInts r)

def wOrder : AS :=
  sSeq (sApp (eVar "told") (c2 oIdx (eVar "left") (c2 oMod (eVar "x") (eVar "size"))))
  (sSeq (sAsg "left" (eComp (iL (eVar "left")) "y" (cEmit (asB (c2 oNe (eVar "y") (c2 oIdx (eVar "told") (c1 oNeg (eInt 1))))) (eVar "y")) [".0", "y"]))
  (sSeq (sAsg "x" (c2 oDiv (eVar "x") (eVar "size"))) sNil))
def fOrder : AS :=
  sSeq (sAsg "left" (cL oList (lInts [0, 1, 2, 3, 4, 5])))
  (sSeq (sAsg "told" (cL oList lNil))
  (sSeq (sFor (iT (cL oTup (lInts [6, 5, 4, 3, 2, 1]))) (asgN "size") wOrder sNil)
  (sSeq (sRet (eVar "told")) sNil)))

def eSum (x : String) : AE := cL oSum (lCons (eVar x) lNil)
def eLen (x : String) : AE := cL oLen (lCons (eVar x) lNil)
def eAt (x : String) (i : AE) : AE := c2 oIdx (eVar x) i
def ePlus (x : String) (k : Int) : AE := c2 oAdd (eVar x) (eInt k)

def oOrder := fnF ["x"] fOrder
def wRows1 : AS :=
  sSeq (sIf (bAnd [asB (c2 oLt (eVar "k") (eLen "script")), asB (c2 oEq (c2 oMod (eAt "script" (eVar "k")) (eInt 5)) (eInt 0))])
    (sSeq (sApp (eVar "rows") (cL oList (lCons (eAt "order" (ePlus "k" 1)) lNil))) sNil)
    (sSeq (sAsg "last" (eAt "rows" (c1 oNeg (eInt 1)))) (sSeq (sApp (eVar "last") (eAt "order" (ePlus "k" 1))) sNil))) sNil
def wRows2 : AS :=
  sSeq (sAsg "i" (c2 oMod (eVar "x") (eInt 6)))
  (sSeq (sAsg "j" (c2 oMod (c2 oDiv (eVar "x") (eInt 6)) (eInt 6)))
  (sSeq (sIf (bOr [asB (c2 oLt (eVar "i") (eVar "j")), bAnd [asB (c2 oGt (eVar "i") (eVar "j")), asB (c2 oEq (c2 oMod (c2 oDiv (eVar "x") (eInt 36)) (eInt 6)) (eInt 0))]])
    (sSeq (sApp (eVar "rows") (cL oList (lCons (eAt "order" (eVar "i")) (lCons (eAt "order" (eVar "j")) lNil)))) sNil) sNil)
  (sSeq (sIf (bAnd [asB (c2 oGt (eVar "i") (eVar "j")), asB (c2 oNe (c2 oMod (c2 oDiv (eVar "x") (eInt 36)) (eInt 6)) (eInt 0))])
    (sSeq (sApp (eVar "rows") (cL oList (lCons (eAt "order" (eVar "j")) (lCons (eAt "order" (eVar "i")) lNil)))) sNil) sNil) sNil)))
def fRows : AS :=
  sSeq (sAsg "order" (cL oOrder (lCons (eSum "script") lNil)))
  (sSeq (sAsg "rows" (cL oList (lCons (cL oList (lCons (eAt "order" (eInt 0)) lNil)) lNil)))
  (sSeq (sFor (iR (eInt 5)) (asgN "k") wRows1 sNil)
  (sSeq (sFor (iL (c3 oSlice (eVar "script") (eInt 5) (eInt 9))) (asgN "x") wRows2 sNil)
  (sSeq (sAsg "turn" (c2 oMod (eSum "script") (eLen "rows")))
  (sSeq (sRet (c2 oAdd (c3 oSlice (eVar "rows") (eVar "turn") eNone) (c3 oSlice (eVar "rows") eNone (eVar "turn")))) sNil)))))

def ePow (x : String) : AE := c2 oPow (eInt 2) (eVar x)
def eMaskX : AE := c2 oAdd (eVar "mask") (ePow "x")
def wCount2 : AS :=
  sSeq (sIf (bAnd [asB (c2 oEq (c2 oMod (c2 oDiv (eVar "mask") (ePow "x")) (eInt 2)) (eInt 0)), asB (c2 oEq (c2 oAnd (eVar "mask") (eAt "ahead" (eVar "x"))) (eAt "ahead" (eVar "x")))])
    (sSeq (sSet (c2 oAdd (eAt "ways" eMaskX) (eAt "ways" (eVar "mask"))) (eVar "ways") eMaskX) sNil) sNil) sNil
def wCount1 : AS := sSeq (sIf (asB (c2 oNe (eAt "ways" (eVar "mask")) (eInt 0))) (sSeq (sFor (iR (eInt 6)) (asgN "x") wCount2 sNil) sNil) sNil) sNil
def fCount : AS :=
  sSeq (sAsg "ahead" (c2 oMul (cL oList (lCons (eInt 0) lNil)) (eInt 6)))
  (sSeq (sFor (iL (eVar "steps")) (asgT "a" "b") (sSeq (sSet (c2 oOr (eAt "ahead" (eVar "b")) (ePow "a")) (eVar "ahead") (eVar "b")) sNil) sNil)
  (sSeq (sAsg "ways" (c2 oMul (cL oList (lCons (eInt 0) lNil)) (eInt 64)))
  (sSeq (sSet (eInt 1) (eVar "ways") (eInt 0))
  (sSeq (sFor (iR (eInt 64)) (asgN "mask") wCount1 sNil)
  (sSeq (sRet (eAt "ways" (eInt 63))) sNil)))))

def fKeeps : AS :=
  sSeq (sFor (iL (eVar "rows")) (asgN "row") (sSeq (sIf (asB (c2 oNe (eComp (iL (eVar "order")) "x" (cEmit (asB (c2 oIn (eVar "x") (eVar "row"))) (eVar "x")) [".0", "x"]) (eVar "row"))) (sSeq (sRet (eBool false)) sNil) sNil) sNil) sNil)
  (sSeq (sRet (eBool true)) sNil)

def oRows := fnF ["script"] fRows
def oCount := fnF ["steps"] fCount
def oKeeps := fnF ["order", "rows"] fKeeps
def oMerge := fnF ["sequences"] fC3

def eSteps : AE := eComp (iL (eVar "rows")) "row" (cInner tTrue (iR (c2 oSub (eLen "row") (eInt 1))) "k" (cEmit tTrue (cL oTup (lCons (eAt "row" (eVar "k")) (lCons (eAt "row" (ePlus "k" 1)) lNil))))) [".0", "row", "k"]
def eCopies : AE := eComp (iL (eVar "rows")) "row" (cEmit tTrue (cL oCopy (lCons (eVar "row") lNil))) [".0", "row"]
def eRevs : AE := eComp (iL (eVar "rows")) "row" (cEmit tTrue (c2 oRev (eVar "row") (c1 oNeg (eInt 1)))) [".0", "row"]
def eLoose : AE := eComp (iR (eInt 5)) "k" (cEmit (asB (c2 oNotIn (cL oTup (lCons (eAt "told" (eVar "k")) (lCons (eAt "told" (ePlus "k" 1)) lNil))) (eVar "steps"))) (eVar "k")) [".0", "k"]
def bKeeps (x : String) : AB := bNot (c1 oTruth (cL oKeeps (lCons (eVar x) (lCons (eVar "rows") lNil))))
def sNo : AS := sSeq (sRet (eBool false)) sNil
def fRest : AS :=
  sSeq (sIf (bOr [asB (c2 oEq (eVar "count") (eInt 0)), asB (c2 oNe (cL oSorted (lCons (eVar "told") lNil)) (cL oList (lInts [0, 1, 2, 3, 4, 5]))), bKeeps "told"]) sNo sNil)
  (sSeq (sAsg "loose" eLoose)
  (sSeq (sIf (asB (c2 oNe (c2 oEq (eVar "count") (eInt 1)) (c2 oEq (eVar "loose") (cL oList lNil)))) sNo sNil)
  (sSeq (sIf (asB (c2 oEq (eVar "loose") (cL oList lNil))) (sSeq (sRet (c2 oEq (cL oMerge (lCons eRevs lNil)) (c2 oRev (eVar "told") (c1 oNeg (eInt 1))))) sNil) sNil)
  (sSeq (sAsg "k" (eAt "loose" (c2 oMod (eSum "script") (eLen "loose"))))
  (sSeq (sAsg "other" (c2 oAdd (c2 oAdd (c3 oSlice (eVar "told") eNone (eVar "k")) (cL oList (lCons (eAt "told" (ePlus "k" 1)) (lCons (eAt "told" (eVar "k")) lNil)))) (c3 oSlice (eVar "told") (ePlus "k" 2) eNone)))
  (sSeq (sIf (bOr [asB (c2 oEq (eVar "other") (eVar "told")), bKeeps "other"]) sNo sNil)
  (sSeq (sRet (c2 oEq (cL oMerge (lCons (c2 oAdd (cL oList (lCons (cL oCopy (lCons (eVar "other") lNil)) lNil)) eCopies) lNil)) (eVar "other"))) sNil)))))))
def fLaw : AW :=
  wSeq (sAsg "rows" (cL oRows (lCons (eVar "script") lNil)))
  (wSeq (sAsg "steps" eSteps)
  (wSeq (sAsg "count" (cL oCount (lCons (eVar "steps") lNil)))
  (wTry "told" "count" (lCons eCopies lNil) ["sequences"] fC3 (sSeq (sRet (c2 oEq (eVar "count") (eInt 0))) sNil)
  (wSeq fRest fun _ _ => none))))

/-! the functions of the program -/
def bodyOf : Stmt → List Stmt
  | .FunctionDef _ _ body _ _ _ _ _ _ _ => body
  | _ => []
def scopeOf : Stmt → Scope
  | .FunctionDef _ _ _ _ _ _ scope _ _ _ => scope
  | _ => { kind := .module, names := [], isGenerator := false, isCoroutine := false, more := [] }
def paramsOf : Stmt → Arguments
  | .FunctionDef _ args _ _ _ _ _ _ _ _ => args
  | _ => { posonlyargs := [], args := [], vararg := none, kwonlyargs := [], kw_defaults := [], kwarg := none, defaults := [] }
def nthS (i : Nat) : Stmt := PySem.Challenge.pw_dw5006_01.main.body.getD i (.Pass ⟨0, 0, 0, 0⟩)
end Mine

namespace Mine

def L6 : List Int := [0, 1, 2, 3, 4, 5]
def stepsOf (rows : List (List Int)) : List (Int × Int) := rows.flatMap fun r => r.zip r.tail
def Resp (st : List (Int × Int)) (l : List Int) : Prop := ∀ p x q, l = p ++ x :: q → ∀ a, (a, x) ∈ st → a ∈ p

structure OKRows (rows : List (List Int)) : Prop where
  ne : ∀ r ∈ rows, r ≠ []
  nd : ∀ r ∈ rows, r.Nodup
  mem : ∀ r ∈ rows, ∀ v ∈ r, v ∈ L6
  cov : ∀ v ∈ L6, ∃ r ∈ rows, v ∈ r

theorem zip_tail_split {r : List Int} {a b : Int} (h : (a, b) ∈ r.zip r.tail) : ∃ p q, r = p ++ a :: b :: q := by
  induction r with
  | nil => simp at h
  | cons x t ih =>
    cases t with
    | nil => simp at h
    | cons y u =>
      simp only [List.tail_cons, List.zip_cons_cons, List.mem_cons] at h
      rcases h with h | h
      · cases h; exact ⟨[], u, rfl⟩
      · obtain ⟨p, q, e⟩ := ih h
        exact ⟨x :: p, q, by rw [e]; rfl⟩
theorem zip_tail_mem {p q : List Int} {a b : Int} : (a, b) ∈ (p ++ a :: b :: q).zip (p ++ a :: b :: q).tail := by
  induction p with
  | nil => simp
  | cons x p ih =>
    cases p with
    | nil => simp
    | cons y p => 
      simp only [List.cons_append, List.tail_cons, List.zip_cons_cons, List.mem_cons] at ih ⊢
      exact .inr ih

/-- before an item of a list without repetition stands what a pair says -/
theorem pair_before {l p q : List Int} {a b : Int} (nd : l.Nodup) (h : [a, b].Sublist l) (e : l = p ++ b :: q) : a ∈ p := by
  subst e
  rw [List.nodup_append] at nd
  obtain ⟨n1, n2, n3⟩ := nd
  have n2' := List.nodup_cons.mp n2
  induction p with
  | nil =>
    exfalso
    simp only [List.nil_append] at h
    cases h with
    | cons _ h => exact n2'.1 (h.subset (by simp))
    | cons_cons _ h => exact n2'.1 (h.subset (by simp))
  | cons x p ih =>
    cases h with
    | cons _ h => exact .tail _ (ih h (List.nodup_cons.mp n1).2 fun y hy z hz => n3 y (.tail _ hy) z hz)
    | cons_cons _ h => exact .head _

theorem resp_of {rows : List (List Int)} {l : List Int} (nd : l.Nodup) (h : ∀ r ∈ rows, r.Sublist l) : Resp (stepsOf rows) l := by
  intro p x q e a ha
  obtain ⟨r, hr, hz⟩ := List.mem_flatMap.mp ha
  obtain ⟨p', q', e'⟩ := zip_tail_split hz
  refine pair_before nd (List.Sublist.trans ?_ (h r hr)) e
  rw [e']
  exact (List.sublist_append_right p' [a, x]).trans (by
    rw [List.append_sublist_append_left]
    exact .cons_cons _ (.cons_cons _ (List.nil_sublist _)))

/-- a chain whose head is not in the first part lies in the second -/
theorem sub_right {p q t : List Int} {b : Int} (h : (b :: t).Sublist (p ++ q)) (hb : b ∉ p) : (b :: t).Sublist q := by
  induction p with
  | nil => exact h
  | cons x p ih =>
    rw [List.cons_append] at h
    cases h with
    | cons _ h => exact ih h fun hm => hb (.tail _ hm)
    | cons_cons _ h => exact absurd (.head _) hb

theorem sub_of {r l : List Int} (nd : l.Nodup) (hm : ∀ v ∈ r, v ∈ l) (hr : r.Nodup) (h : ∀ a b, (a, b) ∈ r.zip r.tail → ∀ p q, l = p ++ b :: q → a ∈ p) : r.Sublist l := by
  induction r with
  | nil => exact List.nil_sublist _
  | cons a r ih =>
    cases r with
    | nil =>
      exact List.singleton_sublist.mpr (hm a (by simp))
    | cons b r =>
      have h1 := ih (fun v hv => hm v (.tail _ hv)) (List.nodup_cons.mp hr).2 fun x y hxy => h x y (by
        simp only [List.tail_cons, List.zip_cons_cons, List.mem_cons] at hxy ⊢
        exact .inr hxy)
      obtain ⟨p, q, e⟩ := List.append_of_mem (hm b (by simp))
      have ha := h a b (by simp) p q e
      obtain ⟨p1, p2, e2⟩ := List.append_of_mem ha
      subst e2
      subst e
      have e3 : p1 ++ a :: p2 ++ b :: q = (p1 ++ [a]) ++ (p2 ++ b :: q) := by simp
      rw [e3] at h1 nd ⊢
      have hb : b ∉ p1 ++ [a] := fun hb => by
        rw [List.nodup_append] at nd
        exact nd.2.2 b hb b (by simp) rfl
      have h2 := sub_right h1 hb
      have h3 : [a].Sublist (p1 ++ [a]) := List.sublist_append_right _ _
      exact h3.append h2

theorem valid_of_resp {rows : List (List Int)} {l : List Int} (ok : OKRows rows) (hp : l.Perm L6) (h : Resp (stepsOf rows) l) : ∀ r ∈ rows, r.Sublist l := by
  intro r hr
  have nd : l.Nodup := hp.nodup_iff.mpr (by decide)
  exact sub_of nd (fun v hv => hp.mem_iff.mpr (ok.mem r hr v hv)) (ok.nd r hr) fun a b hab p q e => h p b q e a (List.mem_flatMap.mpr ⟨r, hr, hab⟩)

/-- what a chain keeps of an order is the chain -/
theorem filter_sub {r l : List Int} (nd : l.Nodup) (h : r.Sublist l) : l.filter (fun x => decide (x ∈ r)) = r := by
  induction h with
  | slnil => rfl
  | cons a h ih =>
    rename_i r l
    have hn := List.nodup_cons.mp nd
    rw [List.filter_cons_of_neg (by simpa using fun hm => hn.1 (h.subset hm))]
    exact ih hn.2
  | cons_cons a h ih =>
    rename_i r l
    have hn := List.nodup_cons.mp nd
    rw [List.filter_cons_of_pos (by simp)]
    congr 1
    rw [← ih hn.2]
    have : (l.filter fun x => decide (x ∈ r)) = r := ih hn.2
    rw [this]
    rw [← this]
    refine List.filter_congr fun x hx => ?_
    rw [this]
    have : x ≠ a := fun e => hn.1 (e ▸ hx)
    simp [this]

/-- a chain that is an order is the order -/
theorem chain_unique {rows : List (List Int)} {t l : List Int} (ht : t.Perm L6) (hl : l.Perm L6) (hc : ∀ a b, (a, b) ∈ t.zip t.tail → (a, b) ∈ stepsOf rows) (h : Resp (stepsOf rows) l) : l = t := by
  have nd : l.Nodup := hl.nodup_iff.mpr (by decide)
  have hs : t.Sublist l := sub_of nd (fun v hv => hl.mem_iff.mpr (ht.mem_iff.mp hv)) (ht.nodup_iff.mpr (by decide)) fun a b hab p q e => h p b q e a (hc a b hab)
  exact (hs.eq_of_length (by rw [ht.length_eq, hl.length_eq])).symm

/-- two neighbours that no pair binds may be swapped -/
theorem swap_resp {st : List (Int × Int)} {p q : List Int} {a b : Int} (nd : (p ++ a :: b :: q).Nodup) (h : Resp st (p ++ a :: b :: q)) (hn : (a, b) ∉ st) : Resp st (p ++ b :: a :: q) := by
  intro p' x q' e c hc
  have hab : a ≠ b := by
    rw [List.nodup_append] at nd
    have := (List.nodup_cons.mp nd.2.1).1
    intro e; exact this (by simp [e])
  rcases List.append_eq_append_iff.mp e with ⟨s, e1, e2⟩ | ⟨s, e1, e2⟩
  · -- p' = p ++ s
    cases s with
    | nil =>
      simp only [List.nil_append, List.cons.injEq] at e2
      obtain ⟨rfl, rfl⟩ := e2
      simp only [List.append_nil] at e1
      subst e1
      have := h (p' ++ [a]) b q (by simp) c hc
      rcases List.mem_append.mp this with hm | hm
      · exact hm
      · have hca : c = a := by simpa using hm
        subst hca
        exact absurd hc hn
    | cons y s =>
      simp only [List.cons_append, List.cons.injEq] at e2
      obtain ⟨rfl, e2⟩ := e2
      cases s with
      | nil =>
        simp only [List.nil_append, List.cons.injEq] at e2
        obtain ⟨rfl, rfl⟩ := e2
        subst e1
        have := h p a (b :: q) rfl c hc
        exact List.mem_append_left _ this
      | cons z s =>
        simp only [List.cons_append, List.cons.injEq] at e2
        obtain ⟨rfl, e2⟩ := e2
        subst e1
        have := h (p ++ a :: b :: s) x q' (by rw [e2]; simp) c hc
        simp only [List.mem_append, List.mem_cons] at this ⊢
        rcases this with h1 | h1 | h1 | h1
        · exact .inl h1
        · exact .inr (.inr (.inl h1))
        · exact .inr (.inl h1)
        · exact .inr (.inr (.inr h1))
  · -- p = p' ++ s
    cases s with
    | nil =>
      simp only [List.nil_append, List.cons.injEq] at e2
      obtain ⟨rfl, rfl⟩ := e2
      simp only [List.append_nil] at e1
      subst e1
      have := h (p ++ [a]) x q (by simp) c hc
      rcases List.mem_append.mp this with hm | hm
      · exact hm
      · have hca : c = a := by simpa using hm
        subst hca
        exact absurd hc hn
    | cons y s =>
      simp only [List.cons_append, List.cons.injEq] at e2
      obtain ⟨rfl, e2⟩ := e2
      subst e1
      exact h p' x (s ++ a :: b :: q) (by simp) c hc
end Mine

namespace Mine

theorem sum_nonneg {f : Nat → Int} : ∀ {l : List Nat}, (∀ y ∈ l, 0 ≤ f y) → 0 ≤ (l.map f).sum
  | [], _ => by simp
  | y :: l, h => by
    have h1 := h y (by simp)
    have h2 := sum_nonneg (f := f) (l := l) fun z hz => h z (.tail _ hz)
    simp only [List.map_cons, List.sum_cons]; omega
theorem sum_ge {f : Nat → Int} {x : Nat} : ∀ {l : List Nat}, (∀ y ∈ l, 0 ≤ f y) → x ∈ l → f x ≤ (l.map f).sum
  | y :: l, h, hx => by
    have h1 := h y (by simp)
    have h2 := sum_nonneg (f := f) (l := l) fun z hz => h z (.tail _ hz)
    simp only [List.map_cons, List.sum_cons]
    rcases List.mem_cons.mp hx with rfl | hx
    · omega
    · have := sum_ge (f := f) (l := l) (fun z hz => h z (.tail _ hz)) hx
      omega
theorem sum_ge2 {f : Nat → Int} {x y : Nat} (hxy : x ≠ y) : ∀ {l : List Nat}, (∀ y ∈ l, 0 ≤ f y) → x ∈ l → y ∈ l → f x + f y ≤ (l.map f).sum
  | z :: l, h, hx, hy => by
    have h1 := h z (by simp)
    have h' : ∀ y ∈ l, 0 ≤ f y := fun z hz => h z (.tail _ hz)
    simp only [List.map_cons, List.sum_cons]
    rcases List.mem_cons.mp hx with ex | kx
    · rcases List.mem_cons.mp hy with ey | ky
      · exact absurd (ex.trans ey.symm) hxy
      · subst ex
        have := sum_ge h' ky; omega
    · rcases List.mem_cons.mp hy with ey | ky
      · subst ey
        have := sum_ge h' kx; omega
      · have := sum_ge2 hxy h' kx ky; omega
theorem sum_zero {f : Nat → Int} : ∀ {l : List Nat}, (∀ y ∈ l, f y = 0) → (l.map f).sum = 0
  | [], _ => by simp
  | y :: l, h => by
    simp only [List.map_cons, List.sum_cons]
    rw [h y (by simp), sum_zero fun z hz => h z (.tail _ hz)]; rfl
theorem sum_one {f : Nat → Int} {x : Nat} : ∀ {l : List Nat}, l.Nodup → x ∈ l → (∀ y ∈ l, y ≠ x → f y = 0) → (l.map f).sum = f x
  | y :: l, nd, hx, h => by
    have nd' := List.nodup_cons.mp nd
    simp only [List.map_cons, List.sum_cons]
    rcases List.mem_cons.mp hx with rfl | hx
    · rw [sum_zero fun z hz => h z (.tail _ hz) fun e => nd'.1 (e ▸ hz)]; omega
    · rw [h y (by simp) fun e => nd'.1 (e ▸ hx), sum_one nd'.2 hx fun z hz => h z (.tail _ hz)]; omega
theorem sum_ne {f : Nat → Int} : ∀ {l : List Nat}, (l.map f).sum ≠ 0 → ∃ y ∈ l, f y ≠ 0
  | [], h => absurd (by simp) h
  | y :: l, h => by
    by_cases hy : f y = 0
    · simp only [List.map_cons, List.sum_cons, hy, Int.zero_add] at h
      obtain ⟨z, hz, e⟩ := sum_ne h
      exact ⟨z, .tail _ hz, e⟩
    · exact ⟨y, by simp, hy⟩

theorem bit_sub : ∀ m < 64, ∀ x < 6, m.testBit x = true → m - 2 ^ x < m ∧ (∀ y < 6, (m - 2 ^ x).testBit y = (m.testBit y && y != x)) ∧ m - 2 ^ x + 2 ^ x = m := by decide +kernel
theorem bit_add : ∀ m < 64, ∀ x < 6, m.testBit x = false → m + 2 ^ x < 64 ∧ ∀ y < 6, (m + 2 ^ x).testBit y = (m.testBit y || y == x) := by decide +kernel

theorem mem6 {v : Int} (h : v ∈ L6) : ∃ n : Nat, n < 6 ∧ v = n := by
  simp only [L6, List.mem_cons, List.not_mem_nil, or_false] at h
  rcases h with rfl | rfl | rfl | rfl | rfl | rfl
  · exact ⟨0, by decide, rfl⟩
  · exact ⟨1, by decide, rfl⟩
  · exact ⟨2, by decide, rfl⟩
  · exact ⟨3, by decide, rfl⟩
  · exact ⟨4, by decide, rfl⟩
  · exact ⟨5, by decide, rfl⟩
theorem mem6' {n : Nat} (h : n < 6) : (n : Int) ∈ L6 := by
  have : n = 0 ∨ n = 1 ∨ n = 2 ∨ n = 3 ∨ n = 4 ∨ n = 5 := by omega
  rcases this with rfl | rfl | rfl | rfl | rfl | rfl <;> decide

def maskL (l : List Int) : Nat := (l.map fun x => 2 ^ x.toNat).sum
theorem mask_snoc (l : List Int) (x : Nat) : maskL (l ++ [(x : Int)]) = maskL l + 2 ^ x := by simp [maskL]

theorem mask_bits : ∀ l : List Int, l.Nodup → (∀ v ∈ l, v ∈ L6) → maskL l < 64 ∧ ∀ y < 6, (maskL l).testBit y = decide ((y : Int) ∈ l)
  | [], _, _ => by simp [maskL]
  | v :: l, nd, h => by
    have nd' := List.nodup_cons.mp nd
    obtain ⟨h1, h2⟩ := mask_bits l nd'.2 fun z hz => h z (.tail _ hz)
    obtain ⟨n, hn, rfl⟩ := mem6 (h v (by simp))
    have hb : (maskL l).testBit n = false := by rw [h2 n hn]; simpa using nd'.1
    obtain ⟨h3, h4⟩ := bit_add _ h1 n hn hb
    have e : maskL ((n : Int) :: l) = maskL l + 2 ^ n := by simp [maskL, Nat.add_comm]
    rw [e]
    refine ⟨h3, fun y hy => ?_⟩
    rw [h4 y hy, h2 y hy]
    by_cases hyn : y = n
    · subst hyn; simp
    · have : (y : Int) ≠ n := by omega
      simp [hyn, this]

theorem mask_mem {l : List Int} (nd : l.Nodup) (h : ∀ v ∈ l, v ∈ L6) {y : Nat} (hy : y < 6) : (maskL l).testBit y = true ↔ (y : Int) ∈ l := by
  rw [(mask_bits l nd h).2 y hy]; simp

open Classical in
/-- the share of the ways in which x comes last -/
noncomputable def tm (st : List (Int × Int)) (W : Nat → Int) (m x : Nat) : Int :=
  if m.testBit x = true ∧ (∀ a : Nat, ((a : Int), (x : Int)) ∈ st → (m - 2 ^ x).testBit a = true) then W (m - 2 ^ x) else 0

/-- what the table of ways satisfies -/
structure Rec (st : List (Int × Int)) (W : Nat → Int) : Prop where
  rng : ∀ a b, (a, b) ∈ st → a ∈ L6 ∧ b ∈ L6
  eq : ∀ m < 64, W m = (if m = 0 then 1 else 0) + ((List.range 6).map (tm st W m)).sum

section
variable {st : List (Int × Int)} {W : Nat → Int}

theorem Rec.nonneg (R : Rec st W) : ∀ m, m < 64 → 0 ≤ W m := by
  intro m
  induction m using Nat.strongRecOn with
  | ind m ih =>
    intro hm
    rw [R.eq m hm]
    have : 0 ≤ ((List.range 6).map (tm st W m)).sum := by
      refine sum_nonneg fun x hx => ?_
      have hx' : x < 6 := by simpa using hx
      unfold tm
      split
      · rename_i hc
        have := (bit_sub m hm x hx' hc.1).1
        exact ih _ this (by omega)
      · omega
    split <;> omega

theorem Rec.terms (R : Rec st W) {m : Nat} (hm : m < 64) : ∀ x ∈ List.range 6, 0 ≤ tm st W m x := by
  intro x hx
  have hx' : x < 6 := by simpa using hx
  unfold tm
  split
  · rename_i hc
    have := (bit_sub m hm x hx' hc.1).1
    exact R.nonneg _ (by omega)
  · omega

theorem Resp.left {l q : List Int} (h : Resp st (l ++ q)) : Resp st l := fun p x r e a ha => h p x (r ++ q) (by rw [e]; simp) a ha

theorem resp_snoc {l : List Int} {x : Int} (h : Resp st l) (hx : ∀ a, (a, x) ∈ st → a ∈ l) : Resp st (l ++ [x]) := by
  intro p z q e a ha
  rcases List.append_eq_append_iff.mp e with ⟨s, e1, e2⟩ | ⟨s, e1, e2⟩
  · cases s with
    | nil =>
      simp only [List.nil_append, List.cons.injEq] at e2
      obtain ⟨rfl, _⟩ := e2
      simp only [List.append_nil] at e1
      rw [e1]; exact hx a ha
    | cons y s =>
      simp only [List.cons_append, List.cons.injEq] at e2
      have := e2.2
      simp at this
  · cases s with
    | nil =>
      simp only [List.nil_append, List.cons.injEq] at e2
      obtain ⟨rfl, _⟩ := e2
      simp only [List.append_nil] at e1
      rw [← e1]; exact hx a ha
    | cons y s =>
      simp only [List.cons_append, List.cons.injEq] at e2
      obtain ⟨rfl, e2⟩ := e2
      exact h p z s e1 a ha

theorem Rec.c0 (R : Rec st W) : ∀ m, m < 64 → W m ≠ 0 → ∃ l : List Int, l.Nodup ∧ (∀ v ∈ l, v ∈ L6) ∧ maskL l = m ∧ Resp st l := by
  intro m
  induction m using Nat.strongRecOn with
  | ind m ih =>
    intro hm hw
    by_cases h0 : m = 0
    · subst h0
      exact ⟨[], List.nodup_nil, by simp, rfl, fun p x q e => by simp at e⟩
    · rw [R.eq m hm, if_neg h0, Int.zero_add] at hw
      obtain ⟨x, hx, ht⟩ := sum_ne hw
      have hx' : x < 6 := by simpa using hx
      unfold tm at ht
      split at ht
      · rename_i hc
        obtain ⟨b1, b2, b3⟩ := bit_sub m hm x hx' hc.1
        obtain ⟨l, nd, hl, hmask, hr⟩ := ih _ b1 (by omega) ht
        have hxl : (x : Int) ∉ l := fun hin => by
          have := (mask_mem nd hl hx').mpr hin
          rw [hmask, b2 x hx'] at this
          simp at this
        refine ⟨l ++ [(x : Int)], ?_, ?_, by rw [mask_snoc, hmask, b3], resp_snoc hr fun a ha => ?_⟩
        · rw [List.nodup_append]
          exact ⟨nd, by simp, fun y hy z hz => by rw [List.mem_singleton.mp hz]; rintro rfl; exact hxl hy⟩
        · intro v hv
          rcases List.mem_append.mp hv with hv | hv
          · exact hl v hv
          · rw [List.mem_singleton.mp hv]; exact mem6' hx'
        · obtain ⟨n, hn, rfl⟩ := mem6 (R.rng _ _ ha).1
          have := hc.2 n ha
          rw [← hmask] at this
          exact (mask_mem nd hl hn).mp this
      · exact absurd rfl ht

/-- the last item's share of the ways -/
theorem Rec.term (_R : Rec st W) {l : List Int} {x : Nat} (hx : x < 6) (nd : (l ++ [(x : Int)]).Nodup) (hl : ∀ v ∈ l ++ [(x : Int)], v ∈ L6) (h : ∀ a, (a, (x : Int)) ∈ st → a ∈ l) :
    maskL (l ++ [(x : Int)]) < 64 ∧ tm st W (maskL (l ++ [(x : Int)])) x = W (maskL l) := by
  obtain ⟨h1, h2⟩ := mask_bits _ nd hl
  have ndl : l.Nodup := (List.nodup_append.mp nd).1
  have hll : ∀ v ∈ l, v ∈ L6 := fun v hv => hl v (List.mem_append_left _ hv)
  have e : maskL (l ++ [(x : Int)]) - 2 ^ x = maskL l := by rw [mask_snoc]; omega
  refine ⟨h1, ?_⟩
  unfold tm
  rw [e, if_pos]
  refine ⟨by rw [h2 x hx]; simp, fun a ha => ?_⟩
  have hm := h a ha
  have ha6 : a < 6 := by
    obtain ⟨n, hn, e⟩ := mem6 (hll _ hm)
    omega
  exact (mask_mem ndl hll ha6).mpr hm

theorem resp_last {l : List Int} {x : Int} (h : Resp st (l ++ [x])) : ∀ a, (a, x) ∈ st → a ∈ l := fun a ha => h l x [] rfl a ha

theorem snoc_or (l : List Int) : l = [] ∨ ∃ r x, l = r ++ [x] := by
  cases h : l.reverse with
  | nil => exact .inl (by simpa using h)
  | cons x r => exact .inr ⟨r.reverse, x, by
      have := congrArg List.reverse h
      simpa using this⟩

theorem Rec.ge (R : Rec st W) {l : List Int} {x : Nat} (hx : x < 6) (nd : (l ++ [(x : Int)]).Nodup) (hl : ∀ v ∈ l ++ [(x : Int)], v ∈ L6) (h : ∀ a, (a, (x : Int)) ∈ st → a ∈ l) :
    W (maskL l) ≤ W (maskL (l ++ [(x : Int)])) := by
  obtain ⟨h1, h2⟩ := R.term hx nd hl h
  have := sum_ge (R.terms h1) (List.mem_range.mpr hx)
  rw [h2] at this
  rw [R.eq _ h1]
  split <;> omega

theorem Rec.zero (R : Rec st W) : 1 ≤ W (maskL []) := by
  have h0 : (0 : Nat) < 64 := by decide
  have e : maskL [] = 0 := rfl
  have := sum_nonneg (R.terms h0)
  rw [e, R.eq 0 h0, if_pos rfl]
  omega

theorem Rec.lower (R : Rec st W) (k : Int) (p : List Int) (hp : k ≤ W (maskL p)) : ∀ n (q : List Int), q.length = n → (p ++ q).Nodup → (∀ v ∈ p ++ q, v ∈ L6) → Resp st (p ++ q) → k ≤ W (maskL (p ++ q)) := by
  intro n
  induction n with
  | zero => intro q hq _ _ _; rw [List.length_eq_zero_iff.mp hq]; simpa using hp
  | succ n ih =>
    intro q hq nd hl hr
    rcases snoc_or q with rfl | ⟨r, x, rfl⟩
    · simp at hq
    · rw [← List.append_assoc] at nd hl hr ⊢
      obtain ⟨y, hy, rfl⟩ := mem6 (hl x (by simp))
      have h1 := ih r (by simpa using hq) (List.nodup_append.mp nd).1 (fun v hv => hl v (List.mem_append_left _ hv)) hr.left
      exact Int.le_trans h1 (R.ge hy nd hl (resp_last hr))

theorem Rec.c1 (R : Rec st W) {l : List Int} (nd : l.Nodup) (hl : ∀ v ∈ l, v ∈ L6) (hr : Resp st l) : 1 ≤ W (maskL l) := by
  have := R.lower 1 [] R.zero _ l rfl nd hl hr
  simpa using this

theorem Rec.c3 (R : Rec st W) {p q : List Int} {a b : Int} (nd : (p ++ a :: b :: q).Nodup) (hl : ∀ v ∈ p ++ a :: b :: q, v ∈ L6) (h1 : Resp st (p ++ a :: b :: q)) (h2 : Resp st (p ++ b :: a :: q)) : 2 ≤ W (maskL (p ++ a :: b :: q)) := by
  have e1 : p ++ a :: b :: q = (p ++ [a, b]) ++ q := by simp
  have e2 : p ++ b :: a :: q = (p ++ [b, a]) ++ q := by simp
  rw [e1] at nd hl h1 ⊢
  rw [e2] at h2
  refine R.lower 2 _ ?_ _ q rfl nd hl h1
  have nd1 := (List.nodup_append.mp nd).1
  have hl1 : ∀ v ∈ p ++ [a, b], v ∈ L6 := fun v hv => hl v (List.mem_append_left _ hv)
  have hr1 := h1.left
  have hr2 := h2.left
  have e3 : p ++ [a, b] = (p ++ [a]) ++ [b] := by simp
  have e4 : p ++ [b, a] = (p ++ [b]) ++ [a] := by simp
  have hmk : maskL (p ++ [a, b]) = maskL (p ++ [b, a]) := by simp [maskL]; omega
  have nd2 : (p ++ [b, a]).Nodup := (List.Perm.nodup_iff (List.Perm.append_left p (List.Perm.swap b a []))).mp nd1
  have hl2 : ∀ v ∈ p ++ [b, a], v ∈ L6 := fun v hv => hl1 v (by
    simp only [List.mem_append, List.mem_cons, List.not_mem_nil, or_false] at hv ⊢
    rcases hv with h | h | h
    · exact .inl h
    · exact .inr (.inr h)
    · exact .inr (.inl h))
  obtain ⟨x, hx, rfl⟩ := mem6 (hl1 a (by simp))
  obtain ⟨y, hy, rfl⟩ := mem6 (hl1 b (by simp))
  rw [e3] at nd1 hl1 hr1
  rw [e4] at nd2 hl2 hr2
  obtain ⟨g1, g2⟩ := R.term hy nd1 hl1 (resp_last hr1)
  obtain ⟨g3, g4⟩ := R.term hx nd2 hl2 (resp_last hr2)
  have hxy : x ≠ y := by
    rintro rfl
    rw [List.nodup_append] at nd1
    exact nd1.2.2 (x : Int) (by simp) (x : Int) (by simp) rfl
  rw [← e4, ← hmk, e3] at g4
  have := sum_ge2 (Ne.symm hxy) (R.terms g1) (List.mem_range.mpr hy) (List.mem_range.mpr hx)
  rw [g2, g4] at this
  have w1 : 1 ≤ W (maskL (p ++ [(x : Int)])) := R.c1 (List.nodup_append.mp nd1).1 (fun v hv => hl1 v (List.mem_append_left _ hv)) hr1.left
  have w2 : 1 ≤ W (maskL (p ++ [(y : Int)])) := R.c1 (List.nodup_append.mp nd2).1 (fun v hv => hl2 v (List.mem_append_left _ hv)) hr2.left
  rw [e3, R.eq _ g1]
  split <;> omega

theorem Rec.c2 (R : Rec st W) : ∀ n (l : List Int), l.length = n → l.Nodup → (∀ v ∈ l, v ∈ L6) → Resp st l → (∀ a b, (a, b) ∈ l.zip l.tail → (a, b) ∈ st) → W (maskL l) = 1 := by
  intro n
  induction n with
  | zero =>
    intro l hlen _ _ _ _
    rw [List.length_eq_zero_iff.mp hlen]
    have h0 : (0 : Nat) < 64 := by decide
    have e : maskL [] = 0 := rfl
    rw [e, R.eq 0 h0, if_pos rfl, sum_zero fun x hx => ?_]
    · rfl
    · simp [tm]
  | succ n ih =>
    intro l hlen nd hl hr hc
    rcases snoc_or l with rfl | ⟨r, x, rfl⟩
    · simp at hlen
    · obtain ⟨y, hy, rfl⟩ := mem6 (hl x (by simp))
      obtain ⟨g1, g2⟩ := R.term hy nd hl (resp_last hr)
      have ndr := (List.nodup_append.mp nd).1
      have hlr : ∀ v ∈ r, v ∈ L6 := fun v hv => hl v (List.mem_append_left _ hv)
      have hpos : maskL (r ++ [(y : Int)]) ≠ 0 := by
        rw [mask_snoc]
        have : 0 < 2 ^ y := Nat.two_pow_pos y
        omega
      rw [R.eq _ g1, if_neg hpos, sum_one List.nodup_range (List.mem_range.mpr hy) (fun z hz hzy => ?_), g2, Int.zero_add]
      · refine ih r (by simpa using hlen) ndr hlr hr.left fun a b hab => hc a b ?_
        obtain ⟨p, q, e⟩ := zip_tail_split hab
        rw [e]
        have : p ++ a :: b :: q ++ [(y : Int)] = p ++ a :: b :: (q ++ [(y : Int)]) := by simp
        rw [this]
        exact zip_tail_mem
      · have hz6 : z < 6 := by simpa using hz
        unfold tm
        split
        · rename_i hcz
          have hzm := (mask_mem nd hl hz6).mp hcz.1
          have hzr : (z : Int) ∈ r := by
            rcases List.mem_append.mp hzm with h | h
            · exact h
            · exact absurd (by have := List.mem_singleton.mp h; omega) hzy
          obtain ⟨p, q, e⟩ := List.append_of_mem hzr
          obtain ⟨b1, b2, b3⟩ := bit_sub _ g1 z hz6 hcz.1
          obtain ⟨u, hu⟩ : ∃ u v, r ++ [(y : Int)] = p ++ (z : Int) :: u :: v := by
            subst e
            cases q with
            | nil => exact ⟨y, [], by simp⟩
            | cons u v => exact ⟨u, v ++ [(y : Int)], by simp⟩
          obtain ⟨v, hu⟩ := hu
          have hst : ((z : Int), u) ∈ st := hc _ _ (by rw [hu]; exact zip_tail_mem)
          obtain ⟨u', hu', rfl⟩ := mem6 (R.rng _ _ hst).2
          refine Classical.byContradiction fun hw => ?_
          obtain ⟨l', nd', hl', hmk, hr'⟩ := R.c0 _ (by omega) hw
          have hne : u' ≠ z := by
            rintro rfl
            rw [hu] at nd
            have := (List.nodup_append.mp nd).2.1
            simp at this
          have huin : (u' : Int) ∈ l' := by
            rw [← mask_mem nd' hl' hu', hmk, b2 u' hu']
            have : (maskL (r ++ [(y : Int)])).testBit u' = true := (mask_mem nd hl hu').mpr (by rw [hu]; simp)
            simp [this, hne]
          obtain ⟨p', q', e'⟩ := List.append_of_mem huin
          have hzin := hr' p' u' q' e' z hst
          have : (z : Int) ∈ l' := by rw [e']; exact List.mem_append_left _ hzin
          rw [← mask_mem nd' hl' hz6, hmk, b2 z hz6] at this
          simp at this
        · rfl
end

theorem perm6 {l : List Int} (nd : l.Nodup) (h : ∀ v, v ∈ l ↔ v ∈ L6) : l.Perm L6 := (List.perm_ext_iff_of_nodup nd (by decide)).mpr h
theorem mask63 {l : List Int} (nd : l.Nodup) (hl : ∀ v ∈ l, v ∈ L6) (h : maskL l = 63) : l.Perm L6 := by
  refine perm6 nd fun v => ⟨hl v, fun hv => ?_⟩
  obtain ⟨n, hn, rfl⟩ := mem6 hv
  rw [← mask_mem nd hl hn, h]
  have : ∀ n < 6, Nat.testBit 63 n = true := by decide
  exact this n hn
theorem perm_mask {l : List Int} (h : l.Perm L6) : maskL l = 63 := by
  unfold maskL
  rw [(h.map _).sum_nat]
  decide
end Mine

namespace Mine

def Pre (H H' : AH) : Prop := ∀ (i : Nat) (o : AO), H[i]? = some o → H'[i]? = some o
theorem Pre.refl (H : AH) : Pre H H := fun _ _ h => h
theorem Pre.trans {H H' H'' : AH} (a : Pre H H') (b : Pre H' H'') : Pre H H'' := fun i o h => b i o (a i o h)
theorem Pre.app (H K : AH) : Pre H (H ++ K) := fun i o h => by
  rw [List.getElem?_append_left (List.getElem?_eq_some_iff.mp h).1]; exact h
theorem get_new (H K : AH) (o : AO) : (H ++ o :: K)[H.length]? = some o := by simp
theorem Pre.len {H H' : AH} (h : Pre H H') : H.length ≤ H'.length := by
  refine Nat.le_of_not_lt fun hlt => ?_
  have h1 : H[H'.length]? = some H[H'.length] := by simp [hlt]
  have := h _ _ h1
  simp at this
theorem Pre.set {H H' : AH} {n : Nat} {o : AO} (h : Pre H H') (hn : H.length ≤ n) : Pre H (H'.set n o) := fun i x e => by
  have hi := (List.getElem?_eq_some_iff.mp e).1
  rw [List.getElem?_set_ne (by omega)]
  exact h i x e
theorem set_ne {H : AH} {n m : Nat} {o x : AO} (e : H[m]? = some x) (hn : n ≠ m) : (H.set n o)[m]? = some x := by
  rw [List.getElem?_set_ne hn]; exact e
theorem set_eq {H : AH} {n : Nat} {o x : AO} (e : H[n]? = some x) : (H.set n o)[n]? = some o := by
  rw [List.getElem?_set_self (List.getElem?_eq_some_iff.mp e).1]

theorem upd_eq (σ : Sg) (x : String) (v : AV) : upd σ x v x = some v := by simp [upd]
theorem upd_ne {σ : Sg} {x y : String} {v : AV} (h : y ≠ x) : upd σ x v y = σ y := by simp [upd, h]

theorem ints_av : ∀ ns : List Int, intsOf (avInts ns) = some ns
  | [] => rfl
  | n :: r => by
    have := ints_av r
    show (intsOf (avInts r)).map _ = _
    rw [this]; rfl
theorem lget_list {H : AH} {n : Nat} {xs : List AV} (h : H[n]? = some (.list xs)) : lget H (.ref n) = some xs := by simp [lget, h]
theorem lget_ro {H : AH} {n : Nat} {xs : List AV} (h : H[n]? = some (.ro xs)) : lget H (.ref n) = some xs := by simp [lget, h]
theorem mget_list {H : AH} {n : Nat} {xs : List AV} (h : H[n]? = some (.list xs)) : mget H (.ref n) = some xs := by simp [mget, h]
theorem tget_tup {H : AH} {n : Nat} {xs : List AV} (h : H[n]? = some (.tup xs)) : tget H (.ref n) = some xs := by simp [tget, h]
theorem av_len (ns : List Int) : (avInts ns).length = ns.length := by simp [avInts]
theorem av_get {ns : List Int} {k : Nat} {v : Int} (h : ns[k]? = some v) : (avInts ns)[k]? = some (.int v) := by simp [avInts, h]
theorem at_nat {xs : List AV} {k : Nat} {v : AV} (hl : xs.length ≤ LIM) (h : xs[k]? = some v) : at? xs (k : Int) = some v := by
  have h1 : (0 : Int) ≤ k := by omega
  simp only [at?, if_pos hl, if_pos h1]
  simpa using h

theorem eqL_self (l : List AV) : eqL l l = true := eqL_refl l
/-- the check of a loop over a list holds while the list stands -/
theorem chk_list {n : Nat} {xs : List AV} {H : AH} (h : H[n]? = some (.list xs)) : chkL (.ref n) xs H = true := by simp [chkL, lget, h, eqL_refl]
theorem chk_ro {n : Nat} {xs : List AV} {H : AH} (h : H[n]? = some (.ro xs)) : chkL (.ref n) xs H = true := by simp [chkL, lget, h, eqL_refl]

/-- a loop that runs to its end -/
theorem aFor_ind {chk : AH → Bool} {asg : Asg} {body orelse : AS} (P : List AV → Sg → AH → Prop)
    (h : ∀ x r σ H, P (x :: r) σ H → chk H = true ∧ ∃ σ₁ σ' H', asg x σ H = some σ₁ ∧ body σ₁ H = some (.next, σ', H') ∧ P r σ' H') (h0 : ∀ σ H, P [] σ H → chk H = true) :
    ∀ xs σ H, P xs σ H → ∃ σ' H', P [] σ' H' ∧ aFor chk asg body orelse xs σ H = orelse σ' H'
  | [], σ, H, p => ⟨σ, H, p, by simp [aFor, h0 σ H p]⟩
  | x :: r, σ, H, p => by
    obtain ⟨hc, σ₁, σ', H', e1, e2, p'⟩ := h x r σ H p
    obtain ⟨σ'', H'', p'', e⟩ := aFor_ind P h h0 r σ' H' p'
    refine ⟨σ'', H'', p'', ?_⟩
    simp only [aFor, hc, if_true, e1, Option.bind_some, e2]
    exact e

/-- a comprehension that picks ints -/
theorem cLoop_filter {chk : AH → Bool} {t : AB} {σ : Sg} {x : String} {p : Int → Bool} {H₀ : AH} (hchk : ∀ H, Pre H₀ H → chk H = true) :
    ∀ (xs : List Int) (H : AH), Pre H₀ H → (∀ y ∈ xs, ∀ H, Pre H₀ H → ∃ H', t (upd σ x (.int y)) H = some (p y, H') ∧ Pre H H') →
      ∃ H', cLoop chk (asgN x) (cEmit t (eVar x)) σ (avInts xs) H = some (avInts (xs.filter p), H') ∧ Pre H H'
  | [], H, h0, _ => ⟨H, by simp [avInts, cLoop, hchk H h0], Pre.refl _⟩
  | y :: r, H, h0, ht => by
    obtain ⟨H₁, e1, h1⟩ := ht y (by simp) H h0
    obtain ⟨H₂, e2, h2⟩ := cLoop_filter hchk r H₁ (h0.trans h1) fun z hz => ht z (.tail _ hz)
    refine ⟨H₂, ?_, h1.trans h2⟩
    have e2' : cLoop chk (asgN x) (cEmit t (eVar x)) σ (List.map AV.int r) H₁ = some (avInts (r.filter p), H₂) := e2
    simp only [avInts, List.map_cons, cLoop, hchk H h0, if_true, asgN, Option.bind_some, cEmit, e1]
    cases hp : p y with
    | true =>
      simp only [if_true, eVar, upd_eq, Option.map_some, Option.bind_some]
      rw [e2']
      simp [avInts, hp]
    | false =>
      simp only [Bool.false_eq_true, if_false, Option.bind_some]
      rw [e2']
      simp [avInts, hp]

theorem comp_filter {it : AI} {chk : AH → Bool} {t : AB} {σ : Sg} {x : String} {K : List String} {p : Int → Bool} {H : AH} {xs : List Int} (hit : it σ H = some ((avInts xs, chk), H)) (hchk : ∀ H', Pre H H' → chk H' = true)
    (hl : xs.length ≤ LIM) (ht : ∀ y ∈ xs, ∀ H', Pre H H' → ∃ H'', t (upd (hid K σ) x (.int y)) H' = some (p y, H'') ∧ Pre H' H'') :
    ∃ n H', eComp it x (cEmit t (eVar x)) K σ H = some (.ref n, H') ∧ Pre H H' ∧ H.length ≤ n ∧ H'[n]? = some (.list (avInts (xs.filter p))) := by
  obtain ⟨H₁, e1, h1⟩ := cLoop_filter (σ := hid K σ) (x := x) (t := t) hchk xs H (Pre.refl _) ht
  refine ⟨H₁.length, H₁ ++ [.list (avInts (xs.filter p))], ?_, h1.trans (Pre.app _ _), h1.len, get_new _ _ _⟩
  have hl' : (avInts (xs.filter p)).length ≤ LIM := by
    rw [av_len]; exact Nat.le_trans (List.length_filter_le _ _) hl
  simp only [eComp, hit, Option.bind_some, e1, if_pos hl']
end Mine

namespace Mine

theorem seq_next {f g : AS} {σ σ' : Sg} {H H' : AH} (h : f σ H = some (.next, σ', H')) : sSeq f g σ H = g σ' H' := by simp [sSeq, h]
theorem asg_ev {x : String} {f : AE} {σ : Sg} {H H' : AH} {v : AV} (h : f σ H = some (v, H')) : sAsg x f σ H = some (.next, upd σ x v, H') := by simp [sAsg, h]
theorem ret_ev {f : AE} {σ : Sg} {H H' : AH} {v : AV} (h : f σ H = some (v, H')) : sRet f σ H = some (.ret v, σ, H') := by simp [sRet, h]
theorem if_t {t : AB} {f g : AS} {σ : Sg} {H H' : AH} (h : t σ H = some (true, H')) : sIf t f g σ H = f σ H' := by simp [sIf, h]
theorem if_f {t : AB} {f g : AS} {σ : Sg} {H H' : AH} (h : t σ H = some (false, H')) : sIf t f g σ H = g σ H' := by simp [sIf, h]
theorem asB_ev {f : AE} {σ : Sg} {H H' : AH} {b : Bool} (h : f σ H = some (.bool b, H')) : asB f σ H = some (b, H') := by simp [asB, h]
theorem c2_ev {β : Type} {op : AV × AV → AH → Option (β × AH)} {f g : AE} {σ : Sg} {H H₁ H₂ : AH} {a b : AV} (hf : f σ H = some (a, H₁)) (hg : g σ H₁ = some (b, H₂)) : c2 op f g σ H = op (a, b) H₂ := by simp [c2, hf, hg]
theorem c1_ev {β : Type} {op : AV → AH → Option (β × AH)} {f : AE} {σ : Sg} {H H₁ : AH} {a : AV} (hf : f σ H = some (a, H₁)) : c1 op f σ H = op a H₁ := by simp [c1, hf]
theorem var_ev {x : String} {σ : Sg} {H : AH} {v : AV} (h : σ x = some v) : eVar x σ H = some (v, H) := by simp [eVar, h]
theorem int_ev {i : Int} {σ : Sg} {H : AH} : eInt i σ H = some (.int i, H) := rfl
theorem cL_ev {o : List AV → AH → Option (AV × AH)} {g : AL} {σ : Sg} {H H₁ : AH} {l : List AV} (h : g σ H = some (l, H₁)) : cL o g σ H = o l H₁ := by simp [cL, h]
theorem l1_ev {f : AE} {σ : Sg} {H H₁ : AH} {a : AV} (h : f σ H = some (a, H₁)) : lCons f lNil σ H = some ([a], H₁) := by simp [lCons, lNil, h]
theorem l2_ev {f g : AE} {σ : Sg} {H H₁ H₂ : AH} {a b : AV} (h : f σ H = some (a, H₁)) (h2 : g σ H₁ = some (b, H₂)) : lCons f (lCons g lNil) σ H = some ([a, b], H₂) := by simp [lCons, lNil, h, h2]
theorem lInts_ev {σ : Sg} {H : AH} : ∀ ns : List Int, lInts ns σ H = some (avInts ns, H)
  | [] => rfl
  | n :: r => by simp [lInts, lCons, int_ev, lInts_ev r, avInts]
theorem list_ev {xs : List AV} {H : AH} (h : xs.length ≤ LIM) : oList xs H = some (.ref H.length, H ++ [.list xs]) := by simp only [oList, if_pos h]
theorem tup_ev {xs : List AV} {H : AH} (h : xs.length ≤ LIM) : oTup xs H = some (.ref H.length, H ++ [.tup xs]) := by simp only [oTup, if_pos h]
theorem app_ev {f g : AE} {σ : Sg} {H H₁ H₂ : AH} {n : Nat} {ys xs : List AV} {v : AV} (hf : f σ H = some (.ref n, H₁)) (h1 : H₁[n]? = some (.list ys)) (hg : g σ H₁ = some (v, H₂)) (h2 : H₂[n]? = some (.list xs)) (hl : xs.length ≤ LIM) :
    sApp f g σ H = some (.next, σ, H₂.set n (.list (xs ++ [v]))) := by simp [sApp, hf, isL, h1, hg, oApp, h2, hl]
theorem idx_ev {f g : AE} {σ : Sg} {H H₁ H₂ : AH} {n : Nat} {xs : List AV} {k : Int} {v : AV} (hf : f σ H = some (.ref n, H₁)) (hg : g σ H₁ = some (.int k, H₂)) (h2 : lget H₂ (.ref n) = some xs) (hv : at? xs k = some v) :
    c2 oIdx f g σ H = some (v, H₂) := by rw [c2_ev hf hg]; simp [oIdx, h2, hv]
theorem mod_ev {f g : AE} {σ : Sg} {H H₁ H₂ : AH} {a b : Int} (hf : f σ H = some (.int a, H₁)) (hg : g σ H₁ = some (.int b, H₂)) (hb : b ≠ 0) : c2 oMod f g σ H = some (.int (a.fmod b), H₂) := by rw [c2_ev hf hg]; simp [oMod, iOp, hb]
theorem div_ev {f g : AE} {σ : Sg} {H H₁ H₂ : AH} {a b : Int} (hf : f σ H = some (.int a, H₁)) (hg : g σ H₁ = some (.int b, H₂)) (hb : b ≠ 0) (hs : b.natAbs < 1073741824) : c2 oDiv f g σ H = some (.int (a.fdiv b), H₂) := by rw [c2_ev hf hg]; simp [oDiv, iOp, hb, hs]
theorem iadd_ev {f g : AE} {σ : Sg} {H H₁ H₂ : AH} {a b : Int} (hf : f σ H = some (.int a, H₁)) (hg : g σ H₁ = some (.int b, H₂)) : c2 oAdd f g σ H = some (.int (a + b), H₂) := by rw [c2_ev hf hg]; rfl

theorem fmod_idx {x : Int} {n : Nat} (h : 0 < n) : ∃ k : Nat, k < n ∧ x.fmod (n : Int) = k := by
  have h1 : (0 : Int) < n := by omega
  have h2 := Int.fmod_nonneg_of_pos x h1
  have h3 := Int.fmod_lt_of_pos x h1
  exact ⟨(x.fmod n).toNat, by omega, by omega⟩

theorem wOrder_step {σ : Sg} {H H₀ : AH} {t l n : Nat} {ts ls : List Int} {xv : Int} (ht : σ "told" = some (.ref t)) (hl : σ "left" = some (.ref l)) (hx : σ "x" = some (.int xv)) (hs : σ "size" = some (.int ((n + 1 : Nat) : Int)))
    (Ht : H[t]? = some (.list (avInts ts))) (Hl : H[l]? = some (.list (avInts ls))) (hne : t ≠ l) (hlen : ls.length = n + 1) (hn : n < 6) (htl : ts.length ≤ 6) (h0 : Pre H₀ H) (ht0 : H₀.length ≤ t) :
    ∃ σ' H' e l', wOrder σ H = some (.next, σ', H') ∧ e ∈ ls ∧ σ' "told" = some (.ref t) ∧ σ' "left" = some (.ref l') ∧ (∃ xv', σ' "x" = some (.int xv')) ∧
      H'[t]? = some (.list (avInts (ts ++ [e]))) ∧ H'[l']? = some (.list (avInts (ls.filter fun y => !decide (y = e)))) ∧ H.length ≤ l' ∧ (∀ (u : Nat) (o : AO), u ≠ t → H[u]? = some o → H'[u]? = some o) ∧ Pre H₀ H' := by
  obtain ⟨k, hk, ek⟩ := fmod_idx (x := xv) (n := n + 1) (by omega)
  have hkl : k < ls.length := by omega
  have e1 : c2 oIdx (eVar "left") (c2 oMod (eVar "x") (eVar "size")) σ H = some (.int ls[k], H) :=
    idx_ev (var_ev hl) (mod_ev (var_ev hx) (var_ev hs) (by omega)) (lget_list Hl) (by
      rw [ek]; exact at_nat (by rw [av_len]; show ls.length ≤ 1000; omega) (av_get (by simp [hkl])))
  have e2 := app_ev (f := eVar "told") (var_ev ht) Ht e1 Ht (by rw [av_len]; show ts.length ≤ 1000; omega)
  have Hl1 : (H.set t (.list (avInts ts ++ [.int ls[k]])))[l]? = some (.list (avInts ls)) := set_ne Hl hne
  have Ht1 : (H.set t (.list (avInts ts ++ [.int ls[k]])))[t]? = some (.list (avInts ts ++ [.int ls[k]])) := set_eq Ht
  have hit : iL (eVar "left") σ (H.set t (.list (avInts ts ++ [.int ls[k]]))) = some ((avInts ls, chkL (.ref l) (avInts ls)), H.set t (.list (avInts ts ++ [.int ls[k]]))) := by
    simp [iL, eVar, hl, lget_list Hl1]
  obtain ⟨l', H', e3, p3, hl', g3⟩ := comp_filter (t := asB (c2 oNe (eVar "y") (c2 oIdx (eVar "told") (c1 oNeg (eInt 1))))) (x := "y") (K := [".0", "y"]) (σ := σ) (p := fun y => !decide (y = ls[k])) hit
    (fun H' hp => chk_list (hp _ _ Hl1)) (by show ls.length ≤ 1000; omega) (fun y hy H' hp => by
      refine ⟨H', ?_, Pre.refl _⟩
      refine asB_ev ?_
      rw [c2_ev (var_ev (upd_eq _ _ _)) (idx_ev (var_ev (x := "told") (v := .ref t) (by rw [upd_ne (by decide)]; simpa [hid] using ht)) (c1_ev int_ev) (lget_list (hp _ _ Ht1)) (v := .int ls[k]) ?_)]
      · rfl
      · have h4 : (avInts ts ++ [AV.int ls[k]]).length = ts.length + 1 := by simp [avInts]
        have h5 : ¬ (0 : Int) ≤ -1 := by decide
        have h6 : -((ts.length + 1 : Nat) : Int) ≤ -1 := by omega
        have h7 : ((-1 : Int) + ((ts.length + 1 : Nat) : Int)).toNat = ts.length := by omega
        unfold at?
        rw [h4, if_pos (show ts.length + 1 ≤ LIM from by show _ ≤ 1000; omega), if_neg h5, if_pos h6, h7]
        simp [avInts])
  have htl' : t < (H.set t (.list (avInts ts ++ [.int ls[k]]))).length := by simpa using (List.getElem?_eq_some_iff.mp Ht).1
  refine ⟨upd (upd σ "left" (.ref l')) "x" (.int (xv.fdiv ((n + 1 : Nat) : Int))), H', ls[k], l', ?_, List.getElem_mem hkl, ?_, ?_, ⟨xv.fdiv ((n + 1 : Nat) : Int), ?_⟩, ?_, g3, ?_, ?_, ?_⟩
  rotate_left
  · rw [upd_ne (by decide), upd_ne (by decide)]; exact ht
  · rw [upd_ne (by decide)]; exact upd_eq _ _ _
  · exact upd_eq _ _ _
  · rw [p3 _ _ Ht1]; simp [avInts]
  · simpa using hl'
  · exact fun u o hu e => p3 _ _ (set_ne e (Ne.symm hu))
  · exact (Pre.set h0 ht0).trans p3
  · unfold wOrder
    rw [seq_next e2, seq_next (asg_ev e3), seq_next (asg_ev (div_ev (a := xv) (b := ((n + 1 : Nat) : Int)) (var_ev ?_) (var_ev ?_) ?_ ?_))]
    · rfl
    · rw [upd_ne (by decide)]; exact hx
    · rw [upd_ne (by decide)]; exact hs
    · omega
    · omega

theorem fn_ret {ps : List String} {f : AS} {vs : List AV} {H H' : AH} {σ' : Sg} {v : AV} (hl : vs.length = ps.length) (h : f (argσ ps vs fun _ => none) H = some (.ret v, σ', H')) : fnF ps f vs H = some (v, H') := by
  unfold fnF
  rw [if_pos hl, h]
theorem for_ev {it : AI} {asg : Asg} {body orelse : AS} {σ : Sg} {H H₁ : AH} {xs : List AV} {chk : AH → Bool} (h : it σ H = some ((xs, chk), H₁)) : sFor it asg body orelse σ H = aFor chk asg body orelse xs σ H₁ := by
  unfold sFor
  rw [h]; rfl

def desc : Nat → List Int
  | 0 => []
  | n + 1 => ((n + 1 : Nat) : Int) :: desc n

theorem filter_ne_perm {ls : List Int} {e : Int} (nd : ls.Nodup) (h : e ∈ ls) : (e :: ls.filter fun y => !decide (y = e)).Perm ls ∧ (ls.filter fun y => !decide (y = e)).Nodup := by
  refine ⟨(List.perm_ext_iff_of_nodup ?_ nd).mpr fun v => ?_, nd.filter _⟩
  · refine List.nodup_cons.mpr ⟨by simp, nd.filter _⟩
  · simp only [List.mem_cons, List.mem_filter, Bool.not_eq_true', decide_eq_false_iff_not]
    constructor
    · rintro (rfl | ⟨hv, _⟩)
      · exact h
      · exact hv
    · intro hv
      by_cases e' : v = e
      · exact .inl e'
      · exact .inr ⟨hv, e'⟩

def OrdInv (H : AH) (rest : List AV) (σ : Sg) (K : AH) : Prop :=
  ∃ t l ts ls, σ "told" = some (.ref t) ∧ σ "left" = some (.ref l) ∧ (∃ xv, σ "x" = some (.int xv)) ∧ K[t]? = some (.list (avInts ts)) ∧ K[l]? = some (.list (avInts ls)) ∧ t ≠ l ∧ H.length ≤ t ∧ t ≠ H.length + 2 ∧ l ≠ H.length + 2 ∧
      K[H.length + 2]? = some (.tup (avInts [6, 5, 4, 3, 2, 1])) ∧ Pre H K ∧ ls.Nodup ∧ (ts ++ ls).Perm L6 ∧ rest = avInts (desc ls.length) ∧ H.length + 2 < K.length

theorem ord_step (H : AH) : ∀ v r σ K, OrdInv H (v :: r) σ K → chkT (.ref (H.length + 2)) (avInts [6, 5, 4, 3, 2, 1]) K = true ∧ ∃ σ₁ σ' H', asgN "size" v σ K = some σ₁ ∧ wOrder σ₁ K = some (.next, σ', H') ∧ OrdInv H r σ' H' := by
  rintro v r σ K ⟨t, l, ts, ls, h1, h2, ⟨xv, h3⟩, h4, h5, h6, h7, h8, h9, h10, h11, h12, h13, h14, h15⟩
  refine ⟨by simp [chkT, tget, h10, eqL_refl], ?_⟩
  cases hls : ls.length with
  | zero => rw [hls] at h14; cases h14
  | succ n =>
    rw [hls] at h14
    simp only [desc, avInts, List.map_cons, List.cons.injEq] at h14
    obtain ⟨rfl, rfl⟩ := h14
    have hsum := h13.length_eq
    simp only [List.length_append, L6, List.length_cons, List.length_nil] at hsum
    obtain ⟨σ', H', e, l', g1, g2, g3, g4, g5, g6, g7, g8, g9, g10⟩ := wOrder_step (σ := upd σ "size" (.int ((n + 1 : Nat) : Int))) (H := K) (H₀ := H) (by rw [upd_ne (by decide)]; exact h1) (by rw [upd_ne (by decide)]; exact h2) (by rw [upd_ne (by decide)]; exact h3) (upd_eq _ _ _)
      h4 h5 h6 hls (by omega) (by omega) h11 h7
    obtain ⟨q1, q2⟩ := filter_ne_perm h12 g2
    have q3 := q1.length_eq
    simp only [List.length_cons] at q3
    have q4 := (List.getElem?_eq_some_iff.mp h4).1
    refine ⟨_, σ', H', rfl, g1, t, l', ts ++ [e], _, g3, g4, g5, g6, g7, by omega, h7, h8, by omega, g9 _ _ (Ne.symm h8) h10, g10, q2, ?_, ?_, ?_⟩
    · refine List.Perm.trans ?_ h13
      rw [List.append_assoc]
      exact List.Perm.append_left _ q1
    · have : (ls.filter fun y => !decide (y = e)).length = n := by omega
      rw [this]; rfl
    · have := (List.getElem?_eq_some_iff.mp (g9 _ _ (Ne.symm h8) h10)).1
      exact this

theorem ord_fin (H : AH) : ∀ σ K, OrdInv H [] σ K → chkT (.ref (H.length + 2)) (avInts [6, 5, 4, 3, 2, 1]) K = true := by
  rintro σ K ⟨t, l, ts, ls, h1, h2, h3, h4, h5, h6, h7, h8, h9, h10, h11⟩
  simp [chkT, tget, h10, eqL_refl]

theorem ord_ini (x : Int) (H : AH) : OrdInv H (avInts [6, 5, 4, 3, 2, 1]) (upd (upd (argσ ["x"] [.int x] fun _ => none) "left" (.ref H.length)) "told" (.ref (H.length + 1))) (H ++ [.list (avInts L6)] ++ [.list []] ++ [.tup (avInts [6, 5, 4, 3, 2, 1])]) := by
  refine ⟨H.length + 1, H.length, [], L6, upd_eq _ _ _, ?_, ⟨x, ?_⟩, ?_, ?_, by omega, by omega, by omega, by omega, ?_, ?_, by decide, List.Perm.refl _, rfl, ?_⟩
  · rw [upd_ne (by decide)]; exact upd_eq _ _ _
  · rw [upd_ne (by decide), upd_ne (by decide)]; simp [argσ, upd]
  · simp [avInts]
  · simp
  · simp
  · rw [List.append_assoc, List.append_assoc]; exact Pre.app _ _
  · simp

theorem order_spec (x : Int) (H : AH) : ∃ n H' ord, oOrder [.int x] H = some (.ref n, H') ∧ Pre H H' ∧ H'[n]? = some (.list (avInts ord)) ∧ ord.Perm L6 := by
  have s1 : cL oList (lInts [0, 1, 2, 3, 4, 5]) (argσ ["x"] [.int x] fun _ => none) H = some (.ref H.length, H ++ [.list (avInts L6)]) := by
    rw [cL_ev (lInts_ev _), list_ev (by decide)]; rfl
  have s2 : ∀ σ, cL oList lNil σ (H ++ [.list (avInts L6)]) = some (.ref (H.length + 1), H ++ [.list (avInts L6)] ++ [.list []]) := fun σ => by
    rw [cL_ev (rfl : lNil σ _ = some ([], _)), list_ev (by decide)]; simp
  obtain ⟨σ', H', P, e⟩ := aFor_ind (asg := asgN "size") (body := wOrder) (orelse := sNil) (OrdInv H) (ord_step H) (ord_fin H) _ _ _ (ord_ini x H)
  obtain ⟨t, l, ts, ls, h1, h2, h3, h4, h5, h6, h7, h8, h9, h10, h11, h12, h13, h14, h15⟩ := P
  have hls : ls = [] := by
    cases ls with
    | nil => rfl
    | cons a r => simp [desc, avInts] at h14
  subst hls
  refine ⟨t, H', ts, ?_, h11, h4, by simpa using h13⟩
  refine fn_ret rfl (σ' := σ') ?_
  unfold fOrder
  have hit : iT (cL oTup (lInts [6, 5, 4, 3, 2, 1])) (upd (upd (argσ ["x"] [.int x] fun _ => none) "left" (.ref H.length)) "told" (.ref (H.length + 1))) (H ++ [.list (avInts L6)] ++ [.list []]) = some ((avInts [6, 5, 4, 3, 2, 1], chkT (.ref (H.length + 2)) (avInts [6, 5, 4, 3, 2, 1])), H ++ [.list (avInts L6)] ++ [.list []] ++ [.tup (avInts [6, 5, 4, 3, 2, 1])]) := by
    unfold iT
    rw [cL_ev (lInts_ev _), tup_ev (by decide)]
    simp [tget]
  rw [seq_next (asg_ev s1), seq_next (asg_ev (s2 _)), seq_next (σ' := σ') (H' := H') ((for_ev hit).trans e)]
  simp [sSeq, ret_ev (var_ev h1)]

end Mine

namespace Mine
open PySem PyProof.Rows

theorem hLIM : LIM = 1000 := rfl

abbrev RowsAt (H : AH) (rs : List Nat) (rows : List (List Int)) : Prop := Paired (fun r row => H[r]? = some (.list (avInts row))) rs rows
theorem rows_mono {H H' : AH} {rs : List Nat} {rows : List (List Int)} (h : RowsAt H rs rows) (k : ∀ r ∈ rs, ∀ o, H[r]? = some o → H'[r]? = some o) : RowsAt H' rs rows :=
  pr_mono' h fun a b ha _ e => k a ha _ e
theorem rows_len {H : AH} {rs : List Nat} {rows : List (List Int)} (h : RowsAt H rs rows) : rs.length = rows.length := Paired.length h

abbrev refs (rs : List Nat) : List AV := rs.map AV.ref

theorem and2_t {f g : AB} {σ : Sg} {H H₁ H₂ : AH} {b : Bool} (h : f σ H = some (true, H₁)) (h2 : g σ H₁ = some (b, H₂)) : bAnd [f, g] σ H = some (b, H₂) := by
  cases b <;> simp [bAnd, h, h2]
theorem and2_f {f g : AB} {σ : Sg} {H H₁ : AH} (h : f σ H = some (false, H₁)) : bAnd [f, g] σ H = some (false, H₁) := by simp [bAnd, h]
theorem or2_f {f g : AB} {σ : Sg} {H H₁ H₂ : AH} {b : Bool} (h : f σ H = some (false, H₁)) (h2 : g σ H₁ = some (b, H₂)) : bOr [f, g] σ H = some (b, H₂) := by
  cases b <;> simp [bOr, h, h2]
theorem or2_t {f g : AB} {σ : Sg} {H H₁ : AH} (h : f σ H = some (true, H₁)) : bOr [f, g] σ H = some (true, H₁) := by simp [bOr, h]
theorem lt_ev {f g : AE} {σ : Sg} {H H₁ H₂ : AH} {a b : Int} (hf : f σ H = some (.int a, H₁)) (hg : g σ H₁ = some (.int b, H₂)) : asB (c2 oLt f g) σ H = some (decide (a < b), H₂) := asB_ev (by rw [c2_ev hf hg]; rfl)
theorem gt_ev {f g : AE} {σ : Sg} {H H₁ H₂ : AH} {a b : Int} (hf : f σ H = some (.int a, H₁)) (hg : g σ H₁ = some (.int b, H₂)) : asB (c2 oGt f g) σ H = some (decide (b < a), H₂) := asB_ev (by rw [c2_ev hf hg]; rfl)
theorem eq_ev {f g : AE} {σ : Sg} {H H₁ H₂ : AH} {a b : Int} (hf : f σ H = some (.int a, H₁)) (hg : g σ H₁ = some (.int b, H₂)) : asB (c2 oEq f g) σ H = some (decide (a = b), H₂) := asB_ev (by rw [c2_ev hf hg]; rfl)
theorem ne_ev {f g : AE} {σ : Sg} {H H₁ H₂ : AH} {a b : Int} (hf : f σ H = some (.int a, H₁)) (hg : g σ H₁ = some (.int b, H₂)) : asB (c2 oNe f g) σ H = some (!decide (a = b), H₂) := asB_ev (by rw [c2_ev hf hg]; rfl)
theorem len_ev {x : String} {σ : Sg} {H : AH} {n : Nat} {xs : List AV} (hx : σ x = some (.ref n)) (h : lget H (.ref n) = some xs) (hl : xs.length ≤ LIM) : eLen x σ H = some (.int xs.length, H) := by
  unfold eLen
  rw [cL_ev (l1_ev (var_ev hx))]
  simp only [oLen, h, if_pos hl]
theorem sum_ev {x : String} {σ : Sg} {H : AH} {n : Nat} {ns : List Int} (hx : σ x = some (.ref n)) (h : lget H (.ref n) = some (avInts ns)) : eSum x σ H = some (.int ns.sum, H) := by
  unfold eSum
  rw [cL_ev (l1_ev (var_ev hx))]
  simp [oSum, h, ints_av]
theorem eat_ev {x : String} {g : AE} {σ : Sg} {H H₁ : AH} {n : Nat} {xs : List AV} {k : Nat} {v : AV} (hx : σ x = some (.ref n)) (hg : g σ H = some (.int (k : Int), H₁)) (h : lget H₁ (.ref n) = some xs) (hl : xs.length ≤ LIM) (hv : xs[k]? = some v) : eAt x g σ H = some (v, H₁) :=
  idx_ev (var_ev hx) hg h (at_nat hl hv)
theorem plus_ev {x : String} {k a : Int} {σ : Sg} {H : AH} (hx : σ x = some (.int a)) : ePlus x k σ H = some (.int (a + k), H) := iadd_ev (var_ev hx) int_ev
theorem last_ev {x : String} {σ : Sg} {H : AH} {n : Nat} {xs : List AV} {v : AV} (hx : σ x = some (.ref n)) (h : lget H (.ref n) = some (xs ++ [v])) (hl : xs.length < LIM) : eAt x (c1 oNeg (eInt 1)) σ H = some (v, H) := by
  refine idx_ev (var_ev hx) (c1_ev int_ev) h ?_
  have h5 : ¬ (0 : Int) ≤ -1 := by decide
  have h6 : -((xs.length + 1 : Nat) : Int) ≤ -1 := by omega
  have h7 : ((-1 : Int) + ((xs.length + 1 : Nat) : Int)).toNat = xs.length := by omega
  unfold at?
  rw [List.length_append, List.length_singleton, if_pos (show xs.length + 1 ≤ LIM from hl), if_neg h5, if_pos h6, h7]
  simp

/-- the first loop: the order in pieces -/
def Rows1 (H : AH) (sc : Nat) (ord : List Int) (rest : List AV) (σ : Sg) (K : AH) : Prop :=
  ∃ o R r rs row rows i, σ "script" = some (.ref sc) ∧ σ "order" = some (.ref o) ∧ σ "rows" = some (.ref R) ∧ K[o]? = some (.list (avInts ord)) ∧ K[R]? = some (.list (refs (rs ++ [r]))) ∧ RowsAt K rs rows ∧ K[r]? = some (.list (avInts row)) ∧
    o ≠ R ∧ o ≠ r ∧ R ≠ r ∧ r ∉ rs ∧ R ∉ rs ∧ H.length ≤ R ∧ H.length ≤ r ∧ Pre H K ∧ rows.flatten ++ row = ord.take (i + 1) ∧ (∀ x ∈ rows, x ≠ []) ∧ row ≠ [] ∧ rows.length ≤ i ∧ rest = (List.range' i (5 - i)).map (fun i : Nat => AV.int i) ∧ i ≤ 5

theorem rows1_step {H : AH} {sc : Nat} {ns ord : List Int} (hs : H[sc]? = some (.ro (avInts ns))) (hn : ns.length ≤ 63) (ho6 : ord.length = 6) :
    ∀ v r σ K, Rows1 H sc ord (v :: r) σ K → (fun _ : AH => true) K = true ∧ ∃ σ₁ σ' H', asgN "k" v σ K = some σ₁ ∧ wRows1 σ₁ K = some (.next, σ', H') ∧ Rows1 H sc ord r σ' H' := by
  rintro v rest σ K ⟨o, R, r, rs, row, rows, i, s1, s2, s3, k1, k2, k3, k4, n1, n2, n3, n4, n5, b1, b2, pre, fl, ne, nr, rl, er, i5⟩
  refine ⟨rfl, ?_⟩
  have hi : i < 5 := by
    refine Nat.lt_of_not_le fun h => ?_
    have : i = 5 := by omega
    subst this
    simp at er
  have e5 : 5 - i = (5 - (i + 1)) + 1 := by omega
  rw [e5, List.range'_succ, List.map_cons] at er
  obtain ⟨rfl, rfl⟩ := List.cons.inj er
  have hv : i + 1 < ord.length := by omega
  have hrl := rows_len k3
  have hsK := pre _ _ hs
  have t1 : (upd σ "k" (.int (i : Int))) "script" = some (.ref sc) := by rw [upd_ne (by decide)]; exact s1
  have t2 : (upd σ "k" (.int (i : Int))) "order" = some (.ref o) := by rw [upd_ne (by decide)]; exact s2
  have t3 : (upd σ "k" (.int (i : Int))) "rows" = some (.ref R) := by rw [upd_ne (by decide)]; exact s3
  have t4 : (upd σ "k" (.int (i : Int))) "k" = some (.int (i : Int)) := upd_eq _ _ _
  have e1 : ∀ (σ' : Sg) (K' : AH), σ' "order" = some (.ref o) → σ' "k" = some (.int (i : Int)) → K'[o]? = some (.list (avInts ord)) → eAt "order" (ePlus "k" 1) σ' K' = some (.int ord[i + 1], K') := fun σ' K' h1 h2 h3 =>
    eat_ev (k := i + 1) h1 (plus_ev h2) (lget_list h3) (by rw [av_len]; show _ ≤ 1000; omega) (av_get (by simp [hv]))
  have tk : ord.take (i + 1 + 1) = ord.take (i + 1) ++ [ord[i + 1]] := by rw [List.take_add_one]; simp [hv]
  have test : ∃ b, bAnd [asB (c2 oLt (eVar "k") (eLen "script")), asB (c2 oEq (c2 oMod (eAt "script" (eVar "k")) (eInt 5)) (eInt 0))] (upd σ "k" (.int (i : Int))) K = some (b, K) := by
    have h1 := lt_ev (var_ev (H := K) t4) (len_ev t1 (lget_ro hsK) (by rw [av_len]; show _ ≤ 1000; omega))
    rw [av_len] at h1
    by_cases hk : i < ns.length
    · rw [decide_eq_true (by omega)] at h1
      exact ⟨_, and2_t h1 (eq_ev (mod_ev (eat_ev (k := i) t1 (var_ev t4) (lget_ro hsK) (by rw [av_len]; show _ ≤ 1000; omega) (av_get (v := ns[i]) (by simp [hk]))) int_ev (by decide)) int_ev)⟩
    · rw [decide_eq_false (by omega)] at h1
      exact ⟨_, and2_f h1⟩
  obtain ⟨b, hb⟩ := test
  have rK : r < K.length := (List.getElem?_eq_some_iff.mp k4).1
  have RK : R < K.length := (List.getElem?_eq_some_iff.mp k2).1
  cases b with
  | true =>
    have e2 : cL oList (lCons (eAt "order" (ePlus "k" 1)) lNil) (upd σ "k" (.int (i : Int))) K = some (.ref K.length, K ++ [.list (avInts [ord[i + 1]])]) := by
      rw [cL_ev (l1_ev (e1 _ _ t2 t4 k1)), list_ev (by show 1 ≤ 1000; omega)]; rfl
    have k2' := Pre.app K [.list (avInts [ord[i + 1]])] _ _ k2
    have e3 := app_ev (f := eVar "rows") (var_ev t3) k2 e2 k2' (by rw [hLIM]; simp; omega)
    refine ⟨_, upd σ "k" (.int (i : Int)), List.set (K ++ [AO.list (avInts [ord[i + 1]])]) R (AO.list (refs (rs ++ [r]) ++ [AV.ref K.length])), rfl, ?_, o, R, K.length, rs ++ [r], [ord[i + 1]], rows ++ [row], i + 1, t1, t2, t3, ?_, ?_, ?_, ?_, n1, ?_, ?_, ?_, ?_, b1, ?_, ?_, ?_, ?_, by simp, ?_, rfl, by omega⟩
    · exact (seq_next ((if_t hb).trans ((seq_next e3).trans rfl))).trans rfl
    · exact set_ne (Pre.app _ _ _ _ k1) (Ne.symm n1)
    · rw [set_eq k2']; simp
    · refine pr_app (rows_mono k3 fun x hx o' e => set_ne (Pre.app _ _ _ _ e) (fun q => n5 (q ▸ hx))) (.cons ?_ .nil)
      exact set_ne (Pre.app _ _ _ _ k4) n3
    · exact set_ne (get_new _ _ _) (by omega)
    · have := (List.getElem?_eq_some_iff.mp k1).1; omega
    · omega
    · intro hm
      have : ∀ x ∈ rs, x < K.length := fun x hx => by
        obtain ⟨j, hj, rfl⟩ := List.getElem_of_mem hx
        obtain ⟨y, hy, e⟩ := pr_get k3 (i := j) (x := rs[j]) (by simp [hj])
        exact (List.getElem?_eq_some_iff.mp e).1
      rcases List.mem_append.mp hm with hm | hm
      · exact absurd (this _ hm) (Nat.lt_irrefl _)
      · rw [List.mem_singleton.mp hm] at rK; exact Nat.lt_irrefl _ rK
    · intro hm
      rcases List.mem_append.mp hm with hm | hm
      · exact n5 hm
      · exact n3 (List.mem_singleton.mp hm)
    · exact pre.len
    · exact Pre.set (pre.trans (Pre.app _ _)) b1
    · rw [List.flatten_append, tk, ← fl]; simp
    · intro x hx
      rcases List.mem_append.mp hx with hx | hx
      · exact ne x hx
      · rw [List.mem_singleton.mp hx]; exact nr
    · simp; omega
  | false =>
    have e2 : eAt "rows" (c1 oNeg (eInt 1)) (upd σ "k" (.int (i : Int))) K = some (.ref r, K) := last_ev t3 (xs := refs rs) (by rw [lget_list k2]; simp [refs]) (by rw [hLIM]; simp [refs]; omega)
    have e3 := app_ev (f := eVar "last") (g := eAt "order" (ePlus "k" 1)) (σ := upd (upd σ "k" (.int (i : Int))) "last" (.ref r)) (var_ev (upd_eq _ _ _)) k4 (e1 _ _ (by rw [upd_ne (by decide)]; exact t2) (by rw [upd_ne (by decide)]; exact t4) k1) k4 (by
      have := congrArg List.length fl
      simp at this
      rw [av_len]; show _ ≤ 1000; omega)
    refine ⟨_, upd (upd σ "k" (.int (i : Int))) "last" (.ref r), List.set K r (AO.list (avInts row ++ [AV.int ord[i + 1]])), rfl, ?_, o, R, r, rs, row ++ [ord[i + 1]], rows, i + 1, ?_, ?_, ?_, ?_, ?_, ?_, ?_, n1, n2, n3, n4, n5, b1, b2, ?_, ?_, ne, by simp, by omega, rfl, by omega⟩
    · exact (seq_next ((if_f hb).trans ((seq_next (asg_ev e2)).trans ((seq_next e3).trans rfl)))).trans rfl
    · rw [upd_ne (by decide)]; exact t1
    · rw [upd_ne (by decide)]; exact t2
    · rw [upd_ne (by decide)]; exact t3
    · exact set_ne k1 (Ne.symm n2)
    · exact set_ne k2 (Ne.symm n3)
    · exact rows_mono k3 fun x hx o' e => set_ne e (fun q => n4 (q ▸ hx))
    · rw [set_eq k4]; simp [avInts]
    · exact Pre.set pre b2
    · rw [tk, ← fl]; simp

/-- the second loop -/
def Rows2 (m : Nat) (H : AH) (sc : Nat) (ord xs : List Int) (sl : Nat) (rest : List AV) (σ : Sg) (K : AH) : Prop :=
  ∃ o R rs rows ys, σ "script" = some (.ref sc) ∧ σ "order" = some (.ref o) ∧ σ "rows" = some (.ref R) ∧ K[o]? = some (.list (avInts ord)) ∧ K[R]? = some (.list (refs rs)) ∧ RowsAt K rs rows ∧
    o ≠ R ∧ R ∉ rs ∧ H.length ≤ R ∧ R ≠ sl ∧ Pre H K ∧ OKRows rows ∧ rest = avInts ys ∧ rows.length + 2 * ys.length ≤ m ∧ K[sl]? = some (.list (avInts xs))

theorem ok_app {rows : List (List Int)} {a b : Int} (ok : OKRows rows) (ha : a ∈ L6) (hb : b ∈ L6) (hab : a ≠ b) : OKRows (rows ++ [[a, b]]) := by
  refine ⟨fun r hr => ?_, fun r hr => ?_, fun r hr => ?_, fun v hv => ?_⟩
  · rcases List.mem_append.mp hr with hr | hr
    · exact ok.ne r hr
    · rw [List.mem_singleton.mp hr]; simp
  · rcases List.mem_append.mp hr with hr | hr
    · exact ok.nd r hr
    · rw [List.mem_singleton.mp hr]; simp [hab]
  · rcases List.mem_append.mp hr with hr | hr
    · exact ok.mem r hr
    · rw [List.mem_singleton.mp hr]
      intro v hv
      simp at hv
      rcases hv with rfl | rfl
      · exact ha
      · exact hb
  · obtain ⟨r, hr, h⟩ := ok.cov v hv
    exact ⟨r, List.mem_append_left _ hr, h⟩

/-- one row more -/
theorem row_app {m : Nat} {H : AH} {sc : Nat} {ord xs ys : List Int} {sl : Nat} {σ : Sg} {K : AH} {f g : String} {a b : Nat} (P : Rows2 m H sc ord xs sl (avInts ys) σ K) (hf : σ f = some (.int (a : Int))) (hg : σ g = some (.int (b : Int))) (ha : a < 6) (hb : b < 6) (hab : a ≠ b)
    (hp : ord.Perm L6) (hm : m ≤ 20) : ∃ K', sApp (eVar "rows") (cL oList (lCons (eAt "order" (eVar f)) (lCons (eAt "order" (eVar g)) lNil))) σ K = some (.next, σ, K') ∧ Rows2 (m + 1) H sc ord xs sl (avInts ys) σ K' := by
  obtain ⟨o, R, rs, rows, zs, s1, s2, s3, k1, k2, k3, n1, n2, n3, n4, pre, ok, er, rl, k4⟩ := P
  have hzs : zs = ys := by
    have : intsOf (avInts ys) = intsOf (avInts zs) := by rw [er]
    rw [ints_av, ints_av] at this
    exact (Option.some.inj this).symm
  subst hzs
  have hl := hp.length_eq
  simp [L6] at hl
  have hrl := rows_len k3
  have e1 : ∀ (x : String) (n : Nat) (hn : n < 6), σ x = some (.int (n : Int)) → eAt "order" (eVar x) σ K = some (.int (ord[n]'(by omega)), K) := fun x n hn hx =>
    eat_ev (k := n) s2 (var_ev hx) (lget_list k1) (by rw [av_len]; show _ ≤ 1000; omega) (av_get (by simp [hl, hn]))
  have e2 : cL oList (lCons (eAt "order" (eVar f)) (lCons (eAt "order" (eVar g)) lNil)) σ K = some (.ref K.length, K ++ [.list (avInts [ord[a]'(by omega), ord[b]'(by omega)])]) := by
    rw [cL_ev (l2_ev (e1 f a ha hf) (e1 g b hb hg)), list_ev (by show 2 ≤ 1000; omega)]; rfl
  have k2' := Pre.app K [.list (avInts [ord[a]'(by omega), ord[b]'(by omega)])] _ _ k2
  have e3 := app_ev (f := eVar "rows") (var_ev s3) k2 e2 k2' (by rw [hLIM]; simp [refs]; omega)
  have RK : R < K.length := (List.getElem?_eq_some_iff.mp k2).1
  have nd : ord.Nodup := hp.nodup_iff.mpr (by decide)
  refine ⟨_, e3, o, R, rs ++ [K.length], rows ++ [[ord[a]'(by omega), ord[b]'(by omega)]], zs, s1, s2, s3, set_ne (Pre.app _ _ _ _ k1) (Ne.symm n1), ?_, ?_, n1, ?_, n3, n4, Pre.set (pre.trans (Pre.app _ _)) n3, ?_, rfl, ?_, set_ne (Pre.app _ _ _ _ k4) n4⟩
  · rw [set_eq k2']; simp
  · refine pr_app (rows_mono k3 fun x hx o' e => set_ne (Pre.app _ _ _ _ e) (by rintro rfl; exact n2 hx)) (.cons ?_ .nil)
    exact set_ne (get_new _ _ _) (by omega)
  · intro hm
    rcases List.mem_append.mp hm with hm | hm
    · exact n2 hm
    · have := List.mem_singleton.mp hm; omega
  · refine ok_app ok (hp.mem_iff.mp (List.getElem_mem _)) (hp.mem_iff.mp (List.getElem_mem _)) fun e => hab ?_
    exact (List.getElem_inj nd).mp e
  · simp; omega
end Mine

namespace Mine
open PySem PyProof.Rows

theorem Rows2.le {m m' : Nat} {H : AH} {sc : Nat} {ord xs : List Int} {sl : Nat} {rest : List AV} {σ : Sg} {K : AH} (P : Rows2 m H sc ord xs sl rest σ K) (h : m ≤ m') : Rows2 m' H sc ord xs sl rest σ K := by
  obtain ⟨o, R, rs, rows, zs, s1, s2, s3, k1, k2, k3, n1, n2, n3, n4, pre, ok, er, rl, k4⟩ := P
  exact ⟨o, R, rs, rows, zs, s1, s2, s3, k1, k2, k3, n1, n2, n3, n4, pre, ok, er, by omega, k4⟩

/-- an if whose one branch adds a row -/
theorem if_row {m : Nat} {H : AH} {sc : Nat} {ord xs ys : List Int} {sl : Nat} {σ : Sg} {K : AH} {f g : String} {a b : Nat} {t : AB} {z : Bool} (P : Rows2 m H sc ord xs sl (avInts ys) σ K) (ht : t σ K = some (z, K)) (hz : z = true → a ≠ b)
    (hf : σ f = some (.int (a : Int))) (hg : σ g = some (.int (b : Int))) (ha : a < 6) (hb : b < 6) (hp : ord.Perm L6) (hm : m ≤ 20) :
    ∃ K', sIf t (sSeq (sApp (eVar "rows") (cL oList (lCons (eAt "order" (eVar f)) (lCons (eAt "order" (eVar g)) lNil)))) sNil) sNil σ K = some (.next, σ, K') ∧ Rows2 (m + 1) H sc ord xs sl (avInts ys) σ K' := by
  cases z with
  | true =>
    obtain ⟨K', e, P'⟩ := row_app P hf hg ha hb (hz rfl) hp hm
    exact ⟨K', (if_t ht).trans ((seq_next e).trans rfl), P'⟩
  | false => exact ⟨K, (if_f ht).trans rfl, P.le (by omega)⟩

theorem rows2_step {H : AH} {sc : Nat} {ord xs : List Int} {sl : Nat} (hp : ord.Perm L6) :
    ∀ v r σ K, Rows2 20 H sc ord xs sl (v :: r) σ K → chkL (.ref sl) (avInts xs) K = true ∧ ∃ σ₁ σ' H', asgN "x" v σ K = some σ₁ ∧ wRows2 σ₁ K = some (.next, σ', H') ∧ Rows2 20 H sc ord xs sl r σ' H' := by
  rintro v r σ K ⟨o, R, rs, rows, zs, s1, s2, s3, k1, k2, k3, n1, n2, n3, n4, pre, ok, er, rl, k4⟩
  refine ⟨chk_list k4, ?_⟩
  cases zs with
  | nil => cases er
  | cons x zs =>
    obtain ⟨rfl, rfl⟩ := List.cons.inj er
    obtain ⟨i, hi, ei⟩ := fmod_idx (x := x) (n := 6) (by omega)
    obtain ⟨j, hj, ej⟩ := fmod_idx (x := x.fdiv 6) (n := 6) (by omega)
    have P1 : Rows2 18 H sc ord xs sl (avInts zs) (upd (upd (upd σ "x" (.int x)) "i" (.int (i : Int))) "j" (.int (j : Int))) K :=
      ⟨o, R, rs, rows, zs, by rw [upd_ne (by decide), upd_ne (by decide), upd_ne (by decide)]; exact s1, by rw [upd_ne (by decide), upd_ne (by decide), upd_ne (by decide)]; exact s2,
        by rw [upd_ne (by decide), upd_ne (by decide), upd_ne (by decide)]; exact s3, k1, k2, k3, n1, n2, n3, n4, pre, ok, rfl, by simp at rl; omega, k4⟩
    have v1 : (upd (upd (upd σ "x" (.int x)) "i" (.int (i : Int))) "j" (.int (j : Int))) "i" = some (.int (i : Int)) := by rw [upd_ne (by decide)]; exact upd_eq _ _ _
    have v2 : (upd (upd (upd σ "x" (.int x)) "i" (.int (i : Int))) "j" (.int (j : Int))) "j" = some (.int (j : Int)) := upd_eq _ _ _
    have v3 : (upd (upd (upd σ "x" (.int x)) "i" (.int (i : Int))) "j" (.int (j : Int))) "x" = some (.int x) := by rw [upd_ne (by decide), upd_ne (by decide)]; exact upd_eq _ _ _
    have c36 : ∀ K, c2 oMod (c2 oDiv (eVar "x") (eInt 36)) (eInt 6) (upd (upd (upd σ "x" (.int x)) "i" (.int (i : Int))) "j" (.int (j : Int))) K = some (.int ((x.fdiv 36).fmod 6), K) := fun K =>
      mod_ev (div_ev (var_ev v3) int_ev (by decide) (by decide)) int_ev (by decide)
    have T1 : ∃ z, bOr [asB (c2 oLt (eVar "i") (eVar "j")), bAnd [asB (c2 oGt (eVar "i") (eVar "j")), asB (c2 oEq (c2 oMod (c2 oDiv (eVar "x") (eInt 36)) (eInt 6)) (eInt 0))]] (upd (upd (upd σ "x" (.int x)) "i" (.int (i : Int))) "j" (.int (j : Int))) K = some (z, K) ∧ (z = true → i ≠ j) := by
      have h1 := lt_ev (var_ev (H := K) v1) (var_ev v2)
      have h2 := gt_ev (var_ev (H := K) v1) (var_ev v2)
      by_cases hij : i < j
      · rw [decide_eq_true (by omega)] at h1
        exact ⟨true, or2_t h1, fun _ => by omega⟩
      · rw [decide_eq_false (by omega)] at h1
        by_cases hji : j < i
        · rw [decide_eq_true (by omega)] at h2
          exact ⟨_, or2_f h1 (and2_t h2 (eq_ev (c36 K) int_ev)), fun _ => by omega⟩
        · rw [decide_eq_false (by omega)] at h2
          exact ⟨false, or2_f h1 (and2_f h2), fun h => by cases h⟩
    obtain ⟨z1, t1, q1⟩ := T1
    obtain ⟨K1, e1, P2⟩ := if_row P1 t1 q1 v1 v2 hi hj hp (by omega)
    have T2 : ∃ z, bAnd [asB (c2 oGt (eVar "i") (eVar "j")), asB (c2 oNe (c2 oMod (c2 oDiv (eVar "x") (eInt 36)) (eInt 6)) (eInt 0))] (upd (upd (upd σ "x" (.int x)) "i" (.int (i : Int))) "j" (.int (j : Int))) K1 = some (z, K1) ∧ (z = true → j ≠ i) := by
      have h2 := gt_ev (var_ev (H := K1) v1) (var_ev v2)
      by_cases hji : j < i
      · rw [decide_eq_true (by omega)] at h2
        exact ⟨_, and2_t h2 (ne_ev (c36 K1) int_ev), fun _ => by omega⟩
      · rw [decide_eq_false (by omega)] at h2
        exact ⟨false, and2_f h2, fun h => by cases h⟩
    obtain ⟨z2, t2, q2⟩ := T2
    obtain ⟨K2, e2, P3⟩ := if_row P2 t2 q2 v2 v1 hj hi hp (by omega)
    have a1 : c2 oMod (eVar "x") (eInt 6) (upd σ "x" (.int x)) K = some (.int (i : Int), K) := by rw [mod_ev (var_ev (upd_eq _ _ _)) int_ev (by decide)]; exact congrArg (fun q => some (AV.int q, K)) ei
    have a2 : c2 oMod (c2 oDiv (eVar "x") (eInt 6)) (eInt 6) (upd (upd σ "x" (.int x)) "i" (.int (i : Int))) K = some (.int (j : Int), K) := by
      rw [mod_ev (div_ev (var_ev (by rw [upd_ne (by decide)]; exact upd_eq _ _ _)) int_ev (by decide) (by decide)) int_ev (by decide)]; exact congrArg (fun q => some (AV.int q, K)) ej
    refine ⟨_, _, K2, rfl, ?_, P3.le (by omega)⟩
    unfold wRows2
    exact (seq_next (asg_ev a1)).trans ((seq_next (asg_ev a2)).trans ((seq_next e1).trans ((seq_next e2).trans rfl)))

theorem slice_ev {x : String} {f g : AE} {σ : Sg} {H : AH} {n : Nat} {xs : List AV} {l u : AV} {lo hi : Option Nat} (hx : σ x = some (.ref n)) (hf : f σ H = some (l, H)) (hg : g σ H = some (u, H)) (h : lget H (.ref n) = some xs) (hl : partOf l = some lo) (hu : partOf u = some hi)
    (hs : xs.length ≤ LIM) : c3 oSlice (eVar x) f g σ H = some (.ref H.length, H ++ [.list (cut xs lo hi)]) := by
  simp [c3, eVar, hx, hf, hg, oSlice, h, hl, hu, hs]
theorem none_ev {σ : Sg} {H : AH} : eNone σ H = some (.none, H) := rfl
theorem ladd_ev {f g : AE} {σ : Sg} {H H₁ H₂ : AH} {a b : Nat} {xs ys : List AV} (hf : f σ H = some (.ref a, H₁)) (hg : g σ H₁ = some (.ref b, H₂)) (h1 : H₂[a]? = some (.list xs)) (h2 : H₂[b]? = some (.list ys)) (hl : xs.length + ys.length ≤ LIM) :
    c2 oAdd f g σ H = some (.ref H₂.length, H₂ ++ [.list (xs ++ ys)]) := by
  rw [c2_ev hf hg]; simp [oAdd, mget, h1, h2, hl]

theorem rows_spec {ns : List Int} {H : AH} {sc : Nat} (hs : H[sc]? = some (.ro (avInts ns))) (hn : ns.length ≤ 63) :
    ∃ n H' rs rows, oRows [.ref sc] H = some (.ref n, H') ∧ Pre H H' ∧ H'[n]? = some (.list (refs rs)) ∧ RowsAt H' rs rows ∧ OKRows rows ∧ rows.length ≤ 20 := by
  have s0 : (argσ ["script"] [AV.ref sc] fun _ => none) "script" = some (.ref sc) := by simp [argσ, upd]
  have nlim : (avInts ns).length ≤ LIM := by rw [av_len, hLIM]; omega
  obtain ⟨o, H₁, ord, e1, p1, ho, hp⟩ := order_spec ns.sum H
  have e1' : cL oOrder (lCons (eSum "script") lNil) (argσ ["script"] [AV.ref sc] fun _ => none) H = some (.ref o, H₁) := by
    rw [cL_ev (l1_ev (sum_ev s0 (lget_ro hs)))]; exact e1
  have h6 : ord.length = 6 := hp.length_eq
  have ho1 := (List.getElem?_eq_some_iff.mp ho).1
  -- rows = [[order[0]]]
  have e2 : cL oList (lCons (eAt "order" (eInt 0)) lNil) (upd (argσ ["script"] [AV.ref sc] fun _ => none) "order" (.ref o)) H₁ = some (.ref H₁.length, H₁ ++ [.list (avInts [ord[0]])]) := by
    have e0 : eAt "order" (eInt 0) (upd (argσ ["script"] [AV.ref sc] fun _ => none) "order" (.ref o)) H₁ = some (.int ord[0], H₁) :=
      idx_ev (var_ev (upd_eq _ _ _)) int_ev (lget_list ho) (at_nat (k := 0) (by rw [av_len, hLIM]; omega) (av_get (by simp [h6])))
    rw [cL_ev (l1_ev e0), list_ev (by show 1 ≤ 1000; omega)]; rfl
  have e3 : cL oList (lCons (cL oList (lCons (eAt "order" (eInt 0)) lNil)) lNil) (upd (argσ ["script"] [AV.ref sc] fun _ => none) "order" (.ref o)) H₁ = some (.ref (H₁.length + 1), H₁ ++ [.list (avInts [ord[0]])] ++ [.list (refs [H₁.length])]) := by
    rw [cL_ev (l1_ev e2), list_ev (by show 1 ≤ 1000; omega)]; simp
  -- the first loop
  have P0 : Rows1 H sc ord (rangeV 5) (upd (upd (argσ ["script"] [AV.ref sc] fun _ => none) "order" (.ref o)) "rows" (.ref (H₁.length + 1))) (H₁ ++ [.list (avInts [ord[0]])] ++ [.list (refs [H₁.length])]) := by
    refine ⟨o, H₁.length + 1, H₁.length, [], [ord[0]], [], 0, ?_, ?_, upd_eq _ _ _, ?_, ?_, .nil, ?_, ?_, ?_, ?_, by simp, by simp, ?_, p1.len, ?_, ?_, by simp, by simp, by simp, ?_, by omega⟩
    · rw [upd_ne (by decide), upd_ne (by decide)]; exact s0
    · rw [upd_ne (by decide)]; exact upd_eq _ _ _
    · exact Pre.app _ _ _ _ (Pre.app _ _ _ _ ho)
    · simp
    · exact Pre.app _ _ _ _ (get_new _ _ _)
    · omega
    · omega
    · omega
    · have := p1.len; omega
    · exact p1.trans ((Pre.app _ _).trans (Pre.app _ _))
    · match ord, h6 with
      | a :: r, _ => simp
    · rw [rangeV, List.range_eq_range']
  obtain ⟨σ₁, K₁, P1, f1⟩ := aFor_ind (orelse := sNil) _ (rows1_step hs hn h6) (fun _ _ _ => rfl) _ _ _ P0
  obtain ⟨o', R, r, rs, row, rows, i, s1, s2, s3, k1, k2, k3, k4, n1, n2, n3, n4, n5, b1, b2, pre, fl, ne, nr, rl, er, i5⟩ := P1
  have hi : i = 5 := by
    refine Nat.le_antisymm i5 (Nat.le_of_not_lt fun h => ?_)
    have e5 : 5 - i = (5 - (i + 1)) + 1 := by omega
    rw [e5, List.range'_succ, List.map_cons] at er
    cases er
  subst hi
  have fl' : rows.flatten ++ row = ord := by rw [fl]; exact List.take_of_length_le (by omega)
  have ok : OKRows (rows ++ [row]) := by
    have hmem : ∀ x ∈ rows ++ [row], ∀ v ∈ x, v ∈ ord := fun x hx v hv => by
      rw [← fl']
      rcases List.mem_append.mp hx with hx | hx
      · exact List.mem_append_left _ (List.mem_flatten.mpr ⟨x, hx, hv⟩)
      · rw [List.mem_singleton.mp hx] at hv; exact List.mem_append_right _ hv
    have nd : ord.Nodup := hp.nodup_iff.mpr (by decide)
    have hfl : (rows ++ [row]).flatten = ord := by rw [List.flatten_append]; simpa using fl'
    refine ⟨fun x hx => ?_, fun x hx => ?_, fun x hx v hv => hp.mem_iff.mp (hmem x hx v hv), fun v hv => ?_⟩
    · rcases List.mem_append.mp hx with hx | hx
      · exact ne x hx
      · rw [List.mem_singleton.mp hx]; exact nr
    · obtain ⟨p, q, e⟩ := List.append_of_mem hx
      rw [← hfl, e] at nd
      simp only [List.flatten_append, List.flatten_cons] at nd
      exact (List.nodup_append.mp (List.nodup_append.mp nd).2.1).1
    · have : v ∈ (rows ++ [row]).flatten := by rw [hfl]; exact hp.mem_iff.mpr hv
      obtain ⟨x, hx, hv'⟩ := List.mem_flatten.mp this
      exact ⟨x, hx, hv'⟩
  -- the second loop
  have hsK := pre _ _ hs
  have e4 : c3 oSlice (eVar "script") (eInt 5) (eInt 9) σ₁ K₁ = some (.ref K₁.length, K₁ ++ [.list (cut (avInts ns) (some 5) (some 9))]) :=
    slice_ev s1 int_ev int_ev (lget_ro hsK) rfl rfl nlim
  have ecut : cut (avInts ns) (some 5) (some 9) = avInts ((ns.take 9).drop 5) := by simp [cut, avInts, List.map_take, List.map_drop]
  rw [ecut] at e4
  have hit : iL (c3 oSlice (eVar "script") (eInt 5) (eInt 9)) σ₁ K₁ = some ((avInts ((ns.take 9).drop 5), chkL (.ref K₁.length) (avInts ((ns.take 9).drop 5))), K₁ ++ [.list (avInts ((ns.take 9).drop 5))]) := by
    unfold iL
    rw [e4]
    simp [lget]
  have rK : r < K₁.length := (List.getElem?_eq_some_iff.mp k4).1
  have RK : R < K₁.length := (List.getElem?_eq_some_iff.mp k2).1
  have P2 : Rows2 20 H sc ord ((ns.take 9).drop 5) K₁.length (avInts ((ns.take 9).drop 5)) σ₁ (K₁ ++ [.list (avInts ((ns.take 9).drop 5))]) := by
    refine ⟨o', R, rs ++ [r], rows ++ [row], _, s1, s2, s3, Pre.app _ _ _ _ k1, Pre.app _ _ _ _ k2, ?_, n1, ?_, b1, by omega, pre.trans (Pre.app _ _), ok, rfl, ?_, get_new _ _ _⟩
    · exact pr_app (rows_mono k3 fun x hx o' e => Pre.app _ _ _ _ e) (.cons (Pre.app _ _ _ _ k4) .nil)
    · intro hm
      rcases List.mem_append.mp hm with hm | hm
      · exact n5 hm
      · exact n3 (List.mem_singleton.mp hm)
    · simp; omega
  obtain ⟨σ₂, K₂, P3, f2⟩ := aFor_ind (orelse := sNil) _ (rows2_step hp) (fun _ _ P => by
    obtain ⟨o, R, rs, rows, zs, s1, s2, s3, k1, k2, k3, n1, n2, n3, n4, pre, ok, er, rl, k4⟩ := P
    exact chk_list k4) _ _ _ P2
  obtain ⟨o2, R2, rs2, rows2, zs, s1', s2', s3', k1', k2', k3', n1', n2', n3', n4', pre', ok', er', rl', k4'⟩ := P3
  -- the turn
  have hrl := rows_len k3'
  have hne : 0 < rows2.length := by
    obtain ⟨x, hx, _⟩ := ok'.cov 0 (by decide)
    exact List.length_pos_of_mem hx
  obtain ⟨t, ht, et⟩ := fmod_idx (x := ns.sum) hne
  have hr20 : (refs rs2).length ≤ LIM := by rw [hLIM]; simp [refs]; omega
  have e5 : c2 oMod (eSum "script") (eLen "rows") σ₂ K₂ = some (.int (t : Int), K₂) := by
    have hq : (refs rs2).length = rows2.length := by simp [refs, hrl]
    rw [mod_ev (sum_ev s1' (lget_ro (pre' _ _ hs))) (len_ev s3' (lget_list k2') hr20) (by omega), hq, et]
  have w1 : (upd σ₂ "turn" (.int (t : Int))) "rows" = some (.ref R2) := by rw [upd_ne (by decide)]; exact s3'
  have w2 : (upd σ₂ "turn" (.int (t : Int))) "turn" = some (.int (t : Int)) := upd_eq _ _ _
  have pt : partOf (.int (t : Int)) = some (some t) := by simp [partOf]
  have e6 : c3 oSlice (eVar "rows") (eVar "turn") eNone (upd σ₂ "turn" (.int (t : Int))) K₂ = some (.ref K₂.length, K₂ ++ [.list (cut (refs rs2) (some t) none)]) :=
    slice_ev w1 (var_ev w2) none_ev (lget_list k2') pt rfl hr20
  have e7 : c3 oSlice (eVar "rows") eNone (eVar "turn") (upd σ₂ "turn" (.int (t : Int))) (K₂ ++ [.list (cut (refs rs2) (some t) none)]) = some (.ref (K₂.length + 1), K₂ ++ [.list (cut (refs rs2) (some t) none)] ++ [.list (cut (refs rs2) none (some t))]) := by
    rw [slice_ev w1 none_ev (var_ev w2) (lget_list (Pre.app _ _ _ _ k2')) rfl pt hr20]; simp
  have e8 := ladd_ev e6 e7 (xs := cut (refs rs2) (some t) none) (ys := cut (refs rs2) none (some t)) (Pre.app _ _ _ _ (get_new _ _ _)) (by simp) (by
    have c1 : (cut (refs rs2) (some t) none).length = rs2.length - t := by simp [cut, refs]
    have c2 : (cut (refs rs2) none (some t)).length ≤ t := by simp [cut, refs]; omega
    rw [hLIM, c1]; omega)
  have ecut2 : cut (refs rs2) (some t) none ++ cut (refs rs2) none (some t) = refs (rs2.drop t ++ rs2.take t) := by simp [cut, refs, List.map_drop, List.map_take]
  rw [ecut2] at e8
  obtain ⟨n3, K3, e9, g3, p3⟩ : ∃ n3 K3, c2 oAdd (c3 oSlice (eVar "rows") (eVar "turn") eNone) (c3 oSlice (eVar "rows") eNone (eVar "turn")) (upd σ₂ "turn" (AV.int (t : Int))) K₂ = some (AV.ref n3, K3) ∧ K3[n3]? = some (.list (refs (rs2.drop t ++ rs2.take t))) ∧ Pre K₂ K3 :=
    ⟨_, _, e8, get_new _ _ _, (Pre.app _ _).trans ((Pre.app _ _).trans (Pre.app _ _))⟩
  have hit1 : iR (eInt 5) (upd (upd (argσ ["script"] [AV.ref sc] fun _ => none) "order" (.ref o)) "rows" (.ref (H₁.length + 1))) (H₁ ++ [.list (avInts [ord[0]])] ++ [.list (refs [H₁.length])]) = some ((rangeV 5, fun _ => true), H₁ ++ [.list (avInts [ord[0]])] ++ [.list (refs [H₁.length])]) := rfl
  refine ⟨n3, K3, rs2.drop t ++ rs2.take t, rows2.drop t ++ rows2.take t, ?_, pre'.trans p3, g3, ?_, ?_, ?_⟩
  · refine fn_ret rfl (σ' := upd σ₂ "turn" (.int (t : Int))) ?_
    unfold fRows
    refine (seq_next (asg_ev e1')).trans ((seq_next (asg_ev e3)).trans ((seq_next ((for_ev hit1).trans f1)).trans ((seq_next ((for_ev hit).trans f2)).trans ((seq_next (asg_ev e5)).trans ?_))))
    simp [sSeq, ret_ev e9]
  · exact rows_mono (pr_app (pr_drop k3' t) (pr_take k3' t)) fun x hx o e => p3 _ _ e
  · have hm : ∀ x, x ∈ rows2.drop t ++ rows2.take t ↔ x ∈ rows2 := fun x => by
      rw [List.mem_append, Or.comm, ← List.mem_append, List.take_append_drop]
    exact ⟨fun x hx => ok'.ne x ((hm x).mp hx), fun x hx => ok'.nd x ((hm x).mp hx), fun x hx => ok'.mem x ((hm x).mp hx), fun v hv => let ⟨x, hx, h⟩ := ok'.cov v hv; ⟨x, (hm x).mpr hx, h⟩⟩
  · simp; omega
end Mine

namespace Mine
open PySem PyProof.Rows

theorem len6 {l : List Int} (nd : l.Nodup) (h : ∀ v ∈ l, v ∈ L6) : l.length ≤ 6 := by
  have hp : l.Perm (L6.filter fun x => decide (x ∈ l)) := (List.perm_ext_iff_of_nodup nd ((by decide : L6.Nodup).filter _)).mpr fun v => by
    simp only [List.mem_filter, decide_eq_true_eq]
    exact ⟨fun hv => ⟨h v hv, hv⟩, fun hv => hv.2⟩
  rw [hp.length_eq]
  exact List.length_filter_le _ _

theorem cLoop_map {chk : AH → Bool} {f : AE} {σ : Sg} {x : String} {g : List Int → List Int} {H₀ : AH} (hchk : ∀ H, Pre H₀ H → chk H = true)
    (hf : ∀ H r row, Pre H₀ H → H[r]? = some (.list (avInts row)) → row.length ≤ 6 → f (upd σ x (.ref r)) H = some (.ref H.length, H ++ [.list (avInts (g row))])) :
    ∀ (rs : List Nat) (rows : List (List Int)) (H : AH), RowsAt H₀ rs rows → (∀ row ∈ rows, row.length ≤ 6) → Pre H₀ H →
      ∃ H' rs', cLoop chk (asgN x) (cEmit tTrue f) σ (refs rs) H = some (refs rs', H') ∧ Pre H H' ∧ RowsAt H' rs' (rows.map g) ∧ rs'.Nodup ∧ (∀ r ∈ rs', H.length ≤ r ∧ r < H'.length)
  | [], _, H, .nil, _, p => ⟨H, [], by simp [cLoop, hchk H p], Pre.refl _, .nil, List.nodup_nil, by simp⟩
  | r :: rs, row :: rows, H, .cons e t, hl, p => by
    have e1 := hf H r row p (p _ _ e) (hl row (by simp))
    obtain ⟨H', rs', e2, p2, R2, n2, b2⟩ := cLoop_map hchk hf rs rows (H ++ [.list (avInts (g row))]) t (fun x hx => hl x (.tail _ hx)) (p.trans (Pre.app _ _))
    have hH := p2.len
    simp only [List.length_append, List.length_singleton] at hH b2
    refine ⟨H', H.length :: rs', ?_, (Pre.app _ _).trans p2, .cons (p2 _ _ (get_new _ _ _)) R2, List.nodup_cons.mpr ⟨fun hm => ?_, n2⟩, fun z hz => ?_⟩
    · simp only [refs] at e2
      simp only [refs, List.map_cons, cLoop, hchk H p, if_true, asgN, Option.bind_some, cEmit, tTrue, e1, Option.map_some]
      rw [e2]; simp
    · have := (b2 _ hm).1; omega
    · rcases List.mem_cons.mp hz with rfl | hz
      · exact ⟨Nat.le_refl _, by omega⟩
      · have := b2 z hz; exact ⟨by omega, this.2⟩

/-- a comprehension over the rows that makes a list of each -/
theorem comp_map {f : AE} {σ : Sg} {g : List Int → List Int} {H : AH} {R : Nat} {rs : List Nat} {rows : List (List Int)} (hR : σ "rows" = some (.ref R)) (kR : H[R]? = some (.list (refs rs))) (k : RowsAt H rs rows) (hl : ∀ row ∈ rows, row.length ≤ 6) (hn : rows.length ≤ 20)
    (hf : ∀ H r row, H[r]? = some (.list (avInts row)) → row.length ≤ 6 → f (upd (hid [".0", "row"] σ) "row" (.ref r)) H = some (.ref H.length, H ++ [.list (avInts (g row))])) :
    ∃ n H' rs', eComp (iL (eVar "rows")) "row" (cEmit tTrue f) [".0", "row"] σ H = some (.ref n, H') ∧ Pre H H' ∧ H'[n]? = some (.list (refs rs')) ∧ RowsAt H' rs' (rows.map g) ∧ rs'.Nodup ∧ (∀ r ∈ rs', H.length ≤ r ∧ r < n) ∧ H.length ≤ n := by
  obtain ⟨H', rs', e, p, R', nd, b⟩ := cLoop_map (chk := chkL (.ref R) (refs rs)) (f := f) (σ := hid [".0", "row"] σ) (x := "row") (g := g) (H₀ := H) (fun H' hp => chk_list (hp _ _ kR)) (fun H' r row hp => hf H' r row) rs rows H k hl (Pre.refl _)
  have hit : iL (eVar "rows") σ H = some ((refs rs, chkL (.ref R) (refs rs)), H) := by simp [iL, eVar, hR, lget_list kR]
  have hlen := rows_len R'
  have hlim : (refs rs').length ≤ LIM := by rw [hLIM]; simp [refs, hlen]; simp at hlen; omega
  refine ⟨H'.length, H' ++ [.list (refs rs')], rs', ?_, p.trans (Pre.app _ _), get_new _ _ _, rows_mono R' fun r _ o e => Pre.app _ _ _ _ e, nd, b, p.len⟩
  simp only [eComp, hit, Option.bind_some, e, if_pos hlim]

theorem copies_ev {σ : Sg} {H : AH} {R : Nat} {rs : List Nat} {rows : List (List Int)} (hR : σ "rows" = some (.ref R)) (kR : H[R]? = some (.list (refs rs))) (k : RowsAt H rs rows) (hl : ∀ row ∈ rows, row.length ≤ 6) (hn : rows.length ≤ 20) :
    ∃ n H' rs', eCopies σ H = some (.ref n, H') ∧ Pre H H' ∧ H'[n]? = some (.list (refs rs')) ∧ RowsAt H' rs' rows ∧ rs'.Nodup ∧ (∀ r ∈ rs', H.length ≤ r ∧ r < n) ∧ H.length ≤ n := by
  have := comp_map (f := cL oCopy (lCons (eVar "row") lNil)) (g := id) hR kR k hl hn fun H r row e h => by
    rw [cL_ev (l1_ev (var_ev (upd_eq _ _ _)))]
    have : (avInts row).length ≤ LIM := by rw [av_len, hLIM]; omega
    simp only [oCopy, lget_list e, if_pos this, id]
  rw [List.map_id] at this
  exact this

theorem rev_ev {x : String} {σ : Sg} {H : AH} {n : Nat} {xs : List AV} (hx : σ x = some (.ref n)) (h : lget H (.ref n) = some xs) (hl : xs.length ≤ LIM) : c2 oRev (eVar x) (c1 oNeg (eInt 1)) σ H = some (.ref H.length, H ++ [.list xs.reverse]) := by
  rw [c2_ev (var_ev hx) (c1_ev int_ev)]
  show (match lget H (.ref n) with | some xs => if xs.length ≤ LIM then some (AV.ref H.length, H ++ [AO.list xs.reverse]) else none | none => none) = _
  rw [h]
  simp only [if_pos hl]

theorem revs_ev {σ : Sg} {H : AH} {R : Nat} {rs : List Nat} {rows : List (List Int)} (hR : σ "rows" = some (.ref R)) (kR : H[R]? = some (.list (refs rs))) (k : RowsAt H rs rows) (hl : ∀ row ∈ rows, row.length ≤ 6) (hn : rows.length ≤ 20) :
    ∃ n H' rs', eRevs σ H = some (.ref n, H') ∧ Pre H H' ∧ H'[n]? = some (.list (refs rs')) ∧ RowsAt H' rs' (rows.map List.reverse) ∧ rs'.Nodup ∧ (∀ r ∈ rs', H.length ≤ r ∧ r < n) ∧ H.length ≤ n :=
  comp_map (f := c2 oRev (eVar "row") (c1 oNeg (eInt 1))) (g := List.reverse) hR kR k hl hn fun H r row e h => by
    rw [rev_ev (upd_eq _ _ _) (lget_list e) (by rw [av_len, hLIM]; omega)]
    simp [avInts]

/-! the steps -/
abbrev TupsAt (H : AH) (ts : List Nat) (ps : List (Int × Int)) : Prop := Paired (fun t (p : Int × Int) => H[t]? = some (.tup [.int p.1, .int p.2])) ts ps
theorem tups_mono {H H' : AH} {ts : List Nat} {ps : List (Int × Int)} (h : TupsAt H ts ps) (p : Pre H H') : TupsAt H' ts ps := pr_mono' h fun _ _ _ _ e => p _ _ e
theorem tups_pairs {H : AH} : ∀ {ts : List Nat} {ps : List (Int × Int)}, TupsAt H ts ps → pairsOf H (refs ts) = some ps
  | _, _, .nil => rfl
  | _, _, .cons e t => by
    have := tups_pairs t
    simp only [refs] at this
    simp [refs, pairsOf, pairOf, tget, e, this]

def fTup : AE := cL oTup (lCons (eAt "row" (eVar "k")) (lCons (eAt "row" (ePlus "k" 1)) lNil))

theorem ftup_ev {σ : Sg} {H : AH} {r k : Nat} {row : List Int} {a b : Int} (hr : σ "row" = some (.ref r)) (hk : σ "k" = some (.int (k : Int))) (e : H[r]? = some (.list (avInts row))) (hl : row.length ≤ 6) (ha : row[k]? = some a) (hb : row[k + 1]? = some b) :
    fTup σ H = some (.ref H.length, H ++ [.tup [.int a, .int b]]) := by
  unfold fTup
  have hlim : (avInts row).length ≤ LIM := by rw [av_len, hLIM]; omega
  rw [cL_ev (l2_ev (eat_ev (k := k) hr (var_ev hk) (lget_list e) hlim (av_get ha)) (eat_ev (k := k + 1) hr (plus_ev hk) (lget_list e) hlim (av_get hb))), tup_ev (by show 2 ≤ 1000; omega)]

theorem inner_loop {σ : Sg} {r : Nat} {H₀ : AH} (hr : σ "row" = some (.ref r)) : ∀ (row pre : List Int) (i : Nat) (H : AH), H₀[r]? = some (.list (avInts (pre ++ row))) → (pre ++ row).length ≤ 6 → pre.length = i → Pre H₀ H →
    ∃ H' ts, cLoop (fun _ => true) (asgN "k") (cEmit tTrue fTup) σ ((List.range' i (row.length - 1)).map fun i : Nat => AV.int i) H = some (refs ts, H') ∧ Pre H H' ∧ TupsAt H' ts (row.zip row.tail)
  | [], _, _, H, _, _, _, _ => ⟨H, [], by simp [cLoop], Pre.refl _, .nil⟩
  | [_], _, _, H, _, _, _, _ => ⟨H, [], by simp [cLoop], Pre.refl _, .nil⟩
  | a :: b :: row, pre, i, H, e, hl, hi, p => by
    have h1 : (pre ++ a :: b :: row)[i]? = some a := by rw [← hi]; simp
    have h2 : (pre ++ a :: b :: row)[i + 1]? = some b := by rw [← hi]; simp
    have e1 : fTup (upd σ "k" (.int (i : Int))) H = some (.ref H.length, H ++ [.tup [.int a, .int b]]) :=
      ftup_ev (by rw [upd_ne (by decide)]; exact hr) (upd_eq _ _ _) (p _ _ e) hl h1 h2
    obtain ⟨H', ts, e2, p2, T2⟩ := inner_loop hr (b :: row) (pre ++ [a]) (i + 1) (H ++ [.tup [.int a, .int b]]) (by simpa using e) (by simpa using hl) (by simp [hi]) (p.trans (Pre.app _ _))
    refine ⟨H', H.length :: ts, ?_, (Pre.app _ _).trans p2, .cons (p2 _ _ (get_new _ _ _)) T2⟩
    have hlen : (a :: b :: row).length - 1 = (b :: row).length - 1 + 1 := by simp
    rw [hlen, List.range'_succ, List.map_cons]
    simp only [cLoop, if_true, asgN, Option.bind_some, cEmit, tTrue, e1, Option.map_some]
    simp only [refs] at e2
    rw [e2]; simp [refs]

def fInner : AC := cInner tTrue (iR (c2 oSub (eLen "row") (eInt 1))) "k" (cEmit tTrue fTup)

theorem finner_ev {σ : Sg} {H : AH} {r : Nat} {row : List Int} (hr : σ "row" = some (.ref r)) (e : H[r]? = some (.list (avInts row))) (hl : row.length ≤ 6) (hne : row ≠ []) :
    ∃ H' ts, fInner σ H = some (refs ts, H') ∧ Pre H H' ∧ TupsAt H' ts (row.zip row.tail) := by
  have hpos : 0 < row.length := List.length_pos_iff.mpr hne
  have hlim : (avInts row).length ≤ LIM := by rw [av_len, hLIM]; omega
  have e1 : c2 oSub (eLen "row") (eInt 1) σ H = some (.int ((row.length - 1 : Nat) : Int), H) := by
    rw [c2_ev (len_ev hr (lget_list e) hlim) int_ev, av_len]
    show some (AV.int ((row.length : Int) - 1), H) = _
    have : (row.length : Int) - 1 = ((row.length - 1 : Nat) : Int) := by omega
    rw [this]
  have e2 : iR (c2 oSub (eLen "row") (eInt 1)) σ H = some ((rangeV (row.length - 1), fun _ => true), H) := by
    simp only [iR, e1, Option.bind_some]
    rw [if_pos ⟨by omega, by rw [hLIM]; omega⟩]
    simp
  obtain ⟨H', ts, e3, p, T⟩ := inner_loop (σ := hid ["k"] σ) (r := r) (H₀ := H) (by simpa [hid] using hr) row [] 0 H e hl rfl (Pre.refl _)
  refine ⟨H', ts, ?_, p, T⟩
  simp only [fInner, cInner, tTrue, Option.bind_some, if_true, e2]
  rw [rangeV, List.range_eq_range']
  exact e3

theorem outer_loop {σ : Sg} {chk : AH → Bool} {H₀ : AH} (hchk : ∀ H, Pre H₀ H → chk H = true) : ∀ (rs : List Nat) (rows : List (List Int)) (H : AH), RowsAt H₀ rs rows → (∀ row ∈ rows, row.length ≤ 6 ∧ row ≠ []) → Pre H₀ H →
    ∃ H' ts, cLoop chk (asgN "row") fInner σ (refs rs) H = some (refs ts, H') ∧ Pre H H' ∧ TupsAt H' ts (stepsOf rows)
  | [], _, H, .nil, _, p => ⟨H, [], by simp [cLoop, hchk H p], Pre.refl _, .nil⟩
  | r :: rs, row :: rows, H, .cons e t, hl, p => by
    obtain ⟨H₁, ts₁, e1, p1, T1⟩ := finner_ev (σ := upd σ "row" (.ref r)) (H := H) (upd_eq _ _ _) (p _ _ e) (hl row (by simp)).1 (hl row (by simp)).2
    obtain ⟨H', ts, e2, p2, T2⟩ := outer_loop hchk rs rows H₁ t (fun x hx => hl x (.tail _ hx)) (p.trans p1)
    refine ⟨H', ts₁ ++ ts, ?_, p1.trans p2, ?_⟩
    · simp only [refs] at e1 e2 ⊢
      simp only [List.map_cons, cLoop, hchk H p, if_true, asgN, Option.bind_some, e1]
      rw [e2]; simp
    · have : stepsOf (row :: rows) = row.zip row.tail ++ stepsOf rows := by simp [stepsOf]
      rw [this]
      exact pr_app (tups_mono T1 p2) T2

theorem steps_len {rows : List (List Int)} (hl : ∀ row ∈ rows, row.length ≤ 6) : (stepsOf rows).length ≤ 6 * rows.length := by
  induction rows with
  | nil => simp [stepsOf]
  | cons row rows ih =>
    have := ih fun x hx => hl x (.tail _ hx)
    have h1 := hl row (by simp)
    have : stepsOf (row :: rows) = row.zip row.tail ++ stepsOf rows := by simp [stepsOf]
    rw [this, List.length_append, List.length_zip, List.length_cons]
    omega

theorem steps_ev {σ : Sg} {H : AH} {R : Nat} {rs : List Nat} {rows : List (List Int)} (hR : σ "rows" = some (.ref R)) (kR : H[R]? = some (.list (refs rs))) (k : RowsAt H rs rows) (hl : ∀ row ∈ rows, row.length ≤ 6 ∧ row ≠ []) (hn : rows.length ≤ 20) :
    ∃ n H' ts, eSteps σ H = some (.ref n, H') ∧ Pre H H' ∧ H'[n]? = some (.list (refs ts)) ∧ TupsAt H' ts (stepsOf rows) := by
  obtain ⟨H', ts, e, p, T⟩ := outer_loop (σ := hid [".0", "row", "k"] σ) (chk := chkL (.ref R) (refs rs)) (H₀ := H) (fun H' hp => chk_list (hp _ _ kR)) rs rows H k hl (Pre.refl _)
  have hit : iL (eVar "rows") σ H = some ((refs rs, chkL (.ref R) (refs rs)), H) := by simp [iL, eVar, hR, lget_list kR]
  have hlen : ts.length = (stepsOf rows).length := Paired.length T
  have h6 := steps_len (rows := rows) fun row h => (hl row h).1
  have hlim : (refs ts).length ≤ LIM := by rw [hLIM]; simp [refs, hlen]; omega
  refine ⟨H'.length, H' ++ [.list (refs ts)], ts, ?_, p.trans (Pre.app _ _), get_new _ _ _, tups_mono T (Pre.app _ _)⟩
  show eComp (iL (eVar "rows")) "row" fInner [".0", "row", "k"] σ H = _
  simp only [eComp, hit, Option.bind_some, e, if_pos hlim]
end Mine

namespace Mine
open PySem PyProof.Rows

def tab (n : Nat) (f : Nat → Int) : List AV := (List.range n).map fun i => AV.int (f i)
theorem tab_len (n : Nat) (f : Nat → Int) : (tab n f).length = n := by simp [tab]
theorem tab_get {n k : Nat} {f : Nat → Int} (h : k < n) : (tab n f)[k]? = some (.int (f k)) := by simp [tab, h]
def fset (f : Nat → Int) (k : Nat) (v : Int) : Nat → Int := fun i => if i = k then v else f i
theorem tab_set {n k : Nat} {f : Nat → Int} {v : Int} : (tab n f).set k (.int v) = tab n (fset f k v) := by
  apply List.ext_getElem
  · simp [tab]
  · intro i h1 h2
    simp only [tab, List.getElem_set, List.getElem_map, List.getElem_range, fset]
    by_cases h : i = k
    · subst h; simp
    · simp [h, Ne.symm h]
theorem tab_rep (n : Nat) : List.replicate n (AV.int 0) = tab n fun _ => 0 := by
  apply List.ext_getElem
  · simp [tab]
  · intro i h1 h2; simp [tab]

theorem set_ev {f g k : AE} {σ : Sg} {H H₁ H₂ H₃ : AH} {v : AV} {n i : Nat} {xs : List AV} (hf : f σ H = some (v, H₁)) (hg : g σ H₁ = some (.ref n, H₂)) (hk : k σ H₂ = some (.int (i : Int), H₃)) (h : H₃[n]? = some (.list xs)) (hi : i < xs.length) (hl : xs.length ≤ LIM) :
    sSet f g k σ H = some (.next, σ, H₃.set n (.list (xs.set i v))) := by
  have h0 : (0 : Int) ≤ i := by omega
  have h1 : (i : Int) < xs.length := by omega
  simp [sSet, hf, hg, hk, oSet, h, h0, h1, hl]
theorem pow_ev {x : String} {σ : Sg} {H : AH} {k : Nat} (hx : σ x = some (.int (k : Int))) (hk : k < 6) : ePow x σ H = some (.int ((2 ^ k : Nat) : Int), H) := by
  unfold ePow
  rw [c2_ev int_ev (var_ev hx)]
  have : k = 0 ∨ k = 1 ∨ k = 2 ∨ k = 3 ∨ k = 4 ∨ k = 5 := by omega
  rcases this with rfl | rfl | rfl | rfl | rfl | rfl <;> rfl

theorem or_bits : ∀ A < 64, ∀ a < 6, Builtin.bitOr ((A : Nat) : Int) ((2 ^ a : Nat) : Int) = ((A ||| 2 ^ a : Nat) : Int) ∧ (A ||| 2 ^ a) < 64 ∧ ∀ y < 6, (A ||| 2 ^ a).testBit y = (A.testBit y || y == a) := by decide +kernel
theorem and_bits : ∀ A < 64, ∀ m < 64, (Builtin.bitAnd ((m : Nat) : Int) ((A : Nat) : Int) = (A : Int)) ↔ (∀ y < 6, A.testBit y = true → m.testBit y = true) := by
  intro A hA m _
  have e : Builtin.bitAnd ((m : Nat) : Int) ((A : Nat) : Int) = ((m &&& A : Nat) : Int) := by
    have h1 : decide ((0 : Int) ≤ (m : Int)) = true := decide_eq_true (by omega)
    have h2 : decide ((0 : Int) ≤ (A : Int)) = true := decide_eq_true (by omega)
    unfold Builtin.bitAnd
    rw [h1, h2]
    simp
  rw [e]
  constructor
  · intro h y _ hb
    have h' : m &&& A = A := by omega
    have := congrArg (fun n => Nat.testBit n y) h'
    simpa [Nat.testBit_and, hb] using this
  · intro h
    congr 1
    refine Nat.eq_of_testBit_eq fun y => ?_
    rw [Nat.testBit_and]
    by_cases hy : y < 6
    · cases hb : A.testBit y with
      | false => simp
      | true => simp [h y hy hb]
    · have : A.testBit y = false := Nat.testBit_lt_two_pow (Nat.lt_of_lt_of_le hA (by
        have : 2 ^ 6 ≤ 2 ^ y := Nat.pow_le_pow_right (by decide) (by omega)
        exact this))
      simp [this]
theorem div_bits : ∀ m < 64, ∀ x < 6, ((((m : Nat) : Int).fdiv ((2 ^ x : Nat) : Int)).fmod 2 = 0) ↔ m.testBit x = false := by decide +kernel
theorem pow_small : ∀ x < 6, (((2 ^ x : Nat) : Int) ≠ 0) ∧ (((2 ^ x : Nat) : Int).natAbs < 1073741824) := by decide

/-- the table of what must come ahead -/
def AInv (H : AH) (st : Nat) (ts : List Nat) (steps : List (Int × Int)) (rest : List AV) (σ : Sg) (K : AH) : Prop :=
  ∃ (n : Nat) (A : Nat → Nat) (ps1 ps2 : List (Int × Int)) (ts2 : List Nat), σ "ahead" = some (.ref n) ∧ σ "steps" = some (.ref st) ∧ K[n]? = some (.list (tab 6 fun x => ((A x : Nat) : Int))) ∧ H.length ≤ n ∧ Pre H K ∧ rest = refs ts2 ∧ TupsAt H ts2 ps2 ∧ steps = ps1 ++ ps2 ∧
    ∀ x < 6, A x < 64 ∧ ∀ a < 6, (A x).testBit a = true ↔ ((a : Int), (x : Int)) ∈ ps1

theorem ahead_step {H : AH} {st : Nat} {ts : List Nat} {steps : List (Int × Int)} (hst : H[st]? = some (.list (refs ts))) (hr : ∀ a b, (a, b) ∈ steps → a ∈ L6 ∧ b ∈ L6) :
    ∀ v r σ K, AInv H st ts steps (v :: r) σ K → chkL (.ref st) (refs ts) K = true ∧ ∃ σ₁ σ' H', asgT "a" "b" v σ K = some σ₁ ∧ sSeq (sSet (c2 oOr (eAt "ahead" (eVar "b")) (ePow "a")) (eVar "ahead") (eVar "b")) sNil σ₁ K = some (.next, σ', H') ∧ AInv H st ts steps r σ' H' := by
  rintro v r σ K ⟨n, A, ps1, ps2, ts2, s1, s2, k1, hn, pre, er, T, es, hA⟩
  refine ⟨chk_list (pre _ _ hst), ?_⟩
  cases T with
  | nil => cases er
  | cons e T =>
    rename_i t p ts3 ps3
    obtain ⟨rfl, rfl⟩ := List.cons.inj er
    obtain ⟨a, b⟩ := p
    obtain ⟨ha, hb⟩ := hr a b (by rw [es]; simp)
    obtain ⟨a, ha6, rfl⟩ := mem6 ha
    obtain ⟨b, hb6, rfl⟩ := mem6 hb
    have e' := pre _ _ e
    have g1 : asgT "a" "b" (.ref t) σ K = some (upd (upd σ "a" (.int (a : Int))) "b" (.int (b : Int))) := by simp [asgT, tget, e']
    have v1 : (upd (upd σ "a" (.int (a : Int))) "b" (.int (b : Int))) "ahead" = some (.ref n) := by rw [upd_ne (by decide), upd_ne (by decide)]; exact s1
    have v2 : (upd (upd σ "a" (.int (a : Int))) "b" (.int (b : Int))) "b" = some (.int (b : Int)) := upd_eq _ _ _
    have v3 : (upd (upd σ "a" (.int (a : Int))) "b" (.int (b : Int))) "a" = some (.int (a : Int)) := by rw [upd_ne (by decide)]; exact upd_eq _ _ _
    obtain ⟨o1, o2, o3⟩ := or_bits (A b) (hA b hb6).1 a ha6
    have e1 : c2 oOr (eAt "ahead" (eVar "b")) (ePow "a") (upd (upd σ "a" (.int (a : Int))) "b" (.int (b : Int))) K = some (.int ((A b ||| 2 ^ a : Nat) : Int), K) := by
      rw [c2_ev (eat_ev (k := b) v1 (var_ev v2) (lget_list k1) (by rw [tab_len, hLIM]; omega) (tab_get hb6)) (pow_ev v3 ha6)]
      show some (AV.int (Builtin.bitOr ((A b : Nat) : Int) ((2 ^ a : Nat) : Int)), K) = _
      rw [o1]
    have e2 := set_ev (g := eVar "ahead") (k := eVar "b") e1 (var_ev v1) (var_ev v2) k1 (by rw [tab_len]; exact hb6) (by rw [tab_len, hLIM]; omega)
    rw [tab_set] at e2
    refine ⟨_, _, _, g1, (seq_next e2).trans rfl, n, fun x => if x = b then A b ||| 2 ^ a else A x, ps1 ++ [((a : Int), (b : Int))], ps3, ts3, v1, ?_, ?_, hn, Pre.set pre hn, rfl, T, by rw [es]; simp, fun x hx => ?_⟩
    · rw [upd_ne (by decide), upd_ne (by decide)]; exact s2
    · rw [set_eq k1]
      congr 2
      unfold tab fset
      refine List.map_congr_left fun x _ => ?_
      by_cases h : x = b
      · simp [h]
      · simp [h]
    · by_cases h : x = b
      · subst h
        simp only [if_true]
        refine ⟨o2, fun y hy => ?_⟩
        rw [o3 y hy, Bool.or_eq_true, (hA x hx).2 y hy, beq_iff_eq, List.mem_append, List.mem_singleton]
        constructor
        · rintro (h | rfl)
          · exact .inl h
          · exact .inr rfl
        · rintro (h | h)
          · exact .inl h
          · have := congrArg Prod.fst h
            simp only at this
            exact .inr (by omega)
      · simp only [if_neg h]
        refine ⟨(hA x hx).1, fun y hy => ?_⟩
        rw [(hA x hx).2 y hy, List.mem_append, List.mem_singleton]
        refine ⟨.inl, fun h' => ?_⟩
        rcases h' with h' | h'
        · exact h'
        · have := congrArg Prod.snd h'
          simp only at this
          exact absurd (by omega) h

/-! the table of ways -/
def okx (st : List (Int × Int)) (x s : Nat) : Prop := ∀ a : Nat, ((a : Int), (x : Int)) ∈ st → s.testBit a = true
open Classical in
noncomputable def tw (st : List (Int × Int)) (M y : Nat) (W : Nat → Int) (m x : Nat) : Int :=
  if (m.testBit x = true ∧ okx st x (m - 2 ^ x)) ∧ (m - 2 ^ x < M ∨ (m - 2 ^ x = M ∧ x < y)) then W (m - 2 ^ x) else 0
def WInv (st : List (Int × Int)) (M y : Nat) (W : Nat → Int) : Prop := ∀ m < 64, W m = (if m = 0 then 1 else 0) + ((List.range 6).map (tw st M y W m)).sum

theorem sum_congr {f g : Nat → Int} : ∀ {l : List Nat}, (∀ x ∈ l, f x = g x) → (l.map f).sum = (l.map g).sum
  | [], _ => rfl
  | x :: l, h => by
    simp only [List.map_cons, List.sum_cons]
    rw [h x (by simp), sum_congr fun y hy => h y (.tail _ hy)]
theorem sum_change {f g : Nat → Int} {y : Nat} : ∀ {l : List Nat}, l.Nodup → y ∈ l → (∀ x ∈ l, x ≠ y → g x = f x) → (l.map g).sum = (l.map f).sum + (g y - f y)
  | x :: l, nd, hy, h => by
    have nd' := List.nodup_cons.mp nd
    simp only [List.map_cons, List.sum_cons]
    rcases List.mem_cons.mp hy with rfl | hy'
    · rw [sum_congr (f := g) (g := f) fun z hz => h z (.tail _ hz) fun e => nd'.1 (e ▸ hz)]; omega
    · rw [h x (by simp) fun e => nd'.1 (e ▸ hy'), sum_change nd'.2 hy' fun z hz => h z (.tail _ hz)]; omega

theorem winv_push {st : List (Int × Int)} {M y : Nat} {W : Nat → Int} (I : WInv st M y W) (hM : M < 64) (hy : y < 6) (hb : M.testBit y = false) (ho : okx st y M) : WInv st M (y + 1) (fset W (M + 2 ^ y) (W (M + 2 ^ y) + W M)) := by
  obtain ⟨b1, b2⟩ := bit_add M hM y hy hb
  have hpos : 0 < 2 ^ y := Nat.two_pow_pos y
  have src : ∀ s, s ≤ M → fset W (M + 2 ^ y) (W (M + 2 ^ y) + W M) s = W s := fun s hs => by unfold fset; rw [if_neg (by omega)]
  intro m hm
  by_cases hmt : m = M + 2 ^ y
  · subst hmt
    have hsub : M + 2 ^ y - 2 ^ y = M := by omega
    have hby : (M + 2 ^ y).testBit y = true := by rw [b2 y hy]; simp
    rw [sum_change (f := tw st M y W (M + 2 ^ y)) (y := y) List.nodup_range (List.mem_range.mpr hy) fun x hx hxy => ?_]
    · have g1 : tw st M (y + 1) (fset W (M + 2 ^ y) (W (M + 2 ^ y) + W M)) (M + 2 ^ y) y = W M := by
        unfold tw
        rw [hsub, if_pos ⟨⟨hby, ho⟩, .inr ⟨rfl, by omega⟩⟩, src M (Nat.le_refl _)]
      have g2 : tw st M y W (M + 2 ^ y) y = 0 := by
        unfold tw
        rw [hsub, if_neg (by rintro ⟨_, h | h⟩ <;> omega)]
      rw [g1, g2]
      have e := I _ b1
      unfold fset
      rw [if_pos rfl]
      omega
    · have hx6 : x < 6 := by simpa using hx
      unfold tw
      by_cases hc : ((M + 2 ^ y).testBit x = true ∧ okx st x (M + 2 ^ y - 2 ^ x)) ∧ (M + 2 ^ y - 2 ^ x < M ∨ (M + 2 ^ y - 2 ^ x = M ∧ x < y))
      · rw [if_pos hc, if_pos ⟨hc.1, by rcases hc.2 with h | h; exact .inl h; exact .inr ⟨h.1, by omega⟩⟩, src _ (by rcases hc.2 with h | h <;> omega)]
      · rw [if_neg hc, if_neg ?_]
        rintro ⟨h1, h2⟩
        exact hc ⟨h1, by rcases h2 with h | h; exact .inl h; exact .inr ⟨h.1, by omega⟩⟩
  · have e := I m hm
    unfold fset
    rw [if_neg hmt]
    rw [e]
    congr 1
    refine sum_congr fun x hx => ?_
    have hx6 : x < 6 := by simpa using hx
    unfold tw
    by_cases hc : (m.testBit x = true ∧ okx st x (m - 2 ^ x)) ∧ (m - 2 ^ x < M ∨ (m - 2 ^ x = M ∧ x < y))
    · have : (if m - 2 ^ x = M + 2 ^ y then W (M + 2 ^ y) + W M else W (m - 2 ^ x)) = W (m - 2 ^ x) := by
        rw [if_neg (by rcases hc.2 with h | h <;> omega)]
      rw [if_pos hc, if_pos ⟨hc.1, by rcases hc.2 with h | h; exact .inl h; exact .inr ⟨h.1, by omega⟩⟩]
      exact this.symm
    · rw [if_neg hc, if_neg ?_]
      rintro ⟨h1, h2⟩
      rcases h2 with h | ⟨h, hxy⟩
      · exact hc ⟨h1, .inl h⟩
      · by_cases hxy' : x = y
        · subst hxy'
          have := (bit_sub m hm x hx6 h1.1).2.2
          exact hmt (by omega)
        · exact hc ⟨h1, .inr ⟨h, by omega⟩⟩

theorem winv_skip {st : List (Int × Int)} {M y : Nat} {W : Nat → Int} (I : WInv st M y W) (hM : M < 64) (hy : y < 6) (h : ¬ (M.testBit y = false ∧ okx st y M)) : WInv st M (y + 1) W := by
  intro m hm
  rw [I m hm]
  congr 1
  refine sum_congr fun x hx => ?_
  have hx6 : x < 6 := by simpa using hx
  unfold tw
  by_cases hc : (m.testBit x = true ∧ okx st x (m - 2 ^ x)) ∧ (m - 2 ^ x < M ∨ (m - 2 ^ x = M ∧ x < y))
  · rw [if_pos hc, if_pos ⟨hc.1, by rcases hc.2 with h | h; exact .inl h; exact .inr ⟨h.1, by omega⟩⟩]
  · rw [if_neg hc, if_neg ?_]
    rintro ⟨h1, h2⟩
    rcases h2 with h' | ⟨h', hxy⟩
    · exact hc ⟨h1, .inl h'⟩
    · by_cases hxy' : x = y
      · subst hxy'
        refine h ⟨?_, h' ▸ h1.2⟩
        rw [← h', (bit_sub m hm x hx6 h1.1).2.1 x hx6]; simp
      · exact hc ⟨h1, .inr ⟨h', by omega⟩⟩

theorem winv_next {st : List (Int × Int)} {M : Nat} {W : Nat → Int} (I : WInv st M 6 W) : WInv st (M + 1) 0 W := by
  intro m hm
  rw [I m hm]
  congr 1
  refine sum_congr fun x hx => ?_
  have hx6 : x < 6 := by simpa using hx
  unfold tw
  by_cases hc : (m.testBit x = true ∧ okx st x (m - 2 ^ x)) ∧ (m - 2 ^ x < M ∨ (m - 2 ^ x = M ∧ x < 6))
  · rw [if_pos hc, if_pos ⟨hc.1, .inl (by rcases hc.2 with h | h <;> omega)⟩]
  · rw [if_neg hc, if_neg ?_]
    rintro ⟨h1, h2⟩
    exact hc ⟨h1, by rcases h2 with h | h <;> omega⟩

theorem winv_zero {st : List (Int × Int)} {M : Nat} {W : Nat → Int} (I : WInv st M 0 W) (h0 : W M = 0) : WInv st (M + 1) 0 W := by
  intro m hm
  rw [I m hm]
  congr 1
  refine sum_congr fun x hx => ?_
  unfold tw
  by_cases hc : (m.testBit x = true ∧ okx st x (m - 2 ^ x)) ∧ (m - 2 ^ x < M ∨ (m - 2 ^ x = M ∧ x < 0))
  · rw [if_pos hc, if_pos ⟨hc.1, .inl (by rcases hc.2 with h | h <;> omega)⟩]
  · rw [if_neg hc]
    by_cases hc' : (m.testBit x = true ∧ okx st x (m - 2 ^ x)) ∧ (m - 2 ^ x < M + 1 ∨ (m - 2 ^ x = M + 1 ∧ x < 0))
    · rw [if_pos hc']
      have : m - 2 ^ x = M := by
        rcases hc'.2 with h | h
        · refine Nat.le_antisymm (by omega) (Nat.le_of_not_lt fun hlt => hc ⟨hc'.1, .inl hlt⟩)
        · omega
      rw [this, h0]
    · rw [if_neg hc']

theorem winv_init (st : List (Int × Int)) : WInv st 0 0 (fset (fun _ => 0) 0 1) := by
  intro m hm
  rw [sum_zero fun x hx => ?_]
  · unfold fset; split <;> rfl
  · unfold tw
    rw [if_neg (by rintro ⟨_, h | h⟩ <;> omega)]

theorem winv_rec {st : List (Int × Int)} {W : Nat → Int} (I : WInv st 64 0 W) (hr : ∀ a b, (a, b) ∈ st → a ∈ L6 ∧ b ∈ L6) : Rec st W := by
  refine ⟨hr, fun m hm => ?_⟩
  rw [I m hm]
  congr 1
  refine sum_congr fun x hx => ?_
  unfold tw tm
  by_cases hc : m.testBit x = true ∧ okx st x (m - 2 ^ x)
  · rw [if_pos ⟨hc, .inl (Nat.lt_of_le_of_lt (Nat.sub_le _ _) hm)⟩]
    exact (if_pos hc).symm
  · rw [if_neg (fun h => hc h.1)]
    exact (if_neg hc).symm
end Mine

namespace Mine
open PySem PyProof.Rows

structure CInv (H : AH) (A : Nat → Nat) (σ : Sg) (K : AH) (w : Nat) (W : Nat → Int) (n : Nat) : Prop where
  s1 : σ "ahead" = some (.ref n)
  s2 : σ "ways" = some (.ref w)
  k1 : K[n]? = some (.list (tab 6 fun x => ((A x : Nat) : Int)))
  k2 : K[w]? = some (.list (tab 64 W))
  nw : n ≠ w
  hw : H.length ≤ w
  pre : Pre H K

def AOkx (A : Nat → Nat) (steps : List (Int × Int)) : Prop := ∀ x < 6, A x < 64 ∧ ∀ a < 6, (A x).testBit a = true ↔ ((a : Int), (x : Int)) ∈ steps

theorem okx_iff {A : Nat → Nat} {steps : List (Int × Int)} (hA : AOkx A steps) (hr : ∀ a b, (a, b) ∈ steps → a ∈ L6 ∧ b ∈ L6) {x M : Nat} (hx : x < 6) (hM : M < 64) : (Builtin.bitAnd ((M : Nat) : Int) ((A x : Nat) : Int) = (A x : Int)) ↔ okx steps x M := by
  rw [and_bits _ (hA x hx).1 _ hM]
  constructor
  · intro h a ha
    obtain ⟨n, hn, e⟩ := mem6 (hr _ _ ha).1
    have : a = n := by omega
    subst this
    exact h a hn (((hA x hx).2 a hn).mpr ha)
  · intro h y hy hb
    exact h y (((hA x hx).2 y hy).mp hb)

def Inner (H : AH) (A : Nat → Nat) (steps : List (Int × Int)) (w n M : Nat) (rest : List AV) (σ : Sg) (K : AH) : Prop :=
  ∃ W y, CInv H A σ K w W n ∧ σ "mask" = some (.int (M : Int)) ∧ WInv steps M y W ∧ y ≤ 6 ∧ rest = (List.range' y (6 - y)).map (fun i : Nat => AV.int i)

theorem inner_step {H : AH} {A : Nat → Nat} {steps : List (Int × Int)} {w n M : Nat} (hA : AOkx A steps) (hr : ∀ a b, (a, b) ∈ steps → a ∈ L6 ∧ b ∈ L6) (hM : M < 64) :
    ∀ v r σ K, Inner H A steps w n M (v :: r) σ K → (fun _ : AH => true) K = true ∧ ∃ σ₁ σ' H', asgN "x" v σ K = some σ₁ ∧ wCount2 σ₁ K = some (.next, σ', H') ∧ Inner H A steps w n M r σ' H' := by
  rintro v r σ K ⟨W, y, C, hm, I, hy, er⟩
  refine ⟨rfl, ?_⟩
  have hy6 : y < 6 := by
    refine Nat.lt_of_not_le fun h => ?_
    have : y = 6 := by omega
    subst this
    simp at er
  have e5 : 6 - y = (6 - (y + 1)) + 1 := by omega
  rw [e5, List.range'_succ, List.map_cons] at er
  obtain ⟨rfl, rfl⟩ := List.cons.inj er
  have v1 : (upd σ "x" (.int (y : Int))) "ahead" = some (.ref n) := by rw [upd_ne (by decide)]; exact C.s1
  have v2 : (upd σ "x" (.int (y : Int))) "ways" = some (.ref w) := by rw [upd_ne (by decide)]; exact C.s2
  have v3 : (upd σ "x" (.int (y : Int))) "mask" = some (.int (M : Int)) := by rw [upd_ne (by decide)]; exact hm
  have v4 : (upd σ "x" (.int (y : Int))) "x" = some (.int (y : Int)) := upd_eq _ _ _
  have l6 : (tab 6 fun x => ((A x : Nat) : Int)).length ≤ LIM := by rw [tab_len, hLIM]; omega
  have l64 : (tab 64 W).length ≤ LIM := by rw [tab_len, hLIM]; omega
  have eA : eAt "ahead" (eVar "x") (upd σ "x" (.int (y : Int))) K = some (.int ((A y : Nat) : Int), K) := eat_ev (k := y) v1 (var_ev v4) (lget_list C.k1) l6 (tab_get hy6)
  have t1 := eq_ev (mod_ev (div_ev (var_ev (H := K) v3) (pow_ev v4 hy6) (pow_small y hy6).1 (pow_small y hy6).2) int_ev (b := 2) (by decide)) (int_ev (i := 0))
  have t2 := eq_ev (f := c2 oAnd (eVar "mask") (eAt "ahead" (eVar "x"))) (a := Builtin.bitAnd ((M : Nat) : Int) ((A y : Nat) : Int)) (by rw [c2_ev (var_ev (H := K) v3) eA]; rfl) eA
  have hd := div_bits M hM y hy6
  have ho := okx_iff hA hr hy6 hM
  have T : bAnd [asB (c2 oEq (c2 oMod (c2 oDiv (eVar "mask") (ePow "x")) (eInt 2)) (eInt 0)), asB (c2 oEq (c2 oAnd (eVar "mask") (eAt "ahead" (eVar "x"))) (eAt "ahead" (eVar "x")))] (upd σ "x" (.int (y : Int))) K =
      some (decide (((M : Int).fdiv ((2 ^ y : Nat) : Int)).fmod 2 = 0) && decide (Builtin.bitAnd ((M : Nat) : Int) ((A y : Nat) : Int) = (A y : Int)), K) := by
    by_cases h1 : ((M : Int).fdiv ((2 ^ y : Nat) : Int)).fmod 2 = 0
    · rw [decide_eq_true h1] at t1 ⊢
      rw [and2_t t1 t2, Bool.true_and]
    · rw [decide_eq_false h1] at t1 ⊢
      rw [and2_f t1, Bool.false_and]
  by_cases hc : M.testBit y = false ∧ okx steps y M
  · have h1 := hd.mpr hc.1
    have h2 := ho.mpr hc.2
    rw [decide_eq_true h1, decide_eq_true h2] at T
    obtain ⟨b1, b2⟩ := bit_add M hM y hy6 hc.1
    have eM : eMaskX (upd σ "x" (.int (y : Int))) K = some (.int ((M + 2 ^ y : Nat) : Int), K) := by
      unfold eMaskX
      rw [iadd_ev (var_ev (H := K) v3) (pow_ev v4 hy6)]
      have : (M : Int) + ((2 ^ y : Nat) : Int) = ((M + 2 ^ y : Nat) : Int) := by omega
      rw [this]
    have e1 : c2 oAdd (eAt "ways" eMaskX) (eAt "ways" (eVar "mask")) (upd σ "x" (.int (y : Int))) K = some (.int (W (M + 2 ^ y) + W M), K) :=
      iadd_ev (eat_ev (k := M + 2 ^ y) v2 eM (lget_list C.k2) l64 (tab_get b1)) (eat_ev (k := M) v2 (var_ev v3) (lget_list C.k2) l64 (tab_get hM))
    have e2 := set_ev (g := eVar "ways") (k := eMaskX) e1 (var_ev v2) eM C.k2 (by rw [tab_len]; exact b1) l64
    rw [tab_set] at e2
    refine ⟨_, _, _, rfl, (seq_next ((if_t T).trans ((seq_next e2).trans rfl))).trans rfl, fset W (M + 2 ^ y) (W (M + 2 ^ y) + W M), y + 1, ⟨v1, v2, set_ne C.k1 (Ne.symm C.nw), set_eq C.k2, C.nw, C.hw, Pre.set C.pre C.hw⟩, v3, winv_push I hM hy6 hc.1 hc.2, by omega, rfl⟩
  · have hT : (decide (((M : Int).fdiv ((2 ^ y : Nat) : Int)).fmod 2 = 0) && decide (Builtin.bitAnd ((M : Nat) : Int) ((A y : Nat) : Int) = (A y : Int))) = false := by
      rw [Bool.and_eq_false_iff, decide_eq_false_iff_not, decide_eq_false_iff_not, hd, ho]
      by_cases h : M.testBit y = false
      · exact .inr fun h' => hc ⟨h, h'⟩
      · exact .inl h
    rw [hT] at T
    exact ⟨_, _, K, rfl, (seq_next ((if_f T).trans rfl)).trans rfl, W, y + 1, ⟨v1, v2, C.k1, C.k2, C.nw, C.hw, C.pre⟩, v3, winv_skip I hM hy6 hc, by omega, rfl⟩

def Outer (H : AH) (A : Nat → Nat) (steps : List (Int × Int)) (w n : Nat) (rest : List AV) (σ : Sg) (K : AH) : Prop :=
  ∃ W M, CInv H A σ K w W n ∧ WInv steps M 0 W ∧ M ≤ 64 ∧ rest = (List.range' M (64 - M)).map (fun i : Nat => AV.int i)

theorem outer_step {H : AH} {A : Nat → Nat} {steps : List (Int × Int)} {w n : Nat} (hA : AOkx A steps) (hr : ∀ a b, (a, b) ∈ steps → a ∈ L6 ∧ b ∈ L6) :
    ∀ v r σ K, Outer H A steps w n (v :: r) σ K → (fun _ : AH => true) K = true ∧ ∃ σ₁ σ' H', asgN "mask" v σ K = some σ₁ ∧ wCount1 σ₁ K = some (.next, σ', H') ∧ Outer H A steps w n r σ' H' := by
  rintro v r σ K ⟨W, M, C, I, hM, er⟩
  refine ⟨rfl, ?_⟩
  have hM6 : M < 64 := by
    refine Nat.lt_of_not_le fun h => ?_
    have : M = 64 := by omega
    subst this
    simp at er
  have e5 : 64 - M = (64 - (M + 1)) + 1 := by omega
  rw [e5, List.range'_succ, List.map_cons] at er
  obtain ⟨rfl, rfl⟩ := List.cons.inj er
  have v1 : (upd σ "mask" (.int (M : Int))) "ahead" = some (.ref n) := by rw [upd_ne (by decide)]; exact C.s1
  have v2 : (upd σ "mask" (.int (M : Int))) "ways" = some (.ref w) := by rw [upd_ne (by decide)]; exact C.s2
  have v3 : (upd σ "mask" (.int (M : Int))) "mask" = some (.int (M : Int)) := upd_eq _ _ _
  have l64 : (tab 64 W).length ≤ LIM := by rw [tab_len, hLIM]; omega
  have t := ne_ev (eat_ev (k := M) v2 (var_ev (H := K) v3) (lget_list C.k2) l64 (tab_get hM6)) (int_ev (i := 0))
  by_cases h0 : W M = 0
  · rw [decide_eq_true h0] at t
    exact ⟨_, _, K, rfl, (seq_next ((if_f t).trans rfl)).trans rfl, W, M + 1, ⟨v1, v2, C.k1, C.k2, C.nw, C.hw, C.pre⟩, winv_zero I h0, by omega, rfl⟩
  · rw [decide_eq_false h0] at t
    obtain ⟨σ', K', P, e⟩ := aFor_ind (asg := asgN "x") (body := wCount2) (orelse := sNil) _ (inner_step (H := H) (w := w) (n := n) hA hr hM6) (fun _ _ _ => rfl) (rangeV 6) (upd σ "mask" (.int (M : Int))) K
      ⟨W, 0, ⟨v1, v2, C.k1, C.k2, C.nw, C.hw, C.pre⟩, v3, I, by omega, by rw [rangeV, List.range_eq_range']⟩
    obtain ⟨W', y, C', hm, I', hy, er'⟩ := P
    have hy6 : y = 6 := by
      refine Nat.le_antisymm hy (Nat.le_of_not_lt fun h => ?_)
      have e5 : 6 - y = (6 - (y + 1)) + 1 := by omega
      rw [e5, List.range'_succ, List.map_cons] at er'
      cases er'
    subst hy6
    have hit : iR (eInt 6) (upd σ "mask" (.int (M : Int))) K = some ((rangeV 6, fun _ => true), K) := rfl
    exact ⟨_, σ', K', rfl, (seq_next ((if_t t).trans ((seq_next ((for_ev hit).trans e)).trans rfl))).trans rfl, W', M + 1, C', winv_next I', by omega, rfl⟩

theorem mul_ev {σ : Sg} {H : AH} {n : Nat} (hn : n ≤ 1000) : c2 oMul (cL oList (lCons (eInt 0) lNil)) (eInt (n : Int)) σ H = some (.ref (H.length + 1), H ++ [.list [.int 0]] ++ [.list (tab n fun _ => 0)]) := by
  have e1 : cL oList (lCons (eInt 0) lNil) σ H = some (.ref H.length, H ++ [.list [.int 0]]) := by rw [cL_ev (l1_ev int_ev), list_ev (by show 1 ≤ 1000; omega)]
  rw [c2_ev e1 int_ev]
  have h0 : (0 : Int) ≤ n := by omega
  have h1 : (n : Int).toNat ≤ LIM := by rw [hLIM]; omega
  have h2 : mget (H ++ [AO.list [AV.int 0]]) (.ref H.length) = some [.int 0] := mget_list (get_new _ _ _)
  simp only [oMul, h2, if_pos (And.intro h0 h1)]
  rw [Int.toNat_natCast, tab_rep]
  simp

theorem count_spec {H : AH} {st : Nat} {ts : List Nat} {steps : List (Int × Int)} (hst : H[st]? = some (.list (refs ts))) (T : TupsAt H ts steps) (hr : ∀ a b, (a, b) ∈ steps → a ∈ L6 ∧ b ∈ L6) :
    ∃ W H', oCount [.ref st] H = some (.int (W 63), H') ∧ Pre H H' ∧ Rec steps W := by
  have s0 : (argσ ["steps"] [AV.ref st] fun _ => none) "steps" = some (.ref st) := by simp [argσ, upd]
  have e1 := mul_ev (σ := argσ ["steps"] [AV.ref st] fun _ => none) (H := H) (n := 6) (by omega)
  have hg1 : (H ++ [AO.list [AV.int 0]] ++ [AO.list (tab 6 fun _ => 0)])[H.length + 1]? = some (.list (tab 6 fun _ => 0)) := by simp
  obtain ⟨σ₁, K₁, P1, f1⟩ := aFor_ind (asg := asgT "a" "b") (body := sSeq (sSet (c2 oOr (eAt "ahead" (eVar "b")) (ePow "a")) (eVar "ahead") (eVar "b")) sNil) (orelse := sNil) _ (ahead_step hst hr) (fun _ _ P => by
    obtain ⟨n, A, ps1, ps2, ts2, s1, s2, k1, hn, pre, er, T, es, hA⟩ := P
    exact chk_list (pre _ _ hst)) (refs ts) (upd (argσ ["steps"] [AV.ref st] fun _ => none) "ahead" (.ref (H.length + 1))) (H ++ [AO.list [AV.int 0]] ++ [AO.list (tab 6 fun _ => 0)])
    ⟨H.length + 1, fun _ => 0, [], steps, ts, upd_eq _ _ _, by rw [upd_ne (by decide)]; exact s0, hg1, by omega, (Pre.app _ _).trans (Pre.app _ _), rfl, T, rfl, fun x _ => ⟨(by decide : (0 : Nat) < 64), by simp⟩⟩
  obtain ⟨n, A, ps1, ps2, ts2, s1, s2, k1, hn, pre, er, T2, es, hA⟩ := P1
  have hps : ps2 = [] := by
    cases T2 with
    | nil => rfl
    | cons _ _ => cases er
  subst hps
  rw [List.append_nil] at es
  subst es
  have hit1 : iL (eVar "steps") (upd (argσ ["steps"] [AV.ref st] fun _ => none) "ahead" (.ref (H.length + 1))) (H ++ [AO.list [AV.int 0]] ++ [AO.list (tab 6 fun _ => 0)]) = some ((refs ts, chkL (.ref st) (refs ts)), H ++ [AO.list [AV.int 0]] ++ [AO.list (tab 6 fun _ => 0)]) := by
    have h := Pre.app _ [AO.list (tab 6 fun _ => 0)] _ _ (Pre.app H [AO.list [AV.int 0]] _ _ hst)
    have h2 : (upd (argσ ["steps"] [AV.ref st] fun _ => none) "ahead" (.ref (H.length + 1))) "steps" = some (.ref st) := by rw [upd_ne (by decide)]; exact s0
    simp only [iL, var_ev h2, Option.bind_some, lget_list h, Option.map_some]
  have e2 := mul_ev (σ := σ₁) (H := K₁) (n := 64) (by omega)
  have hg2 : (K₁ ++ [AO.list [AV.int 0]] ++ [AO.list (tab 64 fun _ => 0)])[K₁.length + 1]? = some (.list (tab 64 fun _ => 0)) := by simp
  have v2 : (upd σ₁ "ways" (.ref (K₁.length + 1))) "ways" = some (.ref (K₁.length + 1)) := upd_eq _ _ _
  have e3 := set_ev (f := eInt 1) (g := eVar "ways") (k := eInt ((0 : Nat) : Int)) (σ := upd σ₁ "ways" (.ref (K₁.length + 1))) int_ev (var_ev v2) int_ev hg2 (by rw [tab_len]; omega) (by rw [tab_len, hLIM]; omega)
  rw [tab_set] at e3
  have kn := (List.getElem?_eq_some_iff.mp k1).1
  have C0 : CInv H A (upd σ₁ "ways" (.ref (K₁.length + 1))) (List.set (K₁ ++ [AO.list [AV.int 0]] ++ [AO.list (tab 64 fun _ => 0)]) (K₁.length + 1) (AO.list (tab 64 (fset (fun _ => 0) 0 1)))) (K₁.length + 1) (fset (fun _ => 0) 0 1) n :=
    ⟨by rw [upd_ne (by decide)]; exact s1, v2, set_ne (Pre.app _ _ _ _ (Pre.app _ _ _ _ k1)) (by omega), set_eq hg2, by omega, by have := pre.len; omega, Pre.set (pre.trans ((Pre.app _ _).trans (Pre.app _ _))) (by have := pre.len; omega)⟩
  obtain ⟨σ₂, K₂, P2, f2⟩ := aFor_ind (asg := asgN "mask") (body := wCount1) (orelse := sNil) _ (outer_step (H := H) (w := K₁.length + 1) (n := n) hA hr) (fun _ _ _ => rfl) (rangeV 64) _ _ ⟨_, 0, C0, winv_init _, by omega, by rw [rangeV, List.range_eq_range']⟩
  obtain ⟨W, M, C, I, hM, er2⟩ := P2
  have hM64 : M = 64 := by
    refine Nat.le_antisymm hM (Nat.le_of_not_lt fun h => ?_)
    have e5 : 64 - M = (64 - (M + 1)) + 1 := by omega
    rw [e5, List.range'_succ, List.map_cons] at er2
    cases er2
  subst hM64
  have e4 : eAt "ways" (eInt 63) σ₂ K₂ = some (.int (W 63), K₂) := eat_ev (k := 63) C.s2 int_ev (lget_list C.k2) (by rw [tab_len, hLIM]; omega) (tab_get (by omega))
  refine ⟨W, K₂, fn_ret rfl (σ' := σ₂) ?_, C.pre, winv_rec I hr⟩
  unfold fCount
  refine (seq_next (asg_ev e1)).trans ((seq_next ((for_ev hit1).trans f1)).trans ((seq_next (asg_ev e2)).trans ((seq_next e3).trans ((seq_next (σ' := σ₂) (H' := K₂) ((for_ev (xs := rangeV 64) (chk := fun _ => true) rfl).trans f2)).trans ?_))))
  simp [sSeq, ret_ev e4]
end Mine

namespace Mine
open PySem PyProof.Rows

def del (h : Int) : List Int → List Int
  | [] => []
  | x :: t => if x = h then t else x :: t

theorem del_cons (h x : Int) (t : List Int) : del h (x :: t) = if x = h then t else x :: t := rfl

structure PS (seqs : List (List Int)) (res : List Int) (cur : List (List Int)) : Prop where
  nd : res.Nodup
  r6 : ∀ v ∈ res, v ∈ L6
  rs : ∀ v ∈ res, ∃ s ∈ seqs, v ∈ s
  c1 : ∀ c ∈ cur, ∀ v ∈ c, v ∉ res ∧ v ∈ L6 ∧ ∃ s ∈ seqs, v ∈ s
  s1 : ∀ s ∈ seqs, ∃ p c, s = p ++ c ∧ p.Sublist res ∧ (c = [] ∨ c ∈ cur)
  c2 : ∀ c ∈ cur, ∃ s ∈ seqs, ∃ p, s = p ++ c
  len : ∀ c ∈ cur, c.length ≤ 6

theorem PS.init {seqs : List (List Int)} (h6 : ∀ s ∈ seqs, ∀ v ∈ s, v ∈ L6) (hl : ∀ s ∈ seqs, s.length ≤ 6) : PS seqs [] seqs :=
  ⟨List.nodup_nil, by simp, by simp, fun c hc v hv => ⟨by simp, h6 c hc v hv, c, hc, hv⟩, fun s hs => ⟨[], s, rfl, List.nil_sublist _, .inr hs⟩, fun c hc => ⟨c, hc, [], rfl⟩, hl⟩

theorem PS.filter {seqs : List (List Int)} {res : List Int} {cur : List (List Int)} (P : PS seqs res cur) : PS seqs res (cur.filter fun c => !c.isEmpty) := by
  refine ⟨P.nd, P.r6, P.rs, fun c hc => P.c1 c (List.mem_filter.mp hc).1, fun s hs => ?_, fun c hc => P.c2 c (List.mem_filter.mp hc).1, fun c hc => P.len c (List.mem_filter.mp hc).1⟩
  obtain ⟨p, c, e, h1, h2⟩ := P.s1 s hs
  refine ⟨p, c, e, h1, ?_⟩
  rcases h2 with h2 | h2
  · exact .inl h2
  · cases c with
    | nil => exact .inl rfl
    | cons x t => exact .inr (List.mem_filter.mpr ⟨h2, rfl⟩)

theorem PS.done {seqs : List (List Int)} {res : List Int} (P : PS seqs res []) : ∀ s ∈ seqs, s.Sublist res := by
  intro s hs
  obtain ⟨p, c, e, h1, h2⟩ := P.s1 s hs
  rcases h2 with rfl | h2
  · rw [e, List.append_nil]; exact h1
  · cases h2

theorem PS.step {seqs : List (List Int)} {res : List Int} {cur : List (List Int)} {h : Int} (P : PS seqs res cur) (ha : ∀ c ∈ cur, h ∉ c.tail) (hc : ∃ c ∈ cur, h ∈ c) : PS seqs (res ++ [h]) (cur.map (del h)) := by
  obtain ⟨c₀, hc₀, hh⟩ := hc
  obtain ⟨q1, q2, q3⟩ := P.c1 c₀ hc₀ h hh
  have sub : ∀ c, ∀ v ∈ del h c, v ∈ c := fun c v hv => by
    cases c with
    | nil => exact hv
    | cons x t =>
      rw [del_cons] at hv
      split at hv
      · exact .tail _ hv
      · exact hv
  refine ⟨?_, fun v hv => ?_, fun v hv => ?_, fun c hc v hv => ?_, fun s hs => ?_, fun c hc => ?_, fun c hc => ?_⟩
  · rw [List.nodup_append]
    exact ⟨P.nd, by simp, fun x hx y hy => by rw [List.mem_singleton.mp hy]; rintro rfl; exact q1 hx⟩
  · rcases List.mem_append.mp hv with hv | hv
    · exact P.r6 v hv
    · rw [List.mem_singleton.mp hv]; exact q2
  · rcases List.mem_append.mp hv with hv | hv
    · exact P.rs v hv
    · rw [List.mem_singleton.mp hv]; exact q3
  · obtain ⟨c, kc, rfl⟩ := List.mem_map.mp hc
    obtain ⟨w1, w2, w3⟩ := P.c1 c kc v (sub c v hv)
    refine ⟨fun hm => ?_, w2, w3⟩
    rcases List.mem_append.mp hm with hm | hm
    · exact w1 hm
    · have := List.mem_singleton.mp hm
      subst this
      have ht := ha c kc
      cases c with
      | nil => cases hv
      | cons x t =>
        rw [del_cons] at hv
        split at hv
        · exact ht hv
        · rename_i hx
          rcases List.mem_cons.mp hv with rfl | hv
          · exact hx rfl
          · exact ht hv
  · obtain ⟨p, c, e, h1, h2⟩ := P.s1 s hs
    rcases h2 with rfl | h2
    · exact ⟨p, [], e, h1.trans (List.sublist_append_left _ _), .inl rfl⟩
    · cases c with
      | nil => exact ⟨p, [], e, h1.trans (List.sublist_append_left _ _), .inl rfl⟩
      | cons x t =>
        by_cases hx : x = h
        · subst hx
          exact ⟨p ++ [x], t, by rw [e]; simp, h1.append (List.Sublist.refl _), .inr (List.mem_map.mpr ⟨_, h2, by simp [del]⟩)⟩
        · exact ⟨p, x :: t, e, h1.trans (List.sublist_append_left _ _), .inr (List.mem_map.mpr ⟨_, h2, by simp [del, hx]⟩)⟩
  · obtain ⟨c, kc, rfl⟩ := List.mem_map.mp hc
    obtain ⟨s, hs, p, e⟩ := P.c2 c kc
    cases c with
    | nil => exact ⟨s, hs, p, e⟩
    | cons x t =>
      by_cases hx : x = h
      · exact ⟨s, hs, p ++ [x], by rw [e]; simp [del, hx]⟩
      · exact ⟨s, hs, p, by rw [e]; simp [del, hx]⟩
  · obtain ⟨c, kc, rfl⟩ := List.mem_map.mp hc
    have := P.len c kc
    cases c with
    | nil => exact this
    | cons x t =>
      rw [del_cons]
      split
      · simp at this; omega
      · exact this

theorem first_of {P : Int → Prop} : ∀ {l : List Int}, (∃ x ∈ l, P x) → ∃ p x q, l = p ++ x :: q ∧ P x ∧ ∀ y ∈ p, ¬ P y
  | [], h => by obtain ⟨x, hx, _⟩ := h; cases hx
  | y :: l, h => by
    by_cases hy : P y
    · exact ⟨[], y, l, rfl, hy, by simp⟩
    · obtain ⟨x, hx, px⟩ := h
      rcases List.mem_cons.mp hx with rfl | hx
      · exact absurd px hy
      · obtain ⟨p, z, q, e, pz, hp⟩ := first_of ⟨x, hx, px⟩
        refine ⟨y :: p, z, q, by rw [e]; rfl, pz, fun w hw => ?_⟩
        rcases List.mem_cons.mp hw with rfl | hw
        · exact hy
        · exact hp w hw

theorem PS.fail {seqs : List (List Int)} {res : List Int} {cur : List (List Int)} (P : PS seqs res cur) (hne : ∀ c ∈ cur, c ≠ []) (h0 : cur ≠ []) (hno : ∀ c ∈ cur, ∀ h t, c = h :: t → ¬ ∀ c' ∈ cur, h ∉ c'.tail) :
    ¬ ∃ l : List Int, l.Nodup ∧ ∀ s ∈ seqs, s.Sublist l := by
  rintro ⟨l, nd, hl⟩
  have hsub : ∀ c ∈ cur, c.Sublist l := fun c hc => by
    obtain ⟨s, hs, p, e⟩ := P.c2 c hc
    exact (e ▸ List.sublist_append_right p c).trans (hl s hs)
  obtain ⟨c₀, hc₀⟩ := List.exists_mem_of_ne_nil _ h0
  obtain ⟨y, hy⟩ := List.exists_mem_of_ne_nil _ (hne c₀ hc₀)
  obtain ⟨p, x, q, e, ⟨c, hc, hx⟩, hp⟩ := first_of (P := fun v => ∃ c ∈ cur, v ∈ c) (l := l) ⟨y, (hsub c₀ hc₀).subset hy, c₀, hc₀, hy⟩
  have hxq : x ∉ q := by
    rw [e, List.nodup_append] at nd
    exact (List.nodup_cons.mp nd.2.1).1
  have acc : ∀ c' ∈ cur, x ∉ c'.tail := fun c' hc' hm => by
    cases c' with
    | nil => cases hm
    | cons h' t' =>
      have h1 := hsub _ hc'
      rw [e] at h1
      have h2 := sub_right h1 fun hin => hp h' hin ⟨_, hc', by simp⟩
      have h3 : t'.Sublist q := by
        cases h2 with
        | cons _ h => exact (List.sublist_cons_self _ _).trans h
        | cons_cons _ h => exact h
      exact hxq (h3.subset hm)
  cases c with
  | nil => cases hx
  | cons h t =>
    rcases List.mem_cons.mp hx with rfl | hx
    · exact hno _ hc _ _ rfl acc
    · exact acc _ hc hx
end Mine

namespace Mine
open PySem PyProof.Rows

/-- 1: the empty rows leave -/
theorem purge_loop {σ : Sg} {H : AH} {chk : AH → Bool} (hchk : chk H = true) : ∀ (rs : List Nat) (cur : List (List Int)), RowsAt H rs cur → (∀ c ∈ cur, c.length ≤ 6) →
    ∃ rs', cLoop chk (asgN "s") (cEmit (c1 oTruth (eVar "s")) (eVar "s")) σ (refs rs) H = some (refs rs', H) ∧ RowsAt H rs' (cur.filter fun c => !c.isEmpty) ∧ rs'.Sublist rs
  | [], _, .nil, _ => ⟨[], by simp [cLoop, hchk], .nil, List.Sublist.refl _⟩
  | r :: rs, c :: cur, .cons e t, hl => by
    obtain ⟨rs', e2, R2, S2⟩ := purge_loop hchk rs cur t fun x hx => hl x (.tail _ hx)
    have hlim : (avInts c).length ≤ LIM := by rw [av_len, hLIM]; have := hl c (by simp); omega
    have e1 : c1 oTruth (eVar "s") (upd σ "s" (.ref r)) H = some (!c.isEmpty, H) := by
      rw [c1_ev (var_ev (upd_eq _ _ _))]
      simp only [oTruth, lget_list e, if_pos hlim]
      cases c <;> rfl
    cases hc : c.isEmpty with
    | true =>
      refine ⟨rs', ?_, ?_, S2.trans (List.sublist_cons_self _ _)⟩
      · rw [hc] at e1
        simp only [refs] at e2 ⊢
        simp only [List.map_cons, cLoop, hchk, if_true, asgN, Option.bind_some, cEmit, e1, Bool.not_true, Bool.false_eq_true, if_false]
        rw [e2]; simp
      · rw [List.filter_cons_of_neg (by simp [hc])]; exact R2
    | false =>
      refine ⟨r :: rs', ?_, ?_, S2.cons_cons r⟩
      · rw [hc] at e1
        simp only [refs] at e2 ⊢
        simp only [List.map_cons, cLoop, hchk, if_true, asgN, Option.bind_some, cEmit, e1, Bool.not_false, var_ev (upd_eq _ _ _), Option.map_some]
        rw [e2]; simp
      · rw [List.filter_cons_of_pos (by simp [hc])]; exact .cons e R2

def bInner : AS := sSeq (sIf (asB (c2 oIn (eVar "candidate") (c3 oSlice (eVar "s2") (eInt 1) eNone))) (sSeq (sAsg "candidate" eNone) (sSeq sBrk sNil)) sNil) sNil

theorem in_ev {σ : Sg} {H : AH} {r : Nat} {row : List Int} {h : Int} (s2 : σ "s2" = some (.ref r)) (hc : σ "candidate" = some (.int h)) (e : H[r]? = some (.list (avInts row))) (hl : row.length ≤ 6) :
    asB (c2 oIn (eVar "candidate") (c3 oSlice (eVar "s2") (eInt 1) eNone)) σ H = some (decide (h ∈ row.tail), H ++ [.list (avInts row.tail)]) := by
  refine asB_ev ?_
  have e1 : c3 oSlice (eVar "s2") (eInt 1) eNone σ H = some (.ref H.length, H ++ [.list (avInts row.tail)]) := by
    rw [slice_ev s2 int_ev none_ev (lget_list e) rfl rfl (by rw [av_len, hLIM]; omega)]
    have : cut (avInts row) (some (1 : Int).toNat) none = avInts row.tail := by simp [cut, avInts, List.map_tail]
    rw [this]
  rw [c2_ev (var_ev hc) e1]
  show (match (lget (H ++ [AO.list (avInts row.tail)]) (.ref H.length)).bind intsOf with | some ns => some (AV.bool (decide (h ∈ ns)), H ++ [AO.list (avInts row.tail)]) | _ => none) = _
  rw [lget_list (get_new _ _ _), Option.bind_some, ints_av]

/-- 2: one candidate against all rows -/
theorem inner_for {chk : AH → Bool} {H₀ : AH} (hchk : ∀ H, Pre H₀ H → chk H = true) {h : Int} : ∀ (rs : List Nat) (cur : List (List Int)) (σ : Sg) (H : AH), RowsAt H₀ rs cur → (∀ c ∈ cur, c.length ≤ 6) → Pre H₀ H → σ "candidate" = some (.int h) →
    ∃ fl σ' H', aFor chk (asgN "s2") bInner (sSeq sBrk sNil) (refs rs) σ H = some (fl, σ', H') ∧ Pre H H' ∧ (∀ y, y ≠ "s2" → y ≠ "candidate" → σ' y = σ y) ∧
      ((fl = .brk ∧ (∀ c ∈ cur, h ∉ c.tail) ∧ σ' "candidate" = some (.int h)) ∨ (fl = .next ∧ (¬ ∀ c ∈ cur, h ∉ c.tail) ∧ σ' "candidate" = some .none))
  | [], _, σ, H, .nil, _, p, hc => ⟨.brk, σ, H, by simp [aFor, hchk H p, sSeq, sBrk], Pre.refl _, fun _ _ _ => rfl, .inl ⟨rfl, by simp, hc⟩⟩
  | r :: rs, c :: cur, σ, H, .cons e t, hl, p, hc => by
    have hc' : (upd σ "s2" (.ref r)) "candidate" = some (.int h) := by rw [upd_ne (by decide)]; exact hc
    have e1 := in_ev (upd_eq σ "s2" (.ref r)) hc' (p _ _ e) (hl c (by simp))
    by_cases hm : h ∈ c.tail
    · rw [decide_eq_true hm] at e1
      refine ⟨.next, upd (upd σ "s2" (.ref r)) "candidate" .none, H ++ [AO.list (avInts c.tail)], ?_, Pre.app _ _, fun y h1 h2 => ?_, .inr ⟨rfl, fun hall => hall c (by simp) hm, upd_eq _ _ _⟩⟩
      rotate_left
      · rw [upd_ne h2, upd_ne h1]
      · have eb : bInner (upd σ "s2" (.ref r)) H = some (.brk, upd (upd σ "s2" (.ref r)) "candidate" .none, H ++ [.list (avInts c.tail)]) := by
          unfold bInner
          simp only [sSeq, if_t e1, asg_ev none_ev, Option.bind_some, sBrk]
        simp only [refs, List.map_cons, aFor, hchk H p, if_true, asgN, Option.bind_some, eb]
    · rw [decide_eq_false hm] at e1
      have eb : bInner (upd σ "s2" (.ref r)) H = some (.next, upd σ "s2" (.ref r), H ++ [.list (avInts c.tail)]) := by
        unfold bInner
        simp only [sSeq, if_f e1, sNil, Option.bind_some]
      obtain ⟨fl, σ', H', e2, p2, f2, o2⟩ := inner_for hchk rs cur (upd σ "s2" (.ref r)) (H ++ [.list (avInts c.tail)]) t (fun x hx => hl x (.tail _ hx)) (p.trans (Pre.app _ _)) hc'
      refine ⟨fl, σ', H', ?_, (Pre.app _ _).trans p2, fun y h1 h2 => ?_, ?_⟩
      · simp only [refs] at e2
        simp only [refs, List.map_cons, aFor, hchk H p, if_true, asgN, Option.bind_some, eb]
        exact e2
      · rw [f2 y h1 h2, upd_ne h1]
      · rcases o2 with ⟨q1, q2, q3⟩ | ⟨q1, q2, q3⟩
        · refine .inl ⟨q1, fun x hx => ?_, q3⟩
          rcases List.mem_cons.mp hx with rfl | hx
          · exact hm
          · exact q2 x hx
        · exact .inr ⟨q1, fun hall => q2 fun x hx => hall x (.tail _ hx), q3⟩

def bOuter : AS := sSeq (sAsg "candidate" (c2 oIdx (eVar "s1") (eInt 0))) (sSeq (sFor (iL (eVar "sequences")) (asgN "s2") bInner (sSeq sBrk sNil)) sNil)

/-- 3: the heads one after another -/
theorem outer_for {H₀ : AH} {q : Nat} {rs₀ : List Nat} {cur₀ : List (List Int)} (hq : H₀[q]? = some (.list (refs rs₀))) (hR : RowsAt H₀ rs₀ cur₀) (hl : ∀ c ∈ cur₀, c.length ≤ 6) :
    ∀ (rs : List Nat) (cur : List (List Int)) (σ : Sg) (H : AH), RowsAt H₀ rs cur → (∀ c ∈ cur, c ≠ [] ∧ c.length ≤ 6) → Pre H₀ H → σ "sequences" = some (.ref q) →
    ∃ σ' H', aFor (chkL (.ref q) (refs rs₀)) (asgN "s1") bOuter sNil (refs rs) σ H = some (.next, σ', H') ∧ Pre H H' ∧ (∀ y, y ≠ "s1" → y ≠ "s2" → y ≠ "candidate" → σ' y = σ y) ∧
      ((∃ c h t, c ∈ cur ∧ c = h :: t ∧ (∀ c' ∈ cur₀, h ∉ c'.tail) ∧ σ' "candidate" = some (.int h)) ∨
        ((∀ c ∈ cur, ∀ h t, c = h :: t → ¬ ∀ c' ∈ cur₀, h ∉ c'.tail) ∧ (σ' "candidate" = some .none ∨ (cur = [] ∧ σ' "candidate" = σ "candidate"))))
  | [], _, σ, H, .nil, _, p, _ => ⟨σ, H, by simp [aFor, chk_list (p _ _ hq), sNil], Pre.refl _, fun _ _ _ _ => rfl, .inr ⟨by simp, .inr ⟨rfl, rfl⟩⟩⟩
  | r :: rs, [] :: cur, σ, H, .cons e t, hne, p, hs => absurd rfl (hne [] (by simp)).1
  | r :: rs, (h :: u) :: cur, σ, H, .cons e t, hne, p, hs => by
    have hcq := chk_list (p _ _ hq)
    have e1 : c2 oIdx (eVar "s1") (eInt 0) (upd σ "s1" (.ref r)) H = some (.int h, H) :=
      idx_ev (var_ev (upd_eq _ _ _)) int_ev (lget_list (p _ _ e)) (at_nat (k := 0) (by rw [av_len, hLIM]; have := (hne (h :: u) (by simp)).2; omega) (av_get (by simp)))
    have hs' : (upd (upd σ "s1" (.ref r)) "candidate" (.int h)) "sequences" = some (.ref q) := by rw [upd_ne (by decide), upd_ne (by decide)]; exact hs
    have hit : iL (eVar "sequences") (upd (upd σ "s1" (.ref r)) "candidate" (.int h)) H = some ((refs rs₀, chkL (.ref q) (refs rs₀)), H) := by simp [iL, var_ev hs', lget_list (p _ _ hq)]
    obtain ⟨fl, σ₁, H₁, e2, p2, f2, o2⟩ := inner_for (chk := chkL (.ref q) (refs rs₀)) (H₀ := H₀) (fun H' hp => chk_list (hp _ _ hq)) (h := h) rs₀ cur₀ (upd (upd σ "s1" (.ref r)) "candidate" (.int h)) H hR hl p (upd_eq _ _ _)
    have e3 := (for_ev (asg := asgN "s2") (body := bInner) (orelse := sSeq sBrk sNil) hit).trans e2
    rcases o2 with ⟨rfl, q2, q3⟩ | ⟨rfl, q2, q3⟩
    · refine ⟨σ₁, H₁, ?_, p2, fun y h1 h2 h3 => ?_, .inl ⟨_, h, u, by simp, rfl, q2, q3⟩⟩
      · have eb : bOuter (upd σ "s1" (.ref r)) H = some (.brk, σ₁, H₁) := by
          unfold bOuter
          rw [seq_next (asg_ev e1)]
          simp only [sSeq, e3, Option.bind_some]
        simp only [refs] at hcq
        simp only [refs, List.map_cons, aFor, hcq, if_true, asgN, Option.bind_some, eb]
      · rw [f2 y h2 h3, upd_ne h3, upd_ne h1]
    · have eb : bOuter (upd σ "s1" (.ref r)) H = some (.next, σ₁, H₁) := by
        unfold bOuter
        rw [seq_next (asg_ev e1), seq_next e3]; rfl
      obtain ⟨σ', H', e4, p4, f4, o4⟩ := outer_for hq hR hl rs cur σ₁ H₁ t (fun x hx => hne x (.tail _ hx)) (p.trans p2) (by rw [f2 _ (by decide) (by decide)]; exact hs')
      refine ⟨σ', H', ?_, p2.trans p4, fun y h1 h2 h3 => ?_, ?_⟩
      · simp only [refs] at e4 hcq
        simp only [refs, List.map_cons, aFor, hcq, if_true, asgN, Option.bind_some, eb]
        exact e4
      · rw [f4 y h1 h2 h3, f2 y h2 h3, upd_ne h3, upd_ne h1]
      · rcases o4 with ⟨c, h', t', w1, w2, w3, w4⟩ | ⟨w1, w2⟩
        · exact .inl ⟨c, h', t', .tail _ w1, w2, w3, w4⟩
        · refine .inr ⟨fun c hc h' t' ec => ?_, .inl ?_⟩
          · rcases List.mem_cons.mp hc with rfl | hc
            · obtain ⟨rfl, _⟩ := List.cons.inj ec
              exact q2
            · exact w1 c hc h' t' ec
          · rcases w2 with w2 | ⟨rfl, w2⟩
            · exact w2
            · rw [w2]; exact q3

def bDel : AS := sSeq (sIf (asB (c2 oEq (c2 oIdx (eVar "seq") (eInt 0)) (eVar "candidate"))) (sSeq (sDel (eVar "seq") (eInt 0)) sNil) sNil) sNil

/-- 4: the candidate leaves the heads -/
theorem del_for {q : Nat} {rs₀ : List Nat} {h : Int} : ∀ (rs : List Nat) (cur : List (List Int)) (σ : Sg) (H : AH), RowsAt H rs cur → (∀ c ∈ cur, c ≠ [] ∧ c.length ≤ 6) → H[q]? = some (.list (refs rs₀)) → q ∉ rs → rs.Nodup → σ "candidate" = some (.int h) →
    ∃ σ' H', aFor (chkL (.ref q) (refs rs₀)) (asgN "seq") bDel sNil (refs rs) σ H = some (.next, σ', H') ∧ (∀ (u : Nat) (o : AO), u ∉ rs → H[u]? = some o → H'[u]? = some o) ∧ RowsAt H' rs (cur.map (del h)) ∧ (∀ y, y ≠ "seq" → σ' y = σ y)
  | [], _, σ, H, .nil, _, hq, _, _, _ => ⟨σ, H, by simp [aFor, chk_list hq, sNil], fun _ _ _ e => e, .nil, fun _ _ => rfl⟩
  | r :: rs, [] :: cur, σ, H, .cons e t, hne, _, _, _, _ => absurd rfl (hne [] (by simp)).1
  | r :: rs, (x :: u) :: cur, σ, H, .cons e t, hne, hq, hqr, nd, hc => by
    have hcq := chk_list hq
    have nd' := List.nodup_cons.mp nd
    have h6 := (hne (x :: u) (by simp)).2
    have hlim : (avInts (x :: u)).length ≤ LIM := by rw [av_len, hLIM]; omega
    have hc' : (upd σ "seq" (.ref r)) "candidate" = some (.int h) := by rw [upd_ne (by decide)]; exact hc
    have e1 : c2 oIdx (eVar "seq") (eInt 0) (upd σ "seq" (.ref r)) H = some (.int x, H) := idx_ev (var_ev (upd_eq _ _ _)) int_ev (lget_list e) (at_nat (k := 0) hlim (av_get (by simp)))
    have t1 := eq_ev e1 (var_ev hc')
    obtain ⟨H₁, eb, g1, g2⟩ : ∃ H₁, bDel (upd σ "seq" (.ref r)) H = some (.next, upd σ "seq" (.ref r), H₁) ∧ (∀ (z : Nat) (o : AO), z ≠ r → H[z]? = some o → H₁[z]? = some o) ∧ H₁[r]? = some (.list (avInts (del h (x :: u)))) := by
      by_cases hx : x = h
      · rw [decide_eq_true hx] at t1
        have hlu : (avInts u).length ≤ LIM := by rw [av_len, hLIM]; simp at h6; omega
        have e2 : sDel (eVar "seq") (eInt 0) (upd σ "seq" (.ref r)) H = some (.next, upd σ "seq" (.ref r), H.set r (.list (avInts u))) := by
          have hu : (List.map AV.int u).length ≤ LIM := hlu
          have e' : H[r]? = some (.list (AV.int x :: List.map AV.int u)) := e
          simp only [sDel, var_ev (upd_eq σ "seq" (.ref r)), Option.bind_some, int_ev, oDel0, e', if_pos hu, Option.map_some]
          rfl
        refine ⟨List.set H r (AO.list (avInts u)), ?_, fun z o hz ez => set_ne ez (Ne.symm hz), ?_⟩
        rotate_left
        · rw [set_eq e, del_cons, if_pos hx]
        · unfold bDel
          exact (seq_next ((if_t t1).trans ((seq_next e2).trans rfl))).trans rfl
      · rw [decide_eq_false hx] at t1
        refine ⟨H, ?_, fun z o _ ez => ez, ?_⟩
        · unfold bDel
          exact (seq_next ((if_f t1).trans rfl)).trans rfl
        · rw [del_cons, if_neg hx]; exact e
    have hqr' : q ≠ r := fun e => hqr (by simp [e])
    obtain ⟨σ', H', e4, k4, R4, f4⟩ := del_for rs cur (upd σ "seq" (.ref r)) H₁ (rows_mono t fun z hz o ez => g1 z o (by rintro rfl; exact nd'.1 hz) ez) (fun c hc => hne c (.tail _ hc)) (g1 _ _ hqr' hq) (fun hm => hqr (.tail _ hm)) nd'.2 hc'
    refine ⟨σ', H', ?_, fun z o hz ez => k4 z o (fun hm => hz (.tail _ hm)) (g1 z o (fun e => hz (by simp [e])) ez), .cons (k4 r _ nd'.1 g2) R4, fun y hy => by rw [f4 y hy, upd_ne hy]⟩
    simp only [refs] at e4 hcq
    simp only [refs, List.map_cons, aFor, hcq, if_true, asgN, Option.bind_some, eb]
    exact e4
end Mine

namespace Mine
open PySem PyProof.Rows

structure MInv (H₀ : AH) (seqs : List (List Int)) (σ : Sg) (H : AH) (q p : Nat) (rs : List Nat) (res : List Int) (cur : List (List Int)) : Prop where
  s1 : σ "sequences" = some (.ref q)
  s2 : σ "result" = some (.ref p)
  k1 : H[p]? = some (.list (avInts res))
  k2 : H[q]? = some (.list (refs rs))
  R : RowsAt H rs cur
  nd : rs.Nodup
  qr : q ∉ rs
  pr : p ∉ rs
  hp : H₀.length ≤ p
  hr : ∀ r ∈ rs, H₀.length ≤ r
  pre : Pre H₀ H
  P : PS seqs res cur
  len : cur.length ≤ 21

def Good (H₀ : AH) (seqs : List (List Int)) (x : Option (AF × Sg × AH)) : Prop :=
  (∃ n σ' H' r, x = some (.ret (.ref n), σ', H') ∧ Pre H₀ H' ∧ H'[n]? = some (.list (avInts r)) ∧ r.Nodup ∧ (∀ v ∈ r, v ∈ L6) ∧ (∀ s ∈ seqs, s.Sublist r) ∧ ∀ v ∈ r, ∃ s ∈ seqs, v ∈ s) ∨
  (∃ σ' H', x = some (.exc, σ', H') ∧ ¬ ∃ l : List Int, l.Nodup ∧ ∀ s ∈ seqs, s.Sublist l)

theorem rows_none {cur : List (List Int)} {H : AH} (h : RowsAt H [] cur) : cur = [] := by cases h; rfl
theorem rows_nil {rs : List Nat} {H : AH} (h : RowsAt H rs []) : rs = [] := by cases h; rfl

theorem while_step {H₀ : AH} {seqs : List (List Int)} {σ : Sg} {H : AH} {q p : Nat} {rs : List Nat} {res : List Int} {cur : List (List Int)} (I : MInv H₀ seqs σ H q p rs res cur) :
    Good H₀ seqs (wC3 σ H) ∨ ∃ σ' H' q' rs' h cur', wC3 σ H = some (.next, σ', H') ∧ MInv H₀ seqs σ' H' q' p rs' (res ++ [h]) cur' := by
  -- the empty rows leave
  obtain ⟨rs', e1, R1, S1⟩ := purge_loop (σ := hid [".0", "s"] σ) (chk := chkL (.ref q) (refs rs)) (chk_list I.k2) rs cur I.R I.P.len
  have hit1 : iL (eVar "sequences") σ H = some ((refs rs, chkL (.ref q) (refs rs)), H) := by simp [iL, var_ev I.s1, lget_list I.k2]
  have hl1 := rows_len R1
  have hfl : (cur.filter fun c => !c.isEmpty).length ≤ cur.length := List.length_filter_le _ _
  have hlim : (refs rs').length ≤ LIM := by rw [hLIM]; simp only [refs, List.length_map]; have := I.len; omega
  have e2 : eComp (iL (eVar "sequences")) "s" (cEmit (c1 oTruth (eVar "s")) (eVar "s")) [".0", "s"] σ H = some (.ref H.length, H ++ [.list (refs rs')]) := by
    simp only [eComp, hit1, Option.bind_some, e1, if_pos hlim]
  have P1 := I.P.filter
  have ne1 : ∀ c ∈ cur.filter (fun c => !c.isEmpty), c ≠ [] ∧ c.length ≤ 6 := fun c hc => ⟨by
    have := (List.mem_filter.mp hc).2
    rintro rfl
    simp at this, P1.len c hc⟩
  have nd1 : rs'.Nodup := S1.nodup I.nd
  have w1 : (upd σ "sequences" (.ref H.length)) "sequences" = some (.ref H.length) := upd_eq _ _ _
  have w2 : (upd σ "sequences" (.ref H.length)) "result" = some (.ref p) := by rw [upd_ne (by decide)]; exact I.s2
  have kq : (H ++ [.list (refs rs')])[H.length]? = some (.list (refs rs')) := get_new _ _ _
  have R1' : RowsAt (H ++ [.list (refs rs')]) rs' (cur.filter fun c => !c.isEmpty) := rows_mono R1 fun r _ o e => Pre.app _ _ _ _ e
  have lt1 : ∀ r ∈ rs', r < H.length := fun r hr => by
    obtain ⟨j, hj, rfl⟩ := List.getElem_of_mem hr
    obtain ⟨y, hy, e⟩ := pr_get R1 (i := j) (x := rs'[j]) (by simp [hj])
    exact (List.getElem?_eq_some_iff.mp e).1
  have e3 : c1 oTruth (eVar "sequences") (upd σ "sequences" (.ref H.length)) (H ++ [.list (refs rs')]) = some (!(refs rs').isEmpty, H ++ [.list (refs rs')]) := by
    rw [c1_ev (var_ev w1)]
    simp only [oTruth, lget_list kq, if_pos hlim]
  generalize hcur : (cur.filter fun c => !c.isEmpty) = cur1 at *
  cases hrs : rs' with
  | nil =>
    subst hrs
    have hc0 := rows_none R1
    subst hc0
    refine .inl (.inl ⟨p, upd σ "sequences" (.ref H.length), H ++ [.list (refs [])], res, ?_, I.pre.trans (Pre.app _ _), Pre.app _ _ _ _ I.k1, I.P.nd, I.P.r6, P1.done, I.P.rs⟩)
    unfold wC3
    rw [seq_next (asg_ev e2)]
    have t : bNot (c1 oTruth (eVar "sequences")) (upd σ "sequences" (.ref H.length)) (H ++ [.list (refs [])]) = some (true, H ++ [.list (refs [])]) := by
      unfold bNot
      rw [e3]; rfl
    simp only [sSeq, if_t t, ret_ev (var_ev w2), Option.bind_some]
  | cons r0 rr =>
    have hc0 : cur1 ≠ [] := fun h => by rw [h] at R1; have := rows_nil R1; rw [hrs] at this; cases this
    have t : bNot (c1 oTruth (eVar "sequences")) (upd σ "sequences" (.ref H.length)) (H ++ [.list (refs rs')]) = some (false, H ++ [.list (refs rs')]) := by
      unfold bNot
      rw [e3, hrs]; rfl
    rw [← hrs] at *
    have hit2 : iL (eVar "sequences") (upd σ "sequences" (.ref H.length)) (H ++ [.list (refs rs')]) = some ((refs rs', chkL (.ref H.length) (refs rs')), H ++ [.list (refs rs')]) := by simp [iL, var_ev w1, lget_list kq]
    obtain ⟨σ₂, H₂, e4, p4, f4, o4⟩ := outer_for (H₀ := H ++ [.list (refs rs')]) kq R1' P1.len rs' cur1 (upd σ "sequences" (.ref H.length)) (H ++ [.list (refs rs')]) R1' ne1 (Pre.refl _) w1
    have x1 : σ₂ "sequences" = some (.ref H.length) := by rw [f4 _ (by decide) (by decide) (by decide)]; exact w1
    have x2 : σ₂ "result" = some (.ref p) := by rw [f4 _ (by decide) (by decide) (by decide)]; exact w2
    have head : ∀ g, sSeq (sAsg "sequences" (eComp (iL (eVar "sequences")) "s" (cEmit (c1 oTruth (eVar "s")) (eVar "s")) [".0", "s"])) (sSeq (sIf (bNot (c1 oTruth (eVar "sequences"))) (sSeq (sRet (eVar "result")) sNil) sNil) (sSeq (sFor (iL (eVar "sequences")) (asgN "s1") bOuter sNil) g)) σ H = g σ₂ H₂ := fun g =>
      (seq_next (asg_ev e2)).trans ((seq_next ((if_f t).trans rfl)).trans (seq_next ((for_ev hit2).trans e4)))
    rcases o4 with ⟨c, h, u, c1', c2', c3', c4'⟩ | ⟨c1', c2'⟩
    · -- a candidate
      have hne : asB (c2 oIs (eVar "candidate") eNone) σ₂ H₂ = some (false, H₂) := asB_ev (by rw [c2_ev (var_ev c4') none_ev]; rfl)
      have kp2 := p4 _ _ (Pre.app _ [AO.list (refs rs')] _ _ I.k1)
      have hr6 := len6 I.P.nd I.P.r6
      have e5 := app_ev (f := eVar "result") (g := eVar "candidate") (var_ev x2) kp2 (var_ev c4') kp2 (by rw [av_len, hLIM]; omega)
      have ltp := (List.getElem?_eq_some_iff.mp I.k1).1
      have kq3 : (List.set H₂ p (AO.list (avInts res ++ [AV.int h])))[H.length]? = some (.list (refs rs')) := set_ne (p4 _ _ kq) (by omega)
      have hit3 : iL (eVar "sequences") σ₂ (List.set H₂ p (AO.list (avInts res ++ [AV.int h]))) = some ((refs rs', chkL (.ref H.length) (refs rs')), List.set H₂ p (AO.list (avInts res ++ [AV.int h]))) := by simp [iL, var_ev x1, lget_list kq3]
      have prs' : p ∉ rs' := fun hm => I.pr (S1.subset hm)
      have R3 : RowsAt (List.set H₂ p (AO.list (avInts res ++ [AV.int h]))) rs' cur1 := rows_mono R1' fun r hr o e => set_ne (p4 _ _ e) (by rintro rfl; exact prs' hr)
      have qrs' : H.length ∉ rs' := fun hm => Nat.lt_irrefl _ (lt1 _ hm)
      obtain ⟨σ₄, H₄, e6, k6, R6, f6⟩ := del_for (q := H.length) (rs₀ := rs') (h := h) rs' cur1 σ₂ (List.set H₂ p (AO.list (avInts res ++ [AV.int h]))) R3 ne1 kq3 qrs' nd1 c4'
      refine .inr ⟨σ₄, H₄, H.length, rs', h, cur1.map (del h), ?_, ?_⟩
      · exact (head _).trans ((seq_next ((if_f hne).trans rfl)).trans ((seq_next e5).trans ((seq_next ((for_ev hit3).trans e6)).trans rfl)))
      · refine ⟨by rw [f6 _ (by decide)]; exact x1, by rw [f6 _ (by decide)]; exact x2, ?_, k6 _ _ qrs' kq3, R6, nd1, qrs', prs', I.hp, fun r hr => I.hr r (S1.subset hr), ?_, P1.step c3' ⟨c, c1', by rw [c2']; simp⟩, ?_⟩
        · refine k6 _ _ prs' ?_
          rw [set_eq kp2]; simp [avInts]
        · intro i o e
          have hi := (List.getElem?_eq_some_iff.mp e).1
          refine k6 i o (fun hm => ?_) (set_ne (p4 _ _ (Pre.app _ _ _ _ (I.pre _ _ e))) (by have := I.hp; omega))
          have := I.hr i (S1.subset hm)
          omega
        · rw [List.length_map]; have := I.len; omega
    · -- none
      have hnone : σ₂ "candidate" = some .none := by
        rcases c2' with h | ⟨h, _⟩
        · exact h
        · exact absurd h hc0
      have hne : asB (c2 oIs (eVar "candidate") eNone) σ₂ H₂ = some (true, H₂) := asB_ev (by rw [c2_ev (var_ev hnone) none_ev]; rfl)
      refine .inl (.inr ⟨σ₂, H₂, ?_, P1.fail (fun c hc => (ne1 c hc).1) hc0 c1'⟩)
      refine (head _).trans ?_
      simp only [sSeq, if_t hne, sRaise, Option.bind_some]

theorem while_all {H₀ : AH} {seqs : List (List Int)} : ∀ (N : Nat) {σ : Sg} {H : AH} {q p : Nat} {rs : List Nat} {res : List Int} {cur : List (List Int)}, MInv H₀ seqs σ H q p rs res cur → 7 ≤ N + res.length → Good H₀ seqs (aWhile (c1 oTruth (eBool true)) wC3 N σ H)
  | 0, _, _, _, _, _, _, _, I, hN => by
    have := len6 I.P.nd I.P.r6
    omega
  | N + 1, σ, H, _, _, _, _, _, I, hN => by
    have ht : c1 oTruth (eBool true) σ H = some (true, H) := rfl
    rcases while_step I with g | ⟨σ', H', q', rs', h, cur', e, I'⟩
    · rcases g with ⟨n, σ', H', r, e, g⟩ | ⟨σ', H', e, g⟩
      · exact .inl ⟨n, σ', H', r, by simp [aWhile, ht, e], g⟩
      · exact .inr ⟨σ', H', by simp [aWhile, ht, e], g⟩
    · have := while_all N I' (by rw [List.length_append, List.length_singleton]; omega)
      have e' : aWhile (c1 oTruth (eBool true)) wC3 (N + 1) σ H = aWhile (c1 oTruth (eBool true)) wC3 N σ' H' := by simp [aWhile, ht, e]
      rw [e']; exact this

theorem merge_spec {H₀ H : AH} {seqs : List (List Int)} {q : Nat} {rs : List Nat} (kq : H[q]? = some (.list (refs rs))) (R : RowsAt H rs seqs) (nd : rs.Nodup) (qr : q ∉ rs) (hr : ∀ r ∈ rs, H₀.length ≤ r) (pre : Pre H₀ H) (h6 : ∀ s ∈ seqs, ∀ v ∈ s, v ∈ L6) (hl : ∀ s ∈ seqs, s.length ≤ 6) (hn : seqs.length ≤ 21) :
    Good H₀ seqs (fC3 (argσ ["sequences"] [.ref q] fun _ => none) H) := by
  have e1 : cL oList lNil (argσ ["sequences"] [.ref q] fun _ => none) H = some (.ref H.length, H ++ [.list []]) := by rw [cL_ev (rfl : lNil _ _ = some ([], H)), list_ev (by decide)]
  have I : MInv H₀ seqs (upd (argσ ["sequences"] [.ref q] fun _ => none) "result" (.ref H.length)) (H ++ [.list []]) q H.length rs [] seqs := by
    refine ⟨by rw [upd_ne (by decide)]; simp [argσ, upd], upd_eq _ _ _, get_new _ _ _, Pre.app _ _ _ _ kq, rows_mono R fun r _ o e => Pre.app _ _ _ _ e, nd, qr, fun hm => ?_, pre.len, hr, pre.trans (Pre.app _ _), PS.init h6 hl, hn⟩
    obtain ⟨j, hj, e⟩ := List.getElem_of_mem hm
    obtain ⟨y, hy, e'⟩ := pr_get R (i := j) (x := H.length) (by rw [← e]; simp [hj])
    exact Nat.lt_irrefl _ (List.getElem?_eq_some_iff.mp e').1
  have g := while_all 100 I (by simp)
  unfold fC3
  rw [seq_next (asg_ev e1)]
  rcases g with ⟨n, σ', H', r, e, g⟩ | ⟨σ', H', e, g⟩
  · exact .inl ⟨n, σ', H', r, by simp [sSeq, e], g⟩
  · exact .inr ⟨σ', H', by simp [sSeq, e], g⟩
end Mine

namespace Mine
open PySem PyProof.Rows

theorem lne_ev {f g : AE} {σ : Sg} {H H₁ H₂ : AH} {a b : Nat} {xs ys : List Int} (hf : f σ H = some (.ref a, H₁)) (hg : g σ H₁ = some (.ref b, H₂)) (h1 : H₂[a]? = some (.list (avInts xs))) (h2 : H₂[b]? = some (.list (avInts ys))) : c2 oNe f g σ H = some (.bool (!decide (xs = ys)), H₂) := by
  rw [c2_ev hf hg]
  show (match (lget H₂ (.ref a)).bind intsOf, (lget H₂ (.ref b)).bind intsOf with | some ns, some ms => some (AV.bool (!decide (ns = ms)), H₂) | _, _ => none) = _
  rw [lget_list h1, lget_list h2, Option.bind_some, Option.bind_some, ints_av, ints_av]
theorem leq_ev {f g : AE} {σ : Sg} {H H₁ H₂ : AH} {a b : Nat} {xs ys : List Int} (hf : f σ H = some (.ref a, H₁)) (hg : g σ H₁ = some (.ref b, H₂)) (h1 : H₂[a]? = some (.list (avInts xs))) (h2 : H₂[b]? = some (.list (avInts ys))) : c2 oEq f g σ H = some (.bool (decide (xs = ys)), H₂) := by
  rw [c2_ev hf hg]
  show (match (lget H₂ (.ref a)).bind intsOf, (lget H₂ (.ref b)).bind intsOf with | some ns, some ms => some (AV.bool (decide (ns = ms)), H₂) | _, _ => none) = _
  rw [lget_list h1, lget_list h2, Option.bind_some, Option.bind_some, ints_av, ints_av]

def KInv (H : AH) (o : Nat) (good : List Int → Prop) (rest : List AV) (σ : Sg) (K : AH) : Prop := ∃ rs rows, σ "order" = some (.ref o) ∧ Pre H K ∧ rest = refs rs ∧ RowsAt H rs rows ∧ ∀ row ∈ rows, good row

def bKeep : AS := sSeq (sIf (asB (c2 oNe (eComp (iL (eVar "order")) "x" (cEmit (asB (c2 oIn (eVar "x") (eVar "row"))) (eVar "x")) [".0", "x"]) (eVar "row"))) (sSeq (sRet (eBool false)) sNil) sNil) sNil

theorem keep_step {H : AH} {o R : Nat} {ord : List Int} {rs₀ : List Nat} {good : List Int → Prop} (ho : H[o]? = some (.list (avInts ord))) (h6 : ord.length ≤ 6) (hR : H[R]? = some (.list (refs rs₀)))
    (hgood : ∀ row, good row → ord.filter (fun x => decide (x ∈ row)) = row) :
    ∀ v r σ K, KInv H o good (v :: r) σ K → chkL (.ref R) (refs rs₀) K = true ∧ ∃ σ₁ σ' H', asgN "row" v σ K = some σ₁ ∧ bKeep σ₁ K = some (.next, σ', H') ∧ KInv H o good r σ' H' := by
  rintro v r σ K ⟨rs, rows, s1, pre, er, Rr, hg⟩
  refine ⟨chk_list (pre _ _ hR), ?_⟩
  cases Rr with
  | nil => cases er
  | cons e t =>
    rename_i x row rs2 rows2
    obtain ⟨rfl, rfl⟩ := List.cons.inj er
    have s1' : (upd σ "row" (.ref x)) "order" = some (.ref o) := by rw [upd_ne (by decide)]; exact s1
    have hit : iL (eVar "order") (upd σ "row" (.ref x)) K = some ((avInts ord, chkL (.ref o) (avInts ord)), K) := by simp [iL, var_ev s1', lget_list (pre _ _ ho)]
    obtain ⟨n, K', e1, p1, hn, g1⟩ := comp_filter (x := "x") (K := [".0", "x"]) (σ := upd σ "row" (.ref x)) (t := asB (c2 oIn (eVar "x") (eVar "row"))) (p := fun y => decide (y ∈ row)) hit (fun H' hp => chk_list (hp _ _ (pre _ _ ho))) (by rw [hLIM]; omega) (fun y _ H' hp => by
      refine ⟨H', asB_ev ?_, Pre.refl _⟩
      have hx : (upd (hid [".0", "x"] (upd σ "row" (.ref x))) "x" (.int y)) "row" = some (.ref x) := by rw [upd_ne (by decide)]; simp [hid, upd]
      rw [c2_ev (var_ev (upd_eq _ _ _)) (var_ev hx)]
      show (match (lget H' (.ref x)).bind intsOf with | some ns => some (AV.bool (decide (y ∈ ns)), H') | _ => none) = _
      rw [lget_list (hp _ _ (pre _ _ e)), Option.bind_some, ints_av])
    rw [hgood row (hg row (by simp))] at g1
    have e2 := lne_ev e1 (var_ev (upd_eq σ "row" (.ref x))) g1 (p1 _ _ (pre _ _ e))
    rw [decide_eq_true rfl] at e2
    exact ⟨_, _, K', rfl, (seq_next ((if_f (asB_ev e2)).trans rfl)).trans rfl, rs2, rows2, s1', pre.trans p1, rfl, t, fun row hrow => hg row (.tail _ hrow)⟩

theorem keeps_spec {H : AH} {o R : Nat} {ord : List Int} {rs : List Nat} {rows : List (List Int)} (ho : H[o]? = some (.list (avInts ord))) (h6 : ord.length ≤ 6) (hR : H[R]? = some (.list (refs rs))) (R' : RowsAt H rs rows) (hg : ∀ row ∈ rows, ord.filter (fun x => decide (x ∈ row)) = row) :
    ∃ H', oKeeps [.ref o, .ref R] H = some (.bool true, H') ∧ Pre H H' := by
  have s0 : (argσ ["order", "rows"] [AV.ref o, AV.ref R] fun _ => none) "rows" = some (.ref R) := by simp [argσ, upd]
  have s1 : (argσ ["order", "rows"] [AV.ref o, AV.ref R] fun _ => none) "order" = some (.ref o) := by simp [argσ, upd]
  obtain ⟨σ', K, ⟨rs', rows', q1, q2, _⟩, e⟩ := aFor_ind (asg := asgN "row") (body := bKeep) (orelse := sNil) _ (keep_step (good := fun row => ord.filter (fun x => decide (x ∈ row)) = row) ho h6 hR (fun _ h => h)) (fun σ K P => by
    obtain ⟨rs', rows', q1, q2, _⟩ := P
    exact chk_list (q2 _ _ hR)) (refs rs) (argσ ["order", "rows"] [AV.ref o, AV.ref R] fun _ => none) H ⟨rs, rows, s1, Pre.refl _, rfl, R', hg⟩
  have hit : iL (eVar "rows") (argσ ["order", "rows"] [AV.ref o, AV.ref R] fun _ => none) H = some ((refs rs, chkL (.ref R) (refs rs)), H) := by simp only [iL, var_ev s0, Option.bind_some, lget_list hR, Option.map_some]
  refine ⟨K, fn_ret rfl (σ' := σ') ?_, q2⟩
  unfold fKeeps
  refine (seq_next ((for_ev hit).trans e)).trans ?_
  simp only [sSeq, ret_ev (rfl : eBool true σ' K = some (.bool true, K)), Option.bind_some]

def pAt (told : List Int) (k : Nat) : Int × Int := ((told[k]?).getD 0, (told[k + 1]?).getD 0)

theorem loose_ev {σ : Sg} {H : AH} {t st : Nat} {told : List Int} {ts : List Nat} {steps : List (Int × Int)} (s1 : σ "told" = some (.ref t)) (s2 : σ "steps" = some (.ref st)) (k1 : H[t]? = some (.list (avInts told))) (h6 : told.length = 6)
    (k2 : H[st]? = some (.list (refs ts))) (T : TupsAt H ts steps) :
    ∃ n H', eLoose σ H = some (.ref n, H') ∧ Pre H H' ∧ H'[n]? = some (.list (avInts (([0, 1, 2, 3, 4] : List Int).filter fun y => !decide (pAt told y.toNat ∈ steps)))) := by
  have hit : iR (eInt 5) σ H = some ((avInts [0, 1, 2, 3, 4], fun _ => true), H) := rfl
  obtain ⟨n, H', e, p, _, g⟩ := comp_filter (x := "k") (K := [".0", "k"]) (σ := σ) (t := asB (c2 oNotIn (cL oTup (lCons (eAt "told" (eVar "k")) (lCons (eAt "told" (ePlus "k" 1)) lNil))) (eVar "steps"))) (p := fun y => !decide (pAt told y.toNat ∈ steps)) hit
    (fun _ _ => rfl) (by decide) (fun y hy H' hp => by
      obtain ⟨k, hk, rfl⟩ : ∃ k : Nat, k < 5 ∧ y = k := by
        simp only [List.mem_cons, List.not_mem_nil, or_false] at hy
        rcases hy with rfl | rfl | rfl | rfl | rfl
        · exact ⟨0, by decide, rfl⟩
        · exact ⟨1, by decide, rfl⟩
        · exact ⟨2, by decide, rfl⟩
        · exact ⟨3, by decide, rfl⟩
        · exact ⟨4, by decide, rfl⟩
      have v1 : (upd (hid [".0", "k"] σ) "k" (.int (k : Int))) "told" = some (.ref t) := by rw [upd_ne (by decide)]; simpa [hid] using s1
      have v2 : (upd (hid [".0", "k"] σ) "k" (.int (k : Int))) "steps" = some (.ref st) := by rw [upd_ne (by decide)]; simpa [hid] using s2
      have v3 : (upd (hid [".0", "k"] σ) "k" (.int (k : Int))) "k" = some (.int (k : Int)) := upd_eq _ _ _
      have hlim : (avInts told).length ≤ LIM := by rw [av_len, hLIM]; omega
      have a1 : told[k]? = some (pAt told k).1 := by simp [pAt, show k < told.length by omega]
      have a2 : told[k + 1]? = some (pAt told k).2 := by simp [pAt, show k + 1 < told.length by omega]
      have e1 : cL oTup (lCons (eAt "told" (eVar "k")) (lCons (eAt "told" (ePlus "k" 1)) lNil)) (upd (hid [".0", "k"] σ) "k" (.int (k : Int))) H' = some (.ref H'.length, H' ++ [.tup [.int (pAt told k).1, .int (pAt told k).2]]) := by
        rw [cL_ev (l2_ev (eat_ev (k := k) v1 (var_ev v3) (lget_list (hp _ _ k1)) hlim (av_get a1)) (eat_ev (k := k + 1) v1 (plus_ev v3) (lget_list (hp _ _ k1)) hlim (av_get a2))), tup_ev (by show 2 ≤ 1000; omega)]
      refine ⟨H' ++ [.tup [.int (pAt told k).1, .int (pAt told k).2]], asB_ev ?_, Pre.app _ _⟩
      rw [c2_ev e1 (var_ev v2)]
      have hpre := hp.trans (Pre.app H' [AO.tup [.int (pAt told k).1, .int (pAt told k).2]])
      have q1 : pairOf (H' ++ [AO.tup [.int (pAt told k).1, .int (pAt told k).2]]) (.ref H'.length) = some (pAt told k) := by simp [pairOf, tget]
      have q2 : (lget (H' ++ [AO.tup [.int (pAt told k).1, .int (pAt told k).2]]) (.ref st)).bind (pairsOf (H' ++ [AO.tup [.int (pAt told k).1, .int (pAt told k).2]])) = some steps := by
        rw [lget_list (hpre _ _ k2), Option.bind_some]
        exact tups_pairs (tups_mono T hpre)
      unfold oNotIn
      simp only [q1, q2]
      simp)
  exact ⟨n, H', e, p, g⟩
end Mine

namespace Mine
open PySem PyProof.Rows

theorem wseq_next {f : AS} {g : AW} {σ σ' : Sg} {H H' : AH} (h : f σ H = some (.next, σ', H')) : wSeq f g σ H = g σ' H' := by simp [wSeq, h]
theorem wseq_ret {f : AS} {g : AW} {σ σ' : Sg} {H H' : AH} {v : AV} (h : f σ H = some (.ret v, σ', H')) : wSeq f g σ H = some v := by simp [wSeq, h]
theorem wtry_ret {y cn : String} {g : AL} {ps : List String} {f hd : AS} {rest : AW} {σ σ' : Sg} {H H₁ H' : AH} {l : List AV} {v : AV} (hg : g σ H = some (l, H₁)) (hl : l.length = ps.length) (hf : f (argσ ps l fun _ => none) H₁ = some (.ret v, σ', H')) :
    wTry y cn g ps f hd rest σ H = rest (upd σ y v) H' := by simp [wTry, hg, hl, hf]
theorem wtry_exc {y cn : String} {g : AL} {ps : List String} {f hd : AS} {rest : AW} {σ σ' σ'' : Sg} {H H₁ H' H'' : AH} {l : List AV} {v : AV} (hg : g σ H = some (l, H₁)) (hl : l.length = ps.length) (hf : f (argσ ps l fun _ => none) H₁ = some (.exc, σ', H'))
    (hh : hd (keepCount σ cn) [] = some (.ret v, σ'', H'')) : wTry y cn g ps f hd rest σ H = some v := by simp [wTry, hg, hl, hf, hh]
theorem seq_ret {f g : AS} {σ σ' : Sg} {H H' : AH} {v : AV} (h : f σ H = some (.ret v, σ', H')) : sSeq f g σ H = some (.ret v, σ', H') := by simp [sSeq, h]

/-- what stands when the merge has answered -/
structure LS (σ : Sg) (H : AH) (ns : List Int) (N : Int) (R st t : Nat) (rs ts : List Nat) (rows : List (List Int)) (told : List Int) : Prop where
  s0 : σ "script" = some (.ref 0)
  s1 : σ "rows" = some (.ref R)
  s2 : σ "steps" = some (.ref st)
  s3 : σ "count" = some (.int N)
  s4 : σ "told" = some (.ref t)
  k0 : H[0]? = some (.ro (avInts ns))
  k1 : H[R]? = some (.list (refs rs))
  rw' : RowsAt H rs rows
  k2 : H[st]? = some (.list (refs ts))
  tp : TupsAt H ts (stepsOf rows)
  k4 : H[t]? = some (.list (avInts told))

theorem LS.pre {σ : Sg} {H H' : AH} {ns : List Int} {N : Int} {R st t : Nat} {rs ts : List Nat} {rows : List (List Int)} {told : List Int} (L : LS σ H ns N R st t rs ts rows told) (p : Pre H H') : LS σ H' ns N R st t rs ts rows told :=
  ⟨L.s0, L.s1, L.s2, L.s3, L.s4, p _ _ L.k0, p _ _ L.k1, rows_mono L.rw' fun r _ o e => p _ _ e, p _ _ L.k2, tups_mono L.tp p, p _ _ L.k4⟩
theorem LS.upd {σ : Sg} {H : AH} {ns : List Int} {N : Int} {R st t : Nat} {rs ts : List Nat} {rows : List (List Int)} {told : List Int} (L : LS σ H ns N R st t rs ts rows told) (y : String) (v : AV) (h : ["script", "rows", "steps", "count", "told"].contains y = false) :
    LS (upd σ y v) H ns N R st t rs ts rows told := by
  simp at h
  obtain ⟨h0, h1, h2, h3, h4⟩ := h
  exact ⟨by rw [upd_ne (Ne.symm h0)]; exact L.s0, by rw [upd_ne (Ne.symm h1)]; exact L.s1, by rw [upd_ne (Ne.symm h2)]; exact L.s2, by rw [upd_ne (Ne.symm h3)]; exact L.s3, by rw [upd_ne (Ne.symm h4)]; exact L.s4,
    L.k0, L.k1, L.rw', L.k2, L.tp, L.k4⟩

section
variable {σ : Sg} {H : AH} {ns : List Int} {N : Int} {R st t : Nat} {rs ts : List Nat} {rows : List (List Int)} {told : List Int}

theorem bkeeps_ev {x : String} {o : Nat} {ord : List Int} (L : LS σ H ns N R st t rs ts rows told) (hx : σ x = some (.ref o)) (ho : H[o]? = some (.list (avInts ord))) (h6 : ord.length ≤ 6) (hg : ∀ row ∈ rows, ord.filter (fun x => decide (x ∈ row)) = row) :
    ∃ H', bKeeps x σ H = some (false, H') ∧ Pre H H' := by
  obtain ⟨H', e, p⟩ := keeps_spec ho h6 L.k1 L.rw' hg
  refine ⟨H', ?_, p⟩
  have e1 : cL oKeeps (lCons (eVar x) (lCons (eVar "rows") lNil)) σ H = some (.bool true, H') := by rw [cL_ev (l2_ev (var_ev hx) (var_ev L.s1)), e]
  unfold bKeeps bNot
  rw [c1_ev e1]
  rfl

theorem or3_f {f g h : AB} {σ : Sg} {H H₁ H₂ H₃ : AH} (h1 : f σ H = some (false, H₁)) (h2 : g σ H₁ = some (false, H₂)) (h3 : h σ H₂ = some (false, H₃)) : bOr [f, g, h] σ H = some (false, H₃) := by simp [bOr, h1, h2, h3]

/-- the first look at the answer -/
theorem look1 (L : LS σ H ns N R st t rs ts rows told) (hp : told.Perm L6) (hs : ∀ s ∈ rows, s.Sublist told) (hN : N ≠ 0) :
    ∃ H', bOr [asB (c2 oEq (eVar "count") (eInt 0)), asB (c2 oNe (cL oSorted (lCons (eVar "told") lNil)) (cL oList (lInts [0, 1, 2, 3, 4, 5]))), bKeeps "told"] σ H = some (false, H') ∧ Pre H H' := by
  have nd : told.Nodup := hp.nodup_iff.mpr (by decide)
  have h6 : told.length = 6 := hp.length_eq
  have e1 := eq_ev (var_ev (H := H) L.s3) (int_ev (i := 0))
  rw [decide_eq_false hN] at e1
  have hso : isort told = [0, 1, 2, 3, 4, 5] := sorted_unique ((isort_perm told).trans hp) (isort_sorted told) (by decide)
  have e2 : cL oSorted (lCons (eVar "told") lNil) σ H = some (.ref H.length, H ++ [.list (avInts [0, 1, 2, 3, 4, 5])]) := by
    rw [cL_ev (l1_ev (var_ev L.s4))]
    simp only [oSorted, lget_list L.k4, Option.bind_some, ints_av]
    rw [if_pos (by omega), hso]
  have e3 : cL oList (lInts [0, 1, 2, 3, 4, 5]) σ (H ++ [.list (avInts [0, 1, 2, 3, 4, 5])]) = some (.ref (H.length + 1), H ++ [.list (avInts [0, 1, 2, 3, 4, 5])] ++ [.list (avInts [0, 1, 2, 3, 4, 5])]) := by
    rw [cL_ev (lInts_ev _), list_ev (by decide)]; simp
  have e4 := lne_ev e2 e3 (xs := [0, 1, 2, 3, 4, 5]) (ys := [0, 1, 2, 3, 4, 5]) (Pre.app _ _ _ _ (get_new _ _ _)) (by simp)
  have p : Pre H (H ++ [AO.list (avInts [0, 1, 2, 3, 4, 5])] ++ [AO.list (avInts [0, 1, 2, 3, 4, 5])]) := (Pre.app _ _).trans (Pre.app _ _)
  obtain ⟨H', e5, p5⟩ := bkeeps_ev (L.pre p) L.s4 (p _ _ L.k4) (by omega) fun row hr => filter_sub nd (hs row hr)
  exact ⟨H', or3_f e1 (asB_ev e4) e5, p.trans p5⟩

theorem loose_eq {x : String} {n : Nat} {ls : List Int} (hx : σ x = some (.ref n)) (k : H[n]? = some (.list (avInts ls))) : c2 oEq (eVar x) (cL oList lNil) σ H = some (.bool (decide (ls = [])), H ++ [.list (avInts [])]) := by
  have e : cL oList lNil σ H = some (.ref H.length, H ++ [.list (avInts [])]) := by rw [cL_ev (rfl : lNil _ _ = some ([], H)), list_ev (by decide)]; rfl
  exact leq_ev (var_ev hx) e (Pre.app _ _ _ _ k) (get_new _ _ _)

/-- a merge as a call -/
theorem omerge_ev {H₀ : AH} {q : Nat} {seqs : List (List Int)} (g : Good H₀ seqs (fC3 (argσ ["sequences"] [.ref q] fun _ => none) H)) (hv : ∃ l : List Int, l.Nodup ∧ ∀ s ∈ seqs, s.Sublist l) :
    ∃ n H' r, oMerge [.ref q] H = some (.ref n, H') ∧ Pre H₀ H' ∧ H'[n]? = some (.list (avInts r)) ∧ r.Nodup ∧ (∀ v ∈ r, v ∈ L6) ∧ (∀ s ∈ seqs, s.Sublist r) ∧ ∀ v ∈ r, ∃ s ∈ seqs, v ∈ s := by
  rcases g with ⟨n, σ', H', r, e, g⟩ | ⟨σ', H', e, g⟩
  · exact ⟨n, H', r, fn_ret rfl e, g⟩
  · exact absurd hv g

/-- the rows turned round -/
theorem end_rev (L : LS σ H ns N R st t rs ts rows told) (ok : OKRows rows) (hn : rows.length ≤ 20) (hp : told.Perm L6) (hs : ∀ s ∈ rows, s.Sublist told) (hc : ∀ a b, (a, b) ∈ told.zip told.tail → (a, b) ∈ stepsOf rows) :
    ∃ H', c2 oEq (cL oMerge (lCons eRevs lNil)) (c2 oRev (eVar "told") (c1 oNeg (eInt 1))) σ H = some (.bool true, H') := by
  have nd : told.Nodup := hp.nodup_iff.mpr (by decide)
  have h6 : told.length = 6 := hp.length_eq
  have hl : ∀ row ∈ rows, row.length ≤ 6 := fun row hr => len6 (ok.nd row hr) (ok.mem row hr)
  obtain ⟨q, H₁, rs', e1, p1, k1, R1, nd1, b1, b2⟩ := revs_ev L.s1 L.k1 L.rw' hl hn
  have g := merge_spec (H₀ := H) k1 R1 nd1 (fun hm => Nat.lt_irrefl _ (b1 _ hm).2) (fun r hr => (b1 r hr).1) p1 (fun s hs' v hv => by
    obtain ⟨row, hr, rfl⟩ := List.mem_map.mp hs'
    exact ok.mem row hr v (by simpa using hv)) (fun s hs' => by
    obtain ⟨row, hr, rfl⟩ := List.mem_map.mp hs'
    simpa using hl row hr) (by simp; omega)
  obtain ⟨n, H₂, r, e2, p2, k2, ndr, r6, hsub, hcov⟩ := omerge_ev g ⟨told.reverse, (List.reverse_perm told).nodup_iff.mpr nd, fun s hs' => by
    obtain ⟨row, hr, rfl⟩ := List.mem_map.mp hs'
    exact (hs row hr).reverse⟩
  have hsub' : ∀ row ∈ rows, row.Sublist r.reverse := fun row hr => by
    have := (hsub _ (List.mem_map.mpr ⟨row, hr, rfl⟩)).reverse
    rwa [List.reverse_reverse] at this
  have ndr' : r.reverse.Nodup := (List.reverse_perm r).nodup_iff.mpr ndr
  have hpr : r.reverse.Perm L6 := perm6 ndr' fun v => ⟨fun hv => r6 v (by simpa using hv), fun hv => by
    obtain ⟨row, hr, hin⟩ := ok.cov v hv
    exact (hsub' row hr).subset hin⟩
  have heq : r.reverse = told := chain_unique hp hpr hc (resp_of ndr' hsub')
  have hr : r = told.reverse := by rw [← heq, List.reverse_reverse]
  have e3 : cL oMerge (lCons eRevs lNil) σ H = some (.ref n, H₂) := by rw [cL_ev (l1_ev e1)]; exact e2
  have e4 := rev_ev (σ := σ) (H := H₂) L.s4 (lget_list (p2 _ _ L.k4)) (by rw [av_len, hLIM]; omega)
  have e5 := leq_ev e3 e4 (xs := r) (ys := told.reverse) (Pre.app _ _ _ _ k2) (by simp [avInts])
  rw [decide_eq_true hr] at e5
  exact ⟨_, e5⟩

/-- the other order -/
theorem end_other {o : Nat} {other : List Int} (L : LS σ H ns N R st t rs ts rows told) (ok : OKRows rows) (hn : rows.length ≤ 20) (hx : σ "other" = some (.ref o)) (ko : H[o]? = some (.list (avInts other))) (hp : other.Perm L6) (hs : ∀ s ∈ rows, s.Sublist other) :
    ∃ H', c2 oEq (cL oMerge (lCons (c2 oAdd (cL oList (lCons (cL oCopy (lCons (eVar "other") lNil)) lNil)) eCopies) lNil)) (eVar "other") σ H = some (.bool true, H') := by
  have nd : other.Nodup := hp.nodup_iff.mpr (by decide)
  have h6 : other.length = 6 := hp.length_eq
  have hl : ∀ row ∈ rows, row.length ≤ 6 := fun row hr => len6 (ok.nd row hr) (ok.mem row hr)
  have hlim : (avInts other).length ≤ LIM := by rw [av_len, hLIM]; omega
  have e1 : cL oCopy (lCons (eVar "other") lNil) σ H = some (.ref H.length, H ++ [.list (avInts other)]) := by
    rw [cL_ev (l1_ev (var_ev hx))]
    simp only [oCopy, lget_list ko, if_pos hlim]
  have e2 : cL oList (lCons (cL oCopy (lCons (eVar "other") lNil)) lNil) σ H = some (.ref (H.length + 1), H ++ [.list (avInts other)] ++ [.list (refs [H.length])]) := by
    rw [cL_ev (l1_ev e1), list_ev (by show 1 ≤ 1000; omega)]; simp
  have p0 : Pre H (H ++ [AO.list (avInts other)] ++ [AO.list (refs [H.length])]) := (Pre.app _ _).trans (Pre.app _ _)
  obtain ⟨q, H₁, rs', e3, p1, k1, R1, nd1, b1, b2⟩ := copies_ev (H := H ++ [AO.list (avInts other)] ++ [AO.list (refs [H.length])]) L.s1 (p0 _ _ L.k1) (rows_mono L.rw' fun r _ o e => p0 _ _ e) hl hn
  have kc : H₁[H.length + 1]? = some (.list (refs [H.length])) := p1 _ _ (by simp)
  have kd : H₁[H.length]? = some (.list (avInts other)) := p1 _ _ (Pre.app _ _ _ _ (get_new _ _ _))
  have hlr := rows_len R1
  have e4 := ladd_ev e2 e3 kc k1 (by rw [hLIM]; simp [refs]; omega)
  have e4' : c2 oAdd (cL oList (lCons (cL oCopy (lCons (eVar "other") lNil)) lNil)) eCopies σ H = some (.ref H₁.length, H₁ ++ [.list (refs (H.length :: rs'))]) := by rw [e4]; simp [refs]
  have R2 : RowsAt (H₁ ++ [AO.list (refs (H.length :: rs'))]) (H.length :: rs') (other :: rows) := .cons (Pre.app _ _ _ _ kd) (rows_mono R1 fun r _ o e => Pre.app _ _ _ _ e)
  have hb : ∀ r ∈ rs', H.length + 2 ≤ r ∧ r < q := fun r hr => by
    have := b1 r hr
    simpa using this
  have lq := (List.getElem?_eq_some_iff.mp k1).1
  have lH := (List.getElem?_eq_some_iff.mp kd).1
  have g := merge_spec (H₀ := H) (get_new H₁ [] (AO.list (refs (H.length :: rs')))) R2 (List.nodup_cons.mpr ⟨fun hm => by have := (hb _ hm).1; omega, nd1⟩) (fun hm => by
    rcases List.mem_cons.mp hm with h | h
    · omega
    · have := (hb _ h).2; omega) (fun r hr => by
    rcases List.mem_cons.mp hr with rfl | h
    · exact Nat.le_refl _
    · have := (hb _ h).1; omega) (p0.trans (p1.trans (Pre.app _ _))) (fun s hs' v hv => by
    rcases List.mem_cons.mp hs' with rfl | h
    · exact hp.mem_iff.mp hv
    · exact ok.mem s h v hv) (fun s hs' => by
    rcases List.mem_cons.mp hs' with rfl | h
    · omega
    · exact hl s h) (by simp; omega)
  obtain ⟨n, H₂, r, e5, p2, k2, ndr, r6, hsub, hcov⟩ := omerge_ev g ⟨other, nd, fun s hs' => by
    rcases List.mem_cons.mp hs' with rfl | h
    · exact List.Sublist.refl _
    · exact hs s h⟩
  have hr : r = other := by
    have h1 := hsub other (by simp)
    have h2 := len6 ndr r6
    exact (h1.eq_of_length_le (by omega)).symm
  have e6 : cL oMerge (lCons (c2 oAdd (cL oList (lCons (cL oCopy (lCons (eVar "other") lNil)) lNil)) eCopies) lNil) σ H = some (.ref n, H₂) := by rw [cL_ev (l1_ev e4')]; exact e5
  have e7 := leq_ev e6 (var_ev hx) (xs := r) (ys := other) k2 (p2 _ _ ko)
  rw [decide_eq_true hr] at e7
  exact ⟨_, e7⟩

theorem split2 {l : List Int} {j : Nat} (h : j + 1 < l.length) : l = l.take j ++ l[j] :: l[j + 1] :: l.drop (j + 2) := by
  have h1 : l.drop j = l[j] :: l.drop (j + 1) := List.drop_eq_getElem_cons (by omega)
  have h2 : l.drop (j + 1) = l[j + 1] :: l.drop (j + 1 + 1) := List.drop_eq_getElem_cons h
  rw [← h2, ← h1, List.take_append_drop]

theorem rest_spec {W : Nat → Int} (L : LS σ H ns (W 63) R st t rs ts rows told) (hns : ns.length ≤ 63) (ok : OKRows rows) (hn : rows.length ≤ 20) (hp : told.Perm L6) (hs : ∀ s ∈ rows, s.Sublist told) (hW : Rec (stepsOf rows) W) :
    ∃ σ' H', fRest σ H = some (.ret (.bool true), σ', H') := by
  have nd : told.Nodup := hp.nodup_iff.mpr (by decide)
  have h6 : told.length = 6 := hp.length_eq
  have hr := resp_of nd hs
  have hm := perm_mask hp
  have hl6 : ∀ v ∈ told, v ∈ L6 := fun v hv => hp.mem_iff.mp hv
  have hc1 := hW.c1 nd hl6 hr
  rw [hm] at hc1
  obtain ⟨H₁, e1, p1⟩ := look1 L hp hs (by omega)
  have L1 := L.pre p1
  obtain ⟨lo, H₂, e2, p2, klo⟩ := loose_ev L1.s4 L1.s2 L1.k4 h6 L1.k2 L1.tp
  have L2 := (L1.pre p2).upd "loose" (.ref lo) (by decide)
  have vlo : (upd σ "loose" (.ref lo)) "loose" = some (.ref lo) := upd_eq _ _ _
  generalize hls : (([0, 1, 2, 3, 4] : List Int).filter fun y => !decide (pAt told y.toNat ∈ stepsOf rows)) = ls at klo
  have e3 := loose_eq vlo klo
  -- loose is empty when and only when there is one order
  have hone : decide (W 63 = 1) = decide (ls = []) := by
    by_cases hls0 : ls = []
    · rw [decide_eq_true hls0, decide_eq_true_eq]
      have hchain : ∀ a b, (a, b) ∈ told.zip told.tail → (a, b) ∈ stepsOf rows := fun a b hab => by
        obtain ⟨p, q, e⟩ := zip_tail_split hab
        have hj : p.length + 1 < told.length := by rw [e]; simp
        have hin : (p.length : Int) ∉ ls := by rw [hls0]; simp
        rw [← hls, List.mem_filter] at hin
        have hmem : (p.length : Int) ∈ ([0, 1, 2, 3, 4] : List Int) := by
          have : p.length = 0 ∨ p.length = 1 ∨ p.length = 2 ∨ p.length = 3 ∨ p.length = 4 := by omega
          rcases this with h | h | h | h | h <;> rw [h] <;> decide
        have : pAt told p.length ∈ stepsOf rows := Classical.byContradiction fun hnot => hin ⟨hmem, by simpa using hnot⟩
        have hpa : pAt told p.length = (a, b) := by rw [e]; simp [pAt]
        rwa [hpa] at this
      have := hW.c2 _ told rfl nd hl6 hr hchain
      rwa [hm] at this
    · rw [decide_eq_false hls0, decide_eq_false_iff_not]
      obtain ⟨y, hy⟩ := List.exists_mem_of_ne_nil _ hls0
      rw [← hls, List.mem_filter] at hy
      obtain ⟨j, hj, rfl⟩ : ∃ j : Nat, j < 5 ∧ y = j := by
        have := hy.1
        simp only [List.mem_cons, List.not_mem_nil, or_false] at this
        rcases this with rfl | rfl | rfl | rfl | rfl
        · exact ⟨0, by decide, rfl⟩
        · exact ⟨1, by decide, rfl⟩
        · exact ⟨2, by decide, rfl⟩
        · exact ⟨3, by decide, rfl⟩
        · exact ⟨4, by decide, rfl⟩
      have hsp := split2 (l := told) (j := j) (by omega)
      have hnot : (told[j], told[j + 1]) ∉ stepsOf rows := by
        have := hy.2
        simpa [pAt, show j < told.length by omega, show j + 1 < told.length by omega] using this
      have nd' := nd; rw [hsp] at nd'
      have hr' := hr; rw [hsp] at hr'
      have hl' := hl6; rw [hsp] at hl'
      have h2 := hW.c3 nd' hl' hr' (swap_resp nd' hr' hnot)
      rw [← hsp, hm] at h2
      omega
  have e4 : c2 oNe (c2 oEq (eVar "count") (eInt 1)) (c2 oEq (eVar "loose") (cL oList lNil)) (upd σ "loose" (.ref lo)) H₂ = some (.bool false, H₂ ++ [.list (avInts [])]) := by
    have a1 : c2 oEq (eVar "count") (eInt 1) (upd σ "loose" (.ref lo)) H₂ = some (.bool (decide (W 63 = 1)), H₂) := by rw [c2_ev (var_ev L2.s3) int_ev]; rfl
    rw [c2_ev a1 e3, hone]
    show some (AV.bool (decide (ls = []) != decide (ls = [])), _) = _
    simp
  have L3 := L2.pre (Pre.app H₂ [AO.list (avInts [])])
  have klo3 := Pre.app H₂ [AO.list (avInts [])] _ _ klo
  have e5 := asB_ev (loose_eq vlo klo3)
  have L4 := L3.pre (Pre.app _ [AO.list (avInts [])])
  have klo4 := Pre.app _ [AO.list (avInts [])] _ _ klo3
  by_cases hls0 : ls = []
  · rw [decide_eq_true hls0] at e5
    have hchain : ∀ a b, (a, b) ∈ told.zip told.tail → (a, b) ∈ stepsOf rows := fun a b hab => by
      obtain ⟨p, q, e⟩ := zip_tail_split hab
      have hj : p.length + 1 < told.length := by rw [e]; simp
      have hin : (p.length : Int) ∉ ls := by rw [hls0]; simp
      rw [← hls, List.mem_filter] at hin
      have hmem : (p.length : Int) ∈ ([0, 1, 2, 3, 4] : List Int) := by
        have : p.length = 0 ∨ p.length = 1 ∨ p.length = 2 ∨ p.length = 3 ∨ p.length = 4 := by omega
        rcases this with h | h | h | h | h <;> rw [h] <;> decide
      have : pAt told p.length ∈ stepsOf rows := Classical.byContradiction fun hnot => hin ⟨hmem, by simpa using hnot⟩
      have hpa : pAt told p.length = (a, b) := by rw [e]; simp [pAt]
      rwa [hpa] at this
    obtain ⟨H₅, e6⟩ := end_rev L4 ok hn hp hs hchain
    refine ⟨upd σ "loose" (.ref lo), H₅, ?_⟩
    unfold fRest
    refine (seq_next ((if_f e1).trans rfl)).trans ((seq_next (asg_ev e2)).trans ((seq_next ((if_f (asB_ev e4)).trans rfl)).trans (seq_ret ((if_t e5).trans (seq_ret (ret_ev e6))))))
  · rw [decide_eq_false hls0] at e5
    have hpos : 0 < ls.length := List.length_pos_iff.mpr hls0
    have hls5 : ls.length ≤ 5 := by rw [← hls]; exact List.length_filter_le _ _
    obtain ⟨i, hi, ei⟩ := fmod_idx (x := ns.sum) hpos
    have hy : ls[i] ∈ ls := List.getElem_mem hi
    generalize hyv : ls[i] = y at hy
    have hy' := hy
    rw [← hls, List.mem_filter] at hy'
    obtain ⟨j, hj, rfl⟩ : ∃ j : Nat, j < 5 ∧ y = j := by
      have := hy'.1
      simp only [List.mem_cons, List.not_mem_nil, or_false] at this
      rcases this with rfl | rfl | rfl | rfl | rfl
      · exact ⟨0, by decide, rfl⟩
      · exact ⟨1, by decide, rfl⟩
      · exact ⟨2, by decide, rfl⟩
      · exact ⟨3, by decide, rfl⟩
      · exact ⟨4, by decide, rfl⟩
    have hsp := split2 (l := told) (j := j) (by omega)
    have hnot : (told[j], told[j + 1]) ∉ stepsOf rows := by
      have := hy'.2
      simpa [pAt, show j < told.length by omega, show j + 1 < told.length by omega] using this
    have nd' := nd; rw [hsp] at nd'
    have hr' := hr; rw [hsp] at hr'
    have hro := swap_resp nd' hr' hnot
    have hpo : (told.take j ++ told[j + 1] :: told[j] :: told.drop (j + 2)).Perm L6 := by
      refine List.Perm.trans ?_ hp
      have := List.Perm.append_left (told.take j) (List.Perm.swap told[j] told[j + 1] (told.drop (j + 2)))
      exact this.trans (by rw [← hsp])
    have hso := valid_of_resp ok hpo hro
    have hneq : told.take j ++ told[j + 1] :: told[j] :: told.drop (j + 2) ≠ told := fun h => by
      have h2 := h.trans hsp
      have h3 := List.append_cancel_left h2
      have h4 := (List.cons.inj h3).1
      have := (List.getElem_inj nd).mp h4
      omega
    -- k = loose[...]
    have e6 : eAt "loose" (c2 oMod (eSum "script") (eLen "loose")) (upd σ "loose" (.ref lo)) (H₂ ++ [.list (avInts [])] ++ [.list (avInts [])]) = some (.int (j : Int), H₂ ++ [.list (avInts [])] ++ [.list (avInts [])]) := by
      refine eat_ev (k := i) vlo ?_ (lget_list klo4) (by rw [av_len, hLIM]; omega) (av_get (by simp [hi, hyv]))
      rw [mod_ev (sum_ev L4.s0 (lget_ro L4.k0)) (len_ev vlo (lget_list klo4) (by rw [av_len, hLIM]; omega)) (by rw [av_len]; omega), av_len, ei]
    have L5 := L4.upd "k" (.int (j : Int)) (by decide)
    have vk : (upd (upd σ "loose" (.ref lo)) "k" (.int (j : Int))) "k" = some (.int (j : Int)) := upd_eq _ _ _
    generalize hH : H₂ ++ [AO.list (avInts [])] ++ [AO.list (avInts [])] = K at *
    generalize hσ : upd (upd σ "loose" (.ref lo)) "k" (.int (j : Int)) = τ at *
    have hlim : (avInts told).length ≤ LIM := by rw [av_len, hLIM]; omega
    have pj : partOf (.int (j : Int)) = some (some j) := by simp [partOf]
    have pj2 : partOf (.int ((j : Int) + 2)) = some (some (j + 2)) := by
      have h0 : (0 : Int) ≤ (j : Int) + 2 := by omega
      have h1 : ((j : Int) + 2).toNat = j + 2 := by omega
      simp only [partOf, if_pos h0, h1]
    -- other
    have o1 : c3 oSlice (eVar "told") eNone (eVar "k") τ K = some (.ref K.length, K ++ [.list (avInts (told.take j))]) := by
      rw [slice_ev L5.s4 none_ev (var_ev vk) (lget_list L5.k4) rfl pj hlim]
      simp [cut, avInts, List.map_take]
    have kt1 := Pre.app K [AO.list (avInts (told.take j))] _ _ L5.k4
    have o2 : cL oList (lCons (eAt "told" (ePlus "k" 1)) (lCons (eAt "told" (eVar "k")) lNil)) τ (K ++ [.list (avInts (told.take j))]) = some (.ref (K.length + 1), K ++ [.list (avInts (told.take j))] ++ [.list (avInts [told[j + 1], told[j]])]) := by
      rw [cL_ev (l2_ev (eat_ev (k := j + 1) L5.s4 (plus_ev vk) (lget_list kt1) hlim (av_get (v := told[j + 1]) (by simp [show j + 1 < told.length by omega]))) (eat_ev (k := j) L5.s4 (var_ev vk) (lget_list kt1) hlim (av_get (v := told[j]) (by simp [show j < told.length by omega])))), list_ev (by show 2 ≤ 1000; omega)]
      simp [avInts]
    have o3 := ladd_ev o1 o2 (xs := avInts (told.take j)) (ys := avInts [told[j + 1], told[j]]) (Pre.app _ _ _ _ (get_new _ _ _)) (by simp) (by rw [hLIM, av_len, av_len, List.length_take]; simp; omega)
    generalize hK2 : K ++ [AO.list (avInts (told.take j))] ++ [AO.list (avInts [told[j + 1], told[j]])] = K₂ at *
    have pK2 : Pre K K₂ := by rw [← hK2]; exact (Pre.app _ _).trans (Pre.app _ _)
    have kt2 := Pre.app K₂ [AO.list (avInts (told.take j) ++ avInts [told[j + 1], told[j]])] _ _ (pK2 _ _ L5.k4)
    have o4 : c3 oSlice (eVar "told") (ePlus "k" 2) eNone τ (K₂ ++ [.list (avInts (told.take j) ++ avInts [told[j + 1], told[j]])]) = some (.ref (K₂.length + 1), K₂ ++ [.list (avInts (told.take j) ++ avInts [told[j + 1], told[j]])] ++ [.list (avInts (told.drop (j + 2)))]) := by
      rw [slice_ev L5.s4 (plus_ev vk) none_ev (lget_list kt2) pj2 rfl hlim]
      simp [cut, avInts, List.map_drop]
    have o5 := ladd_ev o3 o4 (xs := avInts (told.take j) ++ avInts [told[j + 1], told[j]]) (ys := avInts (told.drop (j + 2))) (Pre.app _ _ _ _ (get_new _ _ _)) (by simp) (by
      rw [hLIM, List.length_append, av_len, av_len, av_len, List.length_take, List.length_drop]; simp; omega)
    have hother : avInts (told.take j) ++ avInts [told[j + 1], told[j]] ++ avInts (told.drop (j + 2)) = avInts (told.take j ++ told[j + 1] :: told[j] :: told.drop (j + 2)) := by simp [avInts]
    rw [hother] at o5
    generalize told.take j ++ told[j + 1] :: told[j] :: told.drop (j + 2) = other at *
    obtain ⟨o, K₃, o6, ko, pK3⟩ : ∃ o K₃, c2 oAdd (c2 oAdd (c3 oSlice (eVar "told") eNone (eVar "k")) (cL oList (lCons (eAt "told" (ePlus "k" 1)) (lCons (eAt "told" (eVar "k")) lNil)))) (c3 oSlice (eVar "told") (ePlus "k" 2) eNone) τ K = some (.ref o, K₃) ∧ K₃[o]? = some (.list (avInts other)) ∧ Pre K K₃ :=
      ⟨_, _, o5, get_new _ _ _, pK2.trans ((Pre.app _ _).trans ((Pre.app _ _).trans (Pre.app _ _)))⟩
    have L6' := (L5.pre pK3).upd "other" (.ref o) (by decide)
    have vo : (upd τ "other" (.ref o)) "other" = some (.ref o) := upd_eq _ _ _
    have c1e := leq_ev (var_ev (H := K₃) vo) (var_ev L6'.s4) ko L6'.k4
    rw [decide_eq_false hneq] at c1e
    obtain ⟨K₄, c2e, pK4⟩ := bkeeps_ev L6' vo ko (Nat.le_of_eq hpo.length_eq) fun row hrow => filter_sub (hpo.nodup_iff.mpr (by decide)) (hso row hrow)
    obtain ⟨K₅, fin⟩ := end_other (L6'.pre pK4) ok hn vo (pK4 _ _ ko) hpo hso
    refine ⟨upd τ "other" (.ref o), K₅, ?_⟩
    unfold fRest
    refine (seq_next ((if_f e1).trans rfl)).trans ((seq_next (asg_ev e2)).trans ((seq_next ((if_f (asB_ev e4)).trans rfl)).trans ((seq_next (σ' := upd σ "loose" (.ref lo)) (H' := K) ((if_f e5).trans rfl)).trans ((seq_next (σ' := τ) (asg_ev e6 |>.trans (by rw [hσ]))).trans ((seq_next (asg_ev o6)).trans
      ((seq_next ((if_f (or2_f (asB_ev c1e) c2e)).trans rfl)).trans (seq_ret (ret_ev fin))))))))
end
end Mine

namespace Mine
open PySem PyProof.Rows

theorem law_true (ns : List Int) (hns : ns.length ≤ 63) : fLaw (argσ ["script"] [.ref 0] fun _ => none) [.ro (avInts ns)] = some (.bool true) := by
  have k0 : ([AO.ro (avInts ns)] : AH)[0]? = some (.ro (avInts ns)) := rfl
  have s0 : (argσ ["script"] [AV.ref 0] fun _ => none) "script" = some (.ref 0) := by simp [argσ, upd]
  generalize hH : ([AO.ro (avInts ns)] : AH) = H at *
  generalize hσ : (argσ ["script"] [AV.ref 0] fun _ => none) = σ at *
  obtain ⟨R, H₁, rs, rows, e1, p1, kR, Rr, ok, hn⟩ := rows_spec k0 hns
  have hl : ∀ row ∈ rows, row.length ≤ 6 ∧ row ≠ [] := fun row hr => ⟨len6 (ok.nd row hr) (ok.mem row hr), ok.ne row hr⟩
  have f1 : cL oRows (lCons (eVar "script") lNil) σ H = some (.ref R, H₁) := by rw [cL_ev (l1_ev (var_ev s0))]; exact e1
  obtain ⟨st, H₂, ts, e2, p2, kst, T⟩ := steps_ev (σ := upd σ "rows" (.ref R)) (upd_eq _ _ _) kR Rr hl hn
  have hrng : ∀ a b, (a, b) ∈ stepsOf rows → a ∈ L6 ∧ b ∈ L6 := fun a b hab => by
    obtain ⟨row, hr, hz⟩ := List.mem_flatMap.mp hab
    obtain ⟨p, q, e⟩ := zip_tail_split hz
    exact ⟨ok.mem row hr a (by rw [e]; simp), ok.mem row hr b (by rw [e]; simp)⟩
  obtain ⟨W, H₃, e3, p3, hW⟩ := count_spec kst T hrng
  have f3 : cL oCount (lCons (eVar "steps") lNil) (upd (upd σ "rows" (.ref R)) "steps" (.ref st)) H₂ = some (.int (W 63), H₃) := by rw [cL_ev (l1_ev (var_ev (upd_eq _ _ _)))]; exact e3
  have v1 : (upd (upd (upd σ "rows" (.ref R)) "steps" (.ref st)) "count" (.int (W 63))) "rows" = some (.ref R) := by rw [upd_ne (by decide), upd_ne (by decide)]; exact upd_eq _ _ _
  have p13 := p2.trans p3
  have R3 := rows_mono Rr fun r _ o e => p13 _ _ e
  obtain ⟨q, H₄, rs', e4, p4, kq, R4, nd4, b4, _⟩ := copies_ev (σ := upd (upd (upd σ "rows" (.ref R)) "steps" (.ref st)) "count" (.int (W 63))) v1 (p13 _ _ kR) R3 (fun row hr => (hl row hr).1) hn
  have g := merge_spec (H₀ := H₃) kq R4 nd4 (fun hm => Nat.lt_irrefl _ (b4 _ hm).2) (fun r hr => (b4 r hr).1) p4 ok.mem (fun s hs => (hl s hs).1) (by omega)
  have hd : fLaw σ H = wTry "told" "count" (lCons eCopies lNil) ["sequences"] fC3 (sSeq (sRet (c2 oEq (eVar "count") (eInt 0))) sNil) (wSeq fRest fun _ _ => none) (upd (upd (upd σ "rows" (.ref R)) "steps" (.ref st)) "count" (.int (W 63))) H₃ := by
    unfold fLaw
    exact (wseq_next (asg_ev f1)).trans ((wseq_next (asg_ev e2)).trans (wseq_next (asg_ev f3)))
  rw [hd]
  rcases g with ⟨t, σ', H₅, told, e5, p5, kt, nd, h6, hsub, hcov⟩ | ⟨σ', H₅, e5, hno⟩
  · have hp : told.Perm L6 := perm6 nd fun v => ⟨h6 v, fun hv => by
      obtain ⟨row, hr, hin⟩ := ok.cov v hv
      exact (hsub row hr).subset hin⟩
    have hp05 : Pre H H₅ := p1.trans (p13.trans p5)
    have L : LS (upd (upd (upd (upd σ "rows" (.ref R)) "steps" (.ref st)) "count" (.int (W 63))) "told" (.ref t)) H₅ ns (W 63) R st t rs ts rows told := by
      refine ⟨?_, ?_, ?_, ?_, upd_eq _ _ _, hp05 _ _ k0, p5 _ _ (p13 _ _ kR), rows_mono R3 fun r _ o e => p5 _ _ e, p5 _ _ (p3 _ _ kst), tups_mono T (p3.trans p5), kt⟩
      · rw [upd_ne (by decide), upd_ne (by decide), upd_ne (by decide), upd_ne (by decide)]; exact s0
      · rw [upd_ne (by decide)]; exact v1
      · rw [upd_ne (by decide), upd_ne (by decide)]; exact upd_eq _ _ _
      · rw [upd_ne (by decide)]; exact upd_eq _ _ _
    obtain ⟨σ'', H₆, e6⟩ := rest_spec L hns ok hn hp hsub hW
    rw [wtry_ret (l1_ev e4) rfl e5, wseq_ret e6]
  · have hz : W 63 = 0 := Classical.byContradiction fun hne => by
      obtain ⟨l, ndl, hl6, hmk, hr⟩ := hW.c0 63 (by decide) hne
      exact hno ⟨l, ndl, valid_of_resp ok (mask63 ndl hl6 hmk) hr⟩
    have hk : keepCount (upd (upd (upd σ "rows" (.ref R)) "steps" (.ref st)) "count" (.int (W 63))) "count" "count" = some (.int (W 63)) := by simp [keepCount, upd]
    have e6 : c2 oEq (eVar "count") (eInt 0) (keepCount (upd (upd (upd σ "rows" (.ref R)) "steps" (.ref st)) "count" (.int (W 63))) "count") [] = some (.bool true, []) := by
      rw [c2_ev (var_ev hk) int_ev]
      show some (AV.bool (decide (W 63 = 0)), ([] : AH)) = _
      rw [decide_eq_true hz]
    exact wtry_exc (l1_ev e4) rfl e5 (seq_ret (ret_ev e6))
end Mine

namespace Mine
open PySem PyProof.Rows PySem.W

section
variable {env : Env}
theorem bn_len (h : env.kindOf (Str.ofString "len") = some .globalImplicit) : BName env "len" (.builtin "len") := ⟨h, by simp, PyProof.Rows.Boot.«len», by decide, by decide⟩
theorem bn_sum (h : env.kindOf (Str.ofString "sum") = some .globalImplicit) : BName env "sum" (.builtin "sum") := ⟨h, by simp, PyProof.Rows.Boot.«sum», by decide, by decide⟩
theorem bn_sorted (h : env.kindOf (Str.ofString "sorted") = some .globalImplicit) : BName env "sorted" (.builtin "sorted") := ⟨h, by simp, PyProof.Rows.Boot.«sorted», by decide, by decide⟩
theorem bn_list (h : env.kindOf (Str.ofString "list") = some .globalImplicit) : BName env "list" (.type "list") := ⟨h, by simp, PyProof.Rows.Boot.«list», by decide, by decide⟩
theorem bn_range (h : env.kindOf (Str.ofString "range") = some .globalImplicit) : BName env "range" (.type "range") := ⟨h, by simp, PyProof.Rows.Boot.«range», by decide, by decide⟩
theorem bn_rt (h : env.kindOf (Str.ofString "RuntimeError") = some .globalImplicit) : BName env "RuntimeError" (.type "RuntimeError") := ⟨h, by simp, PyProof.Rows.Boot.«RuntimeError», by decide, by decide⟩
end

/-- a function of the program, as its callers know it -/
structure Callee (c : Cx) (fn : String) (n : Nat) (o : List AV → AH → Option (AV × AH)) : Prop where
  ex : ∃ fa fo fd, c.mg (Str.ofString fn) = some (.ref fa) ∧ c.B.get? fa = some fo ∧ fo.data = .func fd ∧ ∀ A, AOk A n → SimO c A VsR VR (fun vs => call (.ref fa) vs) o

theorem r_callN {c : Cx} {A : Around} {env : Env} {n : Nat} {fn : String} {e : Expr} {r : List Expr} {p1 pos : Pos} {g : AL} {o : List AV → AH → Option (AV × AH)} (G : Glo c) (K : Callee c fn n o) (hA : AOk A n)
    (hk : env.kindOf (Str.ofString fn) = some .globalImplicit) (hd : (Str.ofString fn == ("__debug__" : Str)) = false)
    (he : starEach (e :: r) env = (false, eval e env) :: starEach r env) (hg : SimL c A env pos (e :: r) g) : SimE c A env (.Call (.Name (Str.ofString fn) p1) (e :: r) [] pos) (cL o g) := by
  intro σ H v H' ρ s Q E h F R P
  obtain ⟨⟨l, H₁⟩, e1, h'⟩ := Option.bind_eq_some_iff.mp h
  obtain ⟨fa, fo, fd, hgl, hfo, hdat, ho⟩ := K.ex
  rw [eval_CallN]
  refine wpAny_bind (fun_name G F R ⟨hk, hgl, hd⟩ ?_)
  refine PyProof.Rows.callWith_def hdat ?_ he
  refine hg σ H l H₁ ρ s _ E e1 F R fun ρ₁ h₁ tk₁ vs S₁ R₁ V₁ => ?_
  exact ⟨R₁.base _ _ hfo, ho A hA _ _ _ _ _ _ _ _ _ h' R₁ V₁ (P.step S₁)⟩

theorem callee_of {c : Cx} {name : String} {fa : Addr} {params : Arguments} {body : List Stmt} {scope : Scope} {ps : List String} {n : Nat} {f : AS} (G : Glo c) (K : FnOk c name fa params body scope ps)
    (hb : ∀ (A : Around) (L : Addr) (cd : Value), AOk A n → EnvB c (fnEnv (Str.ofString name) scope L fa cd) → SimS c A (fnEnv (Str.ofString name) scope L fa cd) body f) : Callee c name (n + 1) (fnF ps f) := by
  obtain ⟨fo, pm, cd, doc, hfo, hdat, hcd⟩ := K.fn.ex
  exact ⟨fa, fo, _, K.fn.glob, hfo, hdat, fun A hA => s_call G K hA hb⟩

structure MOk (A : Around) : Prop where
  u64 : A.units + 64 < cLine
theorem AOk.marked {A : Around} {n : Nat} (h : AOk A n) (v : Option Value) : MOk (A.mark v) := ⟨h.u64⟩

theorem d1 {c : Cx} {A : Around} {n : Nat} {L fa : Addr} {cd : Value} (G : Glo c) (hA : AOk A n) (B : EnvB c (fnEnv (Str.ofString "_c3_merge") (scopeOf (nthS 1)) L fa cd)) :
    SimS c A (fnEnv (Str.ofString "_c3_merge") (scopeOf (nthS 1)) L fa cd) (bodyOf (nthS 1)) fC3 :=
  (x_seq (x_asg B (.inl (by kernel_rfl)) (by kernel_rfl) (r_list r_nil))
  (x_seq (x_while 100 (r_val (fun _ _ _ _ _ h => wpAny_isTrue_value h) r_bool) (x_seq (x_asgc (by kernel_rfl) (fun _ => (by kernel_rfl)) ⟨rfl, by decide, by decide, rfl, by kernel_rfl, by first | exact .inl ⟨rfl, by kernel_rfl⟩ | exact .inr ⟨rfl, by kernel_rfl⟩⟩ B (by kernel_rfl) (by kernel_rfl) (by kernel_rfl) (i_list hA.hand (r_var (.inl (by kernel_rfl)) (by kernel_rfl) (by kernel_rfl))) (cb_one (fun _ _ => (ts_one (r_val (fun _ _ _ _ _ h => wpAny_isTrue_value h) (r_var (.inl (by kernel_rfl)) (by kernel_rfl) (by kernel_rfl))))) (fun _ _ => (r_var (.inl (by kernel_rfl)) (by kernel_rfl) (by kernel_rfl)))))
  (x_seq (x_if (r_not (r_val (fun _ _ _ _ _ h => wpAny_isTrue_value h) (r_var (.inl (by kernel_rfl)) (by kernel_rfl) (by kernel_rfl)))) (x_seq (x_ret (r_var (.inl (by kernel_rfl)) (by kernel_rfl) (by kernel_rfl)))
  x_nil) x_nil)
  (x_seq (x_for (fun _ => (by kernel_rfl)) (i_list hA.hand (r_var (.inl (by kernel_rfl)) (by kernel_rfl) (by kernel_rfl))) (a_name B (.inl (by kernel_rfl))) (x_seq (x_asg B (.inl (by kernel_rfl)) (by kernel_rfl) (r_idx (fun _ _ => by rfl) (r_var (.inl (by kernel_rfl)) (by kernel_rfl) (by kernel_rfl)) r_int))
  (x_seq (x_for (fun _ => (by kernel_rfl)) (i_list hA.hand (r_var (.inl (by kernel_rfl)) (by kernel_rfl) (by kernel_rfl))) (a_name B (.inl (by kernel_rfl))) (x_seq (x_if (r_cmpT s_in (by kernel_rfl) (r_var (.inl (by kernel_rfl)) (by kernel_rfl) (by kernel_rfl)) (r_slice (fun _ _ => (by kernel_rfl)) (r_var (.inl (by kernel_rfl)) (by kernel_rfl) (by kernel_rfl)) (r_psome r_int) r_pnone)) (x_seq (x_asg B (.inl (by kernel_rfl)) (by kernel_rfl) r_none)
  (x_seq x_brk
  x_nil)) x_nil)
  x_nil) (x_seq x_brk
  x_nil))
  x_nil)) x_nil)
  (x_seq (x_if (r_cmpT s_is (by kernel_rfl) (r_var (.inl (by kernel_rfl)) (by kernel_rfl) (by kernel_rfl)) r_none) (x_seq (x_raise G (bn_rt (by kernel_rfl)) hA.hand (by rfl))
  x_nil) x_nil)
  (x_seq (x_app (by rfl) (by kernel_rfl) (by rfl) (by rfl) (r_var (.inl (by kernel_rfl)) (by kernel_rfl) (by kernel_rfl)) (r_var (.inl (by kernel_rfl)) (by kernel_rfl) (by kernel_rfl)))
  (x_seq (x_for (fun _ => (by kernel_rfl)) (i_list hA.hand (r_var (.inl (by kernel_rfl)) (by kernel_rfl) (by kernel_rfl))) (a_name B (.inl (by kernel_rfl))) (x_seq (x_if (r_cmpT (s_eq hA.u64) (by kernel_rfl) (r_idx (fun _ _ => by rfl) (r_var (.inl (by kernel_rfl)) (by kernel_rfl) (by kernel_rfl)) r_int) (r_var (.inl (by kernel_rfl)) (by kernel_rfl) (by kernel_rfl))) (x_seq (x_del (r_var (.inl (by kernel_rfl)) (by kernel_rfl) (by kernel_rfl)) r_int)
  x_nil) x_nil)
  x_nil) x_nil)
  x_nil)))))))
  x_nil))

theorem d3 {c : Cx} {A : Around} {n : Nat} {L fa : Addr} {cd : Value} (G : Glo c) (hA : AOk A n) (B : EnvB c (fnEnv (Str.ofString "_law_order") (scopeOf (nthS 3)) L fa cd)) :
    SimS c A (fnEnv (Str.ofString "_law_order") (scopeOf (nthS 3)) L fa cd) (bodyOf (nthS 3)) fOrder :=
  (x_seq (x_asg B (.inl (by kernel_rfl)) (by kernel_rfl) (r_list (r_cons (by rfl) r_int (r_cons (by rfl) r_int (r_cons (by rfl) r_int (r_cons (by rfl) r_int (r_cons (by rfl) r_int (r_cons (by rfl) r_int r_nil))))))))
  (x_seq (x_asg B (.inr (by kernel_rfl)) (by kernel_rfl) (r_list r_nil))
  (x_seq (x_for (fun _ => (by kernel_rfl)) (i_tup hA.hand (r_tup (r_cons (by rfl) r_int (r_cons (by rfl) r_int (r_cons (by rfl) r_int (r_cons (by rfl) r_int (r_cons (by rfl) r_int (r_cons (by rfl) r_int r_nil)))))))) (a_name B (.inl (by kernel_rfl))) (x_seq (x_app (by rfl) (by kernel_rfl) (by rfl) (by rfl) (r_var (.inr (.inl (by kernel_rfl))) (by kernel_rfl) (by kernel_rfl)) (r_idx (fun _ _ => by rfl) (r_var (.inl (by kernel_rfl)) (by kernel_rfl) (by kernel_rfl)) (r_bin s_mod (r_var (.inl (by kernel_rfl)) (by kernel_rfl) (by kernel_rfl)) (r_var (.inl (by kernel_rfl)) (by kernel_rfl) (by kernel_rfl)))))
  (x_seq (x_asgc (by kernel_rfl) (fun _ => (by kernel_rfl)) ⟨rfl, by decide, by decide, rfl, by kernel_rfl, by first | exact .inl ⟨rfl, by kernel_rfl⟩ | exact .inr ⟨rfl, by kernel_rfl⟩⟩ B (by kernel_rfl) (by kernel_rfl) (by kernel_rfl) (i_list hA.hand (r_var (.inl (by kernel_rfl)) (by kernel_rfl) (by kernel_rfl))) (cb_one (fun _ _ => (ts_one (r_cmpT (s_ne hA.u64) (by kernel_rfl) (r_var (.inl (by kernel_rfl)) (by kernel_rfl) (by kernel_rfl)) (r_idx (fun _ _ => by rfl) (r_var (.inr (.inl (by kernel_rfl))) (by kernel_rfl) (by kernel_rfl)) (r_neg r_int))))) (fun _ _ => (r_var (.inl (by kernel_rfl)) (by kernel_rfl) (by kernel_rfl)))))
  (x_seq (x_asg B (.inl (by kernel_rfl)) (by kernel_rfl) (r_bin s_div (r_var (.inl (by kernel_rfl)) (by kernel_rfl) (by kernel_rfl)) (r_var (.inl (by kernel_rfl)) (by kernel_rfl) (by kernel_rfl))))
  x_nil))) x_nil)
  (x_seq (x_ret (r_var (.inr (.inl (by kernel_rfl))) (by kernel_rfl) (by kernel_rfl)))
  x_nil))))

theorem d4 {c : Cx} {A : Around} {n : Nat} {L fa : Addr} {cd : Value} (G : Glo c) (KO : Callee c "_law_order" n oOrder) (hA : AOk A n) (B : EnvB c (fnEnv (Str.ofString "_law_rows") (scopeOf (nthS 4)) L fa cd)) :
    SimS c A (fnEnv (Str.ofString "_law_rows") (scopeOf (nthS 4)) L fa cd) (bodyOf (nthS 4)) fRows :=
  (x_seq (x_asg B (.inl (by kernel_rfl)) (by kernel_rfl) (r_callN G KO hA (by kernel_rfl) (by kernel_rfl) (by rfl) (r_cons (by rfl) (r_callB G (bn_sum (by kernel_rfl)) (by rfl) (by rfl) (s_sum hA.hand) (r_cons (by rfl) (r_var (.inl (by kernel_rfl)) (by kernel_rfl) (by kernel_rfl)) r_nil)) r_nil)))
  (x_seq (x_asg B (.inl (by kernel_rfl)) (by kernel_rfl) (r_list (r_cons (by rfl) (r_list (r_cons (by rfl) (r_idx (fun _ _ => by rfl) (r_var (.inl (by kernel_rfl)) (by kernel_rfl) (by kernel_rfl)) r_int) r_nil)) r_nil)))
  (x_seq (x_for (fun _ => (by kernel_rfl)) (i_range G (bn_range (by kernel_rfl)) hA.hand (by rfl) r_int) (a_name B (.inl (by kernel_rfl))) (x_seq (x_if (r_and ⟨(r_cmpT s_lt (by kernel_rfl) (r_var (.inl (by kernel_rfl)) (by kernel_rfl) (by kernel_rfl)) (r_callB G (bn_len (by kernel_rfl)) (by rfl) (by rfl) s_len (r_cons (by rfl) (r_var (.inl (by kernel_rfl)) (by kernel_rfl) (by kernel_rfl)) r_nil))), (r_cmpT (s_eq hA.u64) (by kernel_rfl) (r_bin s_mod (r_idx (fun _ _ => by rfl) (r_var (.inl (by kernel_rfl)) (by kernel_rfl) (by kernel_rfl)) (r_var (.inl (by kernel_rfl)) (by kernel_rfl) (by kernel_rfl))) r_int) r_int), trivial⟩) (x_seq (x_app (by rfl) (by kernel_rfl) (by rfl) (by rfl) (r_var (.inl (by kernel_rfl)) (by kernel_rfl) (by kernel_rfl)) (r_list (r_cons (by rfl) (r_idx (fun _ _ => by rfl) (r_var (.inl (by kernel_rfl)) (by kernel_rfl) (by kernel_rfl)) (r_bin s_add (r_var (.inl (by kernel_rfl)) (by kernel_rfl) (by kernel_rfl)) r_int)) r_nil)))
  x_nil) (x_seq (x_asg B (.inl (by kernel_rfl)) (by kernel_rfl) (r_idx (fun _ _ => by rfl) (r_var (.inl (by kernel_rfl)) (by kernel_rfl) (by kernel_rfl)) (r_neg r_int)))
  (x_seq (x_app (by rfl) (by kernel_rfl) (by rfl) (by rfl) (r_var (.inl (by kernel_rfl)) (by kernel_rfl) (by kernel_rfl)) (r_idx (fun _ _ => by rfl) (r_var (.inl (by kernel_rfl)) (by kernel_rfl) (by kernel_rfl)) (r_bin s_add (r_var (.inl (by kernel_rfl)) (by kernel_rfl) (by kernel_rfl)) r_int)))
  x_nil)))
  x_nil) x_nil)
  (x_seq (x_for (fun _ => (by kernel_rfl)) (i_list hA.hand (r_slice (fun _ _ => (by kernel_rfl)) (r_var (.inl (by kernel_rfl)) (by kernel_rfl) (by kernel_rfl)) (r_psome r_int) (r_psome r_int))) (a_name B (.inl (by kernel_rfl))) (x_seq (x_asg B (.inl (by kernel_rfl)) (by kernel_rfl) (r_bin s_mod (r_var (.inl (by kernel_rfl)) (by kernel_rfl) (by kernel_rfl)) r_int))
  (x_seq (x_asg B (.inl (by kernel_rfl)) (by kernel_rfl) (r_bin s_mod (r_bin s_div (r_var (.inl (by kernel_rfl)) (by kernel_rfl) (by kernel_rfl)) r_int) r_int))
  (x_seq (x_if (r_or ⟨(r_cmpT s_lt (by kernel_rfl) (r_var (.inl (by kernel_rfl)) (by kernel_rfl) (by kernel_rfl)) (r_var (.inl (by kernel_rfl)) (by kernel_rfl) (by kernel_rfl))), (r_and ⟨(r_cmpT s_gt (by kernel_rfl) (r_var (.inl (by kernel_rfl)) (by kernel_rfl) (by kernel_rfl)) (r_var (.inl (by kernel_rfl)) (by kernel_rfl) (by kernel_rfl))), (r_cmpT (s_eq hA.u64) (by kernel_rfl) (r_bin s_mod (r_bin s_div (r_var (.inl (by kernel_rfl)) (by kernel_rfl) (by kernel_rfl)) r_int) r_int) r_int), trivial⟩), trivial⟩) (x_seq (x_app (by rfl) (by kernel_rfl) (by rfl) (by rfl) (r_var (.inl (by kernel_rfl)) (by kernel_rfl) (by kernel_rfl)) (r_list (r_cons (by rfl) (r_idx (fun _ _ => by rfl) (r_var (.inl (by kernel_rfl)) (by kernel_rfl) (by kernel_rfl)) (r_var (.inl (by kernel_rfl)) (by kernel_rfl) (by kernel_rfl))) (r_cons (by rfl) (r_idx (fun _ _ => by rfl) (r_var (.inl (by kernel_rfl)) (by kernel_rfl) (by kernel_rfl)) (r_var (.inl (by kernel_rfl)) (by kernel_rfl) (by kernel_rfl))) r_nil))))
  x_nil) x_nil)
  (x_seq (x_if (r_and ⟨(r_cmpT s_gt (by kernel_rfl) (r_var (.inl (by kernel_rfl)) (by kernel_rfl) (by kernel_rfl)) (r_var (.inl (by kernel_rfl)) (by kernel_rfl) (by kernel_rfl))), (r_cmpT (s_ne hA.u64) (by kernel_rfl) (r_bin s_mod (r_bin s_div (r_var (.inl (by kernel_rfl)) (by kernel_rfl) (by kernel_rfl)) r_int) r_int) r_int), trivial⟩) (x_seq (x_app (by rfl) (by kernel_rfl) (by rfl) (by rfl) (r_var (.inl (by kernel_rfl)) (by kernel_rfl) (by kernel_rfl)) (r_list (r_cons (by rfl) (r_idx (fun _ _ => by rfl) (r_var (.inl (by kernel_rfl)) (by kernel_rfl) (by kernel_rfl)) (r_var (.inl (by kernel_rfl)) (by kernel_rfl) (by kernel_rfl))) (r_cons (by rfl) (r_idx (fun _ _ => by rfl) (r_var (.inl (by kernel_rfl)) (by kernel_rfl) (by kernel_rfl)) (r_var (.inl (by kernel_rfl)) (by kernel_rfl) (by kernel_rfl))) r_nil))))
  x_nil) x_nil)
  x_nil)))) x_nil)
  (x_seq (x_asg B (.inl (by kernel_rfl)) (by kernel_rfl) (r_bin s_mod (r_callB G (bn_sum (by kernel_rfl)) (by rfl) (by rfl) (s_sum hA.hand) (r_cons (by rfl) (r_var (.inl (by kernel_rfl)) (by kernel_rfl) (by kernel_rfl)) r_nil)) (r_callB G (bn_len (by kernel_rfl)) (by rfl) (by rfl) s_len (r_cons (by rfl) (r_var (.inl (by kernel_rfl)) (by kernel_rfl) (by kernel_rfl)) r_nil))))
  (x_seq (x_ret (r_bin s_add (r_slice (fun _ _ => (by kernel_rfl)) (r_var (.inl (by kernel_rfl)) (by kernel_rfl) (by kernel_rfl)) (r_psome (r_var (.inl (by kernel_rfl)) (by kernel_rfl) (by kernel_rfl))) r_pnone) (r_slice (fun _ _ => (by kernel_rfl)) (r_var (.inl (by kernel_rfl)) (by kernel_rfl) (by kernel_rfl)) r_pnone (r_psome (r_var (.inl (by kernel_rfl)) (by kernel_rfl) (by kernel_rfl))))))
  x_nil))))))

theorem d5 {c : Cx} {A : Around} {n : Nat} {L fa : Addr} {cd : Value} (G : Glo c) (hA : AOk A n) (B : EnvB c (fnEnv (Str.ofString "_law_count") (scopeOf (nthS 5)) L fa cd)) :
    SimS c A (fnEnv (Str.ofString "_law_count") (scopeOf (nthS 5)) L fa cd) (bodyOf (nthS 5)) fCount :=
  (x_seq (x_asg B (.inl (by kernel_rfl)) (by kernel_rfl) (r_bin s_mul (r_list (r_cons (by rfl) r_int r_nil)) r_int))
  (x_seq (x_for (fun _ => (by kernel_rfl)) (i_list hA.hand (r_var (.inl (by kernel_rfl)) (by kernel_rfl) (by kernel_rfl))) (a_tup hA.hand B (.inl (by kernel_rfl)) (.inl (by kernel_rfl))) (x_seq (x_set (by kernel_rfl) (r_bin s_or (r_idx (fun _ _ => by rfl) (r_var (.inl (by kernel_rfl)) (by kernel_rfl) (by kernel_rfl)) (r_var (.inl (by kernel_rfl)) (by kernel_rfl) (by kernel_rfl))) (r_bin s_pow r_int (r_var (.inl (by kernel_rfl)) (by kernel_rfl) (by kernel_rfl)))) (r_var (.inl (by kernel_rfl)) (by kernel_rfl) (by kernel_rfl)) (r_var (.inl (by kernel_rfl)) (by kernel_rfl) (by kernel_rfl)))
  x_nil) x_nil)
  (x_seq (x_asg B (.inl (by kernel_rfl)) (by kernel_rfl) (r_bin s_mul (r_list (r_cons (by rfl) r_int r_nil)) r_int))
  (x_seq (x_set (by kernel_rfl) r_int (r_var (.inl (by kernel_rfl)) (by kernel_rfl) (by kernel_rfl)) r_int)
  (x_seq (x_for (fun _ => (by kernel_rfl)) (i_range G (bn_range (by kernel_rfl)) hA.hand (by rfl) r_int) (a_name B (.inl (by kernel_rfl))) (x_seq (x_if (r_cmpT (s_ne hA.u64) (by kernel_rfl) (r_idx (fun _ _ => by rfl) (r_var (.inl (by kernel_rfl)) (by kernel_rfl) (by kernel_rfl)) (r_var (.inl (by kernel_rfl)) (by kernel_rfl) (by kernel_rfl))) r_int) (x_seq (x_for (fun _ => (by kernel_rfl)) (i_range G (bn_range (by kernel_rfl)) hA.hand (by rfl) r_int) (a_name B (.inl (by kernel_rfl))) (x_seq (x_if (r_and ⟨(r_cmpT (s_eq hA.u64) (by kernel_rfl) (r_bin s_mod (r_bin s_div (r_var (.inl (by kernel_rfl)) (by kernel_rfl) (by kernel_rfl)) (r_bin s_pow r_int (r_var (.inl (by kernel_rfl)) (by kernel_rfl) (by kernel_rfl)))) r_int) r_int), (r_cmpT (s_eq hA.u64) (by kernel_rfl) (r_bin s_and (r_var (.inl (by kernel_rfl)) (by kernel_rfl) (by kernel_rfl)) (r_idx (fun _ _ => by rfl) (r_var (.inl (by kernel_rfl)) (by kernel_rfl) (by kernel_rfl)) (r_var (.inl (by kernel_rfl)) (by kernel_rfl) (by kernel_rfl)))) (r_idx (fun _ _ => by rfl) (r_var (.inl (by kernel_rfl)) (by kernel_rfl) (by kernel_rfl)) (r_var (.inl (by kernel_rfl)) (by kernel_rfl) (by kernel_rfl)))), trivial⟩) (x_seq (x_set (by kernel_rfl) (r_bin s_add (r_idx (fun _ _ => by rfl) (r_var (.inl (by kernel_rfl)) (by kernel_rfl) (by kernel_rfl)) (r_bin s_add (r_var (.inl (by kernel_rfl)) (by kernel_rfl) (by kernel_rfl)) (r_bin s_pow r_int (r_var (.inl (by kernel_rfl)) (by kernel_rfl) (by kernel_rfl))))) (r_idx (fun _ _ => by rfl) (r_var (.inl (by kernel_rfl)) (by kernel_rfl) (by kernel_rfl)) (r_var (.inl (by kernel_rfl)) (by kernel_rfl) (by kernel_rfl)))) (r_var (.inl (by kernel_rfl)) (by kernel_rfl) (by kernel_rfl)) (r_bin s_add (r_var (.inl (by kernel_rfl)) (by kernel_rfl) (by kernel_rfl)) (r_bin s_pow r_int (r_var (.inl (by kernel_rfl)) (by kernel_rfl) (by kernel_rfl)))))
  x_nil) x_nil)
  x_nil) x_nil)
  x_nil) x_nil)
  x_nil) x_nil)
  (x_seq (x_ret (r_idx (fun _ _ => by rfl) (r_var (.inl (by kernel_rfl)) (by kernel_rfl) (by kernel_rfl)) r_int))
  x_nil))))))

theorem d6 {c : Cx} {A : Around} {n : Nat} {L fa : Addr} {cd : Value} (G : Glo c) (hA : AOk A n) (B : EnvB c (fnEnv (Str.ofString "_law_keeps") (scopeOf (nthS 6)) L fa cd)) :
    SimS c A (fnEnv (Str.ofString "_law_keeps") (scopeOf (nthS 6)) L fa cd) (bodyOf (nthS 6)) fKeeps :=
  (x_seq (x_for (fun _ => (by kernel_rfl)) (i_list hA.hand (r_var (.inl (by kernel_rfl)) (by kernel_rfl) (by kernel_rfl))) (a_name B (.inr (by kernel_rfl))) (x_seq (x_if (r_cmpT (s_ne hA.u64) (by kernel_rfl) (r_comp (fun _ => (by kernel_rfl)) ⟨rfl, by decide, by decide, rfl, by kernel_rfl, by first | exact .inl ⟨rfl, by kernel_rfl⟩ | exact .inr ⟨rfl, by kernel_rfl⟩⟩ B (by kernel_rfl) (by kernel_rfl) (i_list hA.hand (r_var (.inl (by kernel_rfl)) (by kernel_rfl) (by kernel_rfl))) (cb_one (fun _ _ => (ts_one (r_cmpT s_in (by kernel_rfl) (r_var (.inl (by kernel_rfl)) (by kernel_rfl) (by kernel_rfl)) (r_var (.inr (.inl (by kernel_rfl))) (by kernel_rfl) (by kernel_rfl))))) (fun _ _ => (r_var (.inl (by kernel_rfl)) (by kernel_rfl) (by kernel_rfl))))) (r_var (.inr (.inl (by kernel_rfl))) (by kernel_rfl) (by kernel_rfl))) (x_seq (x_ret r_bool)
  x_nil) x_nil)
  x_nil) x_nil)
  (x_seq (x_ret r_bool)
  x_nil))

theorem d7 {c : Cx} {A : Around} {n : Nat} {L fa ma : Addr} {cd : Value} (G : Glo c) (KR : Callee c "_law_rows" (n + 1) oRows) (KN : Callee c "_law_count" (n + 1) oCount) (KK : Callee c "_law_keeps" (n + 1) oKeeps) (KM : Callee c "_c3_merge" (n + 1) oMerge)
    (FM : FnOk c "_c3_merge" ma (paramsOf (nthS 1)) (bodyOf (nthS 1)) (scopeOf (nthS 1)) ["sequences"]) (hA : AOk A (n + 1)) (B : EnvB c (fnEnv (Str.ofString "law") (scopeOf (nthS 7)) L fa cd)) (hfr : A.frames = some [(fnEnv (Str.ofString "law") (scopeOf (nthS 7)) L fa cd)]) :
    SimW c A (fnEnv (Str.ofString "law") (scopeOf (nthS 7)) L fa cd) (execs (bodyOf (nthS 7)) (fnEnv (Str.ofString "law") (scopeOf (nthS 7)) L fa cd)) fLaw :=
  (w_seq (x_asg B (.inl (by kernel_rfl)) (by kernel_rfl) (r_callN G KR hA (by kernel_rfl) (by kernel_rfl) (by rfl) (r_cons (by rfl) (r_var (.inl (by kernel_rfl)) (by kernel_rfl) (by kernel_rfl)) r_nil)))
  (w_seq (x_asg B (.inr (by kernel_rfl)) (by kernel_rfl) (r_comp (fun _ => (by kernel_rfl)) ⟨rfl, by decide, by decide, rfl, by kernel_rfl, by first | exact .inl ⟨rfl, by kernel_rfl⟩ | exact .inr ⟨rfl, by kernel_rfl⟩⟩ B (by kernel_rfl) (by kernel_rfl) (i_list hA.hand (r_var (.inl (by kernel_rfl)) (by kernel_rfl) (by kernel_rfl))) (cb_two (by kernel_rfl) (by kernel_rfl) (fun _ _ => (by kernel_rfl)) (fun _ _ => ts_nil) (fun _ _ => (i_range G (bn_range (by kernel_rfl)) hA.hand (by rfl) (r_bin s_sub (r_callB G (bn_len (by kernel_rfl)) (by rfl) (by rfl) s_len (r_cons (by rfl) (r_var (.inl (by kernel_rfl)) (by kernel_rfl) (by kernel_rfl)) r_nil)) r_int))) (fun _ _ => ts_nil) (fun _ _ => (r_tup (r_cons (by rfl) (r_idx (fun _ _ => by rfl) (r_var (.inl (by kernel_rfl)) (by kernel_rfl) (by kernel_rfl)) (r_var (.inl (by kernel_rfl)) (by kernel_rfl) (by kernel_rfl))) (r_cons (by rfl) (r_idx (fun _ _ => by rfl) (r_var (.inl (by kernel_rfl)) (by kernel_rfl) (by kernel_rfl)) (r_bin s_add (r_var (.inl (by kernel_rfl)) (by kernel_rfl) (by kernel_rfl)) r_int)) r_nil)))))))
  (w_seq (x_asg B (.inl (by kernel_rfl)) (by kernel_rfl) (r_callN G KN hA (by kernel_rfl) (by kernel_rfl) (by rfl) (r_cons (by rfl) (r_var (.inr (.inl (by kernel_rfl))) (by kernel_rfl) (by kernel_rfl)) r_nil)))
  (w_try G FM hA hfr (by rfl) B ⟨(by kernel_rfl), FM.fn.glob, (by kernel_rfl)⟩ (bn_rt (by kernel_rfl)) (by kernel_rfl) (by rfl) (.inr (by kernel_rfl)) (by kernel_rfl) (r_cons (by rfl) (r_comp (fun _ => (by kernel_rfl)) ⟨rfl, by decide, by decide, rfl, by kernel_rfl, by first | exact .inl ⟨rfl, by kernel_rfl⟩ | exact .inr ⟨rfl, by kernel_rfl⟩⟩ B (by kernel_rfl) (by kernel_rfl) (i_list hA.hand (r_var (.inl (by kernel_rfl)) (by kernel_rfl) (by kernel_rfl))) (cb_one (fun _ _ => ts_nil) (fun _ _ => (r_callT G (bn_list (by kernel_rfl)) (by rfl) (by rfl) s_copy (r_cons (by rfl) (r_var (.inl (by kernel_rfl)) (by kernel_rfl) (by kernel_rfl)) r_nil))))) r_nil)
  (fun _ _ _ hA B => d1 G hA B)
  (fun _ => have hA := hA.marked _; (x_seq (x_ret (r_cmp (s_eq hA.u64) (by kernel_rfl) (r_var (.inl (by kernel_rfl)) (by kernel_rfl) (by kernel_rfl)) r_int))
  x_nil))
  (w_last (x_seq (x_if (r_or ⟨(r_cmpT (s_eq hA.u64) (by kernel_rfl) (r_var (.inl (by kernel_rfl)) (by kernel_rfl) (by kernel_rfl)) r_int), (r_cmpT (s_ne hA.u64) (by kernel_rfl) (r_callB G (bn_sorted (by kernel_rfl)) (by rfl) (by rfl) s_sorted (r_cons (by rfl) (r_var (.inr (.inl (by kernel_rfl))) (by kernel_rfl) (by kernel_rfl)) r_nil)) (r_list (r_cons (by rfl) r_int (r_cons (by rfl) r_int (r_cons (by rfl) r_int (r_cons (by rfl) r_int (r_cons (by rfl) r_int (r_cons (by rfl) r_int r_nil)))))))), (r_not (r_val (fun _ _ _ _ _ h => wpAny_isTrue_value h) (r_callN G KK hA (by kernel_rfl) (by kernel_rfl) (by rfl) (r_cons (by rfl) (r_var (.inr (.inl (by kernel_rfl))) (by kernel_rfl) (by kernel_rfl)) (r_cons (by rfl) (r_var (.inl (by kernel_rfl)) (by kernel_rfl) (by kernel_rfl)) r_nil))))), trivial⟩) (x_seq (x_ret r_bool)
  x_nil) x_nil)
  (x_seq (x_asgc (by kernel_rfl) (fun _ => (by kernel_rfl)) ⟨rfl, by decide, by decide, rfl, by kernel_rfl, by first | exact .inl ⟨rfl, by kernel_rfl⟩ | exact .inr ⟨rfl, by kernel_rfl⟩⟩ B (by kernel_rfl) (by kernel_rfl) (by kernel_rfl) (i_range G (bn_range (by kernel_rfl)) hA.hand (by rfl) r_int) (cb_one (fun _ _ => (ts_one (r_cmpT (s_notin hA.u64) (by kernel_rfl) (r_tup (r_cons (by rfl) (r_idx (fun _ _ => by rfl) (r_var (.inr (.inl (by kernel_rfl))) (by kernel_rfl) (by kernel_rfl)) (r_var (.inl (by kernel_rfl)) (by kernel_rfl) (by kernel_rfl))) (r_cons (by rfl) (r_idx (fun _ _ => by rfl) (r_var (.inr (.inl (by kernel_rfl))) (by kernel_rfl) (by kernel_rfl)) (r_bin s_add (r_var (.inl (by kernel_rfl)) (by kernel_rfl) (by kernel_rfl)) r_int)) r_nil))) (r_var (.inr (.inl (by kernel_rfl))) (by kernel_rfl) (by kernel_rfl))))) (fun _ _ => (r_var (.inl (by kernel_rfl)) (by kernel_rfl) (by kernel_rfl)))))
  (x_seq (x_if (r_cmpT (s_ne hA.u64) (by kernel_rfl) (r_cmp (s_eq hA.u64) (by kernel_rfl) (r_var (.inl (by kernel_rfl)) (by kernel_rfl) (by kernel_rfl)) r_int) (r_cmp (s_eq hA.u64) (by kernel_rfl) (r_var (.inl (by kernel_rfl)) (by kernel_rfl) (by kernel_rfl)) (r_list r_nil))) (x_seq (x_ret r_bool)
  x_nil) x_nil)
  (x_seq (x_if (r_cmpT (s_eq hA.u64) (by kernel_rfl) (r_var (.inl (by kernel_rfl)) (by kernel_rfl) (by kernel_rfl)) (r_list r_nil)) (x_seq (x_ret (r_cmp (s_eq hA.u64) (by kernel_rfl) (r_callN G KM hA (by kernel_rfl) (by kernel_rfl) (by rfl) (r_cons (by rfl) (r_comp (fun _ => (by kernel_rfl)) ⟨rfl, by decide, by decide, rfl, by kernel_rfl, by first | exact .inl ⟨rfl, by kernel_rfl⟩ | exact .inr ⟨rfl, by kernel_rfl⟩⟩ B (by kernel_rfl) (by kernel_rfl) (i_list hA.hand (r_var (.inl (by kernel_rfl)) (by kernel_rfl) (by kernel_rfl))) (cb_one (fun _ _ => ts_nil) (fun _ _ => (r_rev (fun _ _ => (by kernel_rfl)) (r_var (.inl (by kernel_rfl)) (by kernel_rfl) (by kernel_rfl)) (r_neg r_int))))) r_nil)) (r_rev (fun _ _ => (by kernel_rfl)) (r_var (.inr (.inl (by kernel_rfl))) (by kernel_rfl) (by kernel_rfl)) (r_neg r_int))))
  x_nil) x_nil)
  (x_seq (x_asg B (.inl (by kernel_rfl)) (by kernel_rfl) (r_idx (fun _ _ => by rfl) (r_var (.inl (by kernel_rfl)) (by kernel_rfl) (by kernel_rfl)) (r_bin s_mod (r_callB G (bn_sum (by kernel_rfl)) (by rfl) (by rfl) (s_sum hA.hand) (r_cons (by rfl) (r_var (.inl (by kernel_rfl)) (by kernel_rfl) (by kernel_rfl)) r_nil)) (r_callB G (bn_len (by kernel_rfl)) (by rfl) (by rfl) s_len (r_cons (by rfl) (r_var (.inl (by kernel_rfl)) (by kernel_rfl) (by kernel_rfl)) r_nil)))))
  (x_seq (x_asg B (.inl (by kernel_rfl)) (by kernel_rfl) (r_bin s_add (r_bin s_add (r_slice (fun _ _ => (by kernel_rfl)) (r_var (.inr (.inl (by kernel_rfl))) (by kernel_rfl) (by kernel_rfl)) r_pnone (r_psome (r_var (.inl (by kernel_rfl)) (by kernel_rfl) (by kernel_rfl)))) (r_list (r_cons (by rfl) (r_idx (fun _ _ => by rfl) (r_var (.inr (.inl (by kernel_rfl))) (by kernel_rfl) (by kernel_rfl)) (r_bin s_add (r_var (.inl (by kernel_rfl)) (by kernel_rfl) (by kernel_rfl)) r_int)) (r_cons (by rfl) (r_idx (fun _ _ => by rfl) (r_var (.inr (.inl (by kernel_rfl))) (by kernel_rfl) (by kernel_rfl)) (r_var (.inl (by kernel_rfl)) (by kernel_rfl) (by kernel_rfl))) r_nil)))) (r_slice (fun _ _ => (by kernel_rfl)) (r_var (.inr (.inl (by kernel_rfl))) (by kernel_rfl) (by kernel_rfl)) (r_psome (r_bin s_add (r_var (.inl (by kernel_rfl)) (by kernel_rfl) (by kernel_rfl)) r_int)) r_pnone)))
  (x_seq (x_if (r_or ⟨(r_cmpT (s_eq hA.u64) (by kernel_rfl) (r_var (.inl (by kernel_rfl)) (by kernel_rfl) (by kernel_rfl)) (r_var (.inr (.inl (by kernel_rfl))) (by kernel_rfl) (by kernel_rfl))), (r_not (r_val (fun _ _ _ _ _ h => wpAny_isTrue_value h) (r_callN G KK hA (by kernel_rfl) (by kernel_rfl) (by rfl) (r_cons (by rfl) (r_var (.inl (by kernel_rfl)) (by kernel_rfl) (by kernel_rfl)) (r_cons (by rfl) (r_var (.inl (by kernel_rfl)) (by kernel_rfl) (by kernel_rfl)) r_nil))))), trivial⟩) (x_seq (x_ret r_bool)
  x_nil) x_nil)
  (x_seq (x_ret (r_cmp (s_eq hA.u64) (by kernel_rfl) (r_callN G KM hA (by kernel_rfl) (by kernel_rfl) (by rfl) (r_cons (by rfl) (r_bin s_add (r_list (r_cons (by rfl) (r_callT G (bn_list (by kernel_rfl)) (by rfl) (by rfl) s_copy (r_cons (by rfl) (r_var (.inl (by kernel_rfl)) (by kernel_rfl) (by kernel_rfl)) r_nil)) r_nil)) (r_comp (fun _ => (by kernel_rfl)) ⟨rfl, by decide, by decide, rfl, by kernel_rfl, by first | exact .inl ⟨rfl, by kernel_rfl⟩ | exact .inr ⟨rfl, by kernel_rfl⟩⟩ B (by kernel_rfl) (by kernel_rfl) (i_list hA.hand (r_var (.inl (by kernel_rfl)) (by kernel_rfl) (by kernel_rfl))) (cb_one (fun _ _ => ts_nil) (fun _ _ => (r_callT G (bn_list (by kernel_rfl)) (by rfl) (by rfl) s_copy (r_cons (by rfl) (r_var (.inl (by kernel_rfl)) (by kernel_rfl) (by kernel_rfl)) r_nil)))))) r_nil)) (r_var (.inl (by kernel_rfl)) (by kernel_rfl) (by kernel_rfl))))
  x_nil)))))))))))))
end Mine

namespace Mine
open PySem PyProof.Rows PySem.W

theorem cells_ok {names : List (Str × NameKind)} (h : (names.all fun p => (p.2 != .cell && p.2 != .free) || ((cellsFrom 0 names []).map (·.1)).any (· == p.1)) = true) :
    ∀ L : Addr, ∀ x k, (names.lookup x = some k ∧ (k = .cell ∨ k = .free)) → ((cellsFrom (L + 1) names []).lookup x).isSome = true := by
  rintro L x k ⟨hx, hk⟩
  have h1 := List.all_eq_true.mp h _ (lookup_mem hx)
  simp only [Bool.or_eq_true, Bool.and_eq_true, bne_iff_ne] at h1
  rcases h1 with h1 | h1
  · rcases hk with rfl | rfl
    · exact absurd rfl h1.1
    · exact absurd rfl h1.2
  · rw [cellsFrom_names names 0 (L + 1) [] [] rfl] at h1
    obtain ⟨y, hy, e⟩ := List.any_eq_true.mp h1
    have e' : y = x := beq_iff_eq.mp e
    subst e'
    obtain ⟨p, hp, rfl⟩ := List.mem_map.mp hy
    cases hq : (cellsFrom (L + 1) names []).lookup p.1 with
    | some v => rfl
    | none =>
      have := List.lookup_eq_none_iff.mp hq p hp
      simp at this

/-- the program's functions as the heap knows them -/
def HasFn (c : Cx) (name : String) (i : Nat) : Prop :=
  ∃ a o pm cd doc, c.mg (Str.ofString name) = some (.ref a) ∧ c.B.get? a = some o ∧ o.data = .func (Calls.docDef (Str.ofString name) (paramsOf (nthS i)) (bodyOf (nthS i)) (scopeOf (nthS i)) pm cd doc) ∧ c.B.CodeRec cd (Str.ofString name)

theorem fnok {c : Cx} {name : String} {i : Nat} {ps : List String} (h : HasFn c name i) (hk : (scopeOf (nthS i)).kind = .function) (hco : (scopeOf (nthS i)).isCoroutine = false) (hgen : (scopeOf (nthS i)).isGenerator = false)
    (hps : ∀ p ∈ ps, (scopeOf (nthS i)).names.lookup (Str.ofString p) = some .local)
    (hbind : ∀ (vs : List Value) (pm cd doc : Value), vs.length = ps.length → bindArgs (Calls.docDef (Str.ofString name) (paramsOf (nthS i)) (bodyOf (nthS i)) (scopeOf (nthS i)) pm cd doc) ⟨vs, []⟩ = pure ((ps.map Str.ofString).zip vs))
    (hnd : ((cellsFrom 0 (scopeOf (nthS i)).names []).map (·.1)).Nodup)
    (hc : ((scopeOf (nthS i)).names.all fun p => (p.2 != .cell && p.2 != .free) || ((cellsFrom 0 (scopeOf (nthS i)).names []).map (·.1)).any (· == p.1)) = true) :
    ∃ a, FnOk c name a (paramsOf (nthS i)) (bodyOf (nthS i)) (scopeOf (nthS i)) ps := by
  obtain ⟨a, o, pm, cd, doc, h1, h2, h3, h4⟩ := h
  exact ⟨a, ⟨h1, o, pm, cd, doc, h2, h3, h4⟩, hk, hco, hgen, hps, hbind, hnd, cells_ok hc⟩

theorem one_of {vs : List Value} (h : vs.length = 1) : ∃ v, vs = [v] := by
  match vs, h with
  | [v], _ => exact ⟨v, rfl⟩
theorem two_of {vs : List Value} (h : vs.length = 2) : ∃ v w, vs = [v, w] := by
  match vs, h with
  | [v, w], _ => exact ⟨v, w, rfl⟩

theorem fn1 {c : Cx} (h : HasFn c "_c3_merge" 1) : ∃ a, FnOk c "_c3_merge" a (paramsOf (nthS 1)) (bodyOf (nthS 1)) (scopeOf (nthS 1)) ["sequences"] :=
  fnok h (by kernel_rfl) (by kernel_rfl) (by kernel_rfl) (fun p hp => by rw [List.mem_singleton.mp hp]; kernel_rfl) (fun vs pm cd doc hl => by obtain ⟨v, rfl⟩ := one_of hl; kernel_rfl) (by decide +kernel) (by kernel_rfl)
theorem fn3 {c : Cx} (h : HasFn c "_law_order" 3) : ∃ a, FnOk c "_law_order" a (paramsOf (nthS 3)) (bodyOf (nthS 3)) (scopeOf (nthS 3)) ["x"] :=
  fnok h (by kernel_rfl) (by kernel_rfl) (by kernel_rfl) (fun p hp => by rw [List.mem_singleton.mp hp]; kernel_rfl) (fun vs pm cd doc hl => by obtain ⟨v, rfl⟩ := one_of hl; kernel_rfl) (by decide +kernel) (by kernel_rfl)
theorem fn4 {c : Cx} (h : HasFn c "_law_rows" 4) : ∃ a, FnOk c "_law_rows" a (paramsOf (nthS 4)) (bodyOf (nthS 4)) (scopeOf (nthS 4)) ["script"] :=
  fnok h (by kernel_rfl) (by kernel_rfl) (by kernel_rfl) (fun p hp => by rw [List.mem_singleton.mp hp]; kernel_rfl) (fun vs pm cd doc hl => by obtain ⟨v, rfl⟩ := one_of hl; kernel_rfl) (by decide +kernel) (by kernel_rfl)
theorem fn5 {c : Cx} (h : HasFn c "_law_count" 5) : ∃ a, FnOk c "_law_count" a (paramsOf (nthS 5)) (bodyOf (nthS 5)) (scopeOf (nthS 5)) ["steps"] :=
  fnok h (by kernel_rfl) (by kernel_rfl) (by kernel_rfl) (fun p hp => by rw [List.mem_singleton.mp hp]; kernel_rfl) (fun vs pm cd doc hl => by obtain ⟨v, rfl⟩ := one_of hl; kernel_rfl) (by decide +kernel) (by kernel_rfl)
theorem fn6 {c : Cx} (h : HasFn c "_law_keeps" 6) : ∃ a, FnOk c "_law_keeps" a (paramsOf (nthS 6)) (bodyOf (nthS 6)) (scopeOf (nthS 6)) ["order", "rows"] :=
  fnok h (by kernel_rfl) (by kernel_rfl) (by kernel_rfl) (fun p hp => by
    rcases List.mem_cons.mp hp with rfl | hp
    · kernel_rfl
    · rw [List.mem_singleton.mp hp]; kernel_rfl) (fun vs pm cd doc hl => by obtain ⟨v, w, rfl⟩ := two_of hl; kernel_rfl) (by decide +kernel) (by kernel_rfl)

theorem law_sim {c : Cx} {A : Around} {L fa : Addr} {cd : Value} (G : Glo c) (h1 : HasFn c "_c3_merge" 1) (h3 : HasFn c "_law_order" 3) (h4 : HasFn c "_law_rows" 4) (h5 : HasFn c "_law_count" 5) (h6 : HasFn c "_law_keeps" 6)
    (hA : AOk A 2) (B : EnvB c (fnEnv (Str.ofString "law") (scopeOf (nthS 7)) L fa cd)) (hfr : A.frames = some [fnEnv (Str.ofString "law") (scopeOf (nthS 7)) L fa cd]) :
    SimW c A (fnEnv (Str.ofString "law") (scopeOf (nthS 7)) L fa cd) (execs (bodyOf (nthS 7)) (fnEnv (Str.ofString "law") (scopeOf (nthS 7)) L fa cd)) fLaw := by
  obtain ⟨a1, K1⟩ := fn1 h1
  obtain ⟨a3, K3⟩ := fn3 h3
  obtain ⟨a4, K4⟩ := fn4 h4
  obtain ⟨a5, K5⟩ := fn5 h5
  obtain ⟨a6, K6⟩ := fn6 h6
  have KO : Callee c "_law_order" 1 oOrder := callee_of G K3 fun A L cd hA B => d3 G hA B
  have KR : Callee c "_law_rows" 2 oRows := callee_of G K4 fun A L cd hA B => d4 G KO hA B
  have KN : Callee c "_law_count" 2 oCount := callee_of G K5 fun A L cd hA B => d5 G hA B
  have KK : Callee c "_law_keeps" 2 oKeeps := callee_of G K6 fun A L cd hA B => d6 G hA B
  have KM : Callee c "_c3_merge" 2 oMerge := callee_of G K1 fun A L cd hA B => d1 G hA B
  exact d7 G KR KN KK KM K1 hA B hfr
end Mine

namespace Mine
open PySem PyProof.Rows PySem.W

theorem cells_at {h : Heap} {cm : Str → Option Value} {cs : List (Str × Addr)} {cells : List (Addr × Obj)} (X : CellsAre cm cs cells) : (∀ p ∈ cells, h.get? p.1 = some p.2) → ∀ p ∈ cs, h.IsCell p.2 (cm p.1) ∧ ∃ o, (p.2, o) ∈ cells := by
  induction X with
  | nil => intro _ p hp; cases hp
  | cons hd X ih =>
    intro N p hp
    rcases List.mem_cons.mp hp with rfl | hp
    · exact ⟨⟨_, N _ (.head _), hd⟩, _, .head _⟩
    · obtain ⟨h1, o, h2⟩ := ih (fun q hq => N q (.tail _ hq)) p hp
      exact ⟨h1, o, .tail _ h2⟩

theorem ints_vsr {ρ : List Addr} {vs : List Value} {ns : List Int} (h : IntsAre vs ns) : VsR ρ (avInts ns) vs := by
  induction h with
  | nil => exact .nil
  | cons i t r ih => exact .cons ⟨t, rfl⟩ ih

abbrev lawEnv (L fa : Addr) (cd : Value) : Env := fnEnv (Str.ofString "law") (scopeOf (nthS 7)) L fa cd

theorem join_end {p : Program} {w : World} {A : Around} {s₁ : Shared} {mg mb : Str → Option Value} {l fa : Addr} {cd : Value} {vs : List Value} {ns : List Int} {h₁ : Heap} {tk : Nat} {m cm : Str → Option Value} {cells : List (Addr × Obj)} {Q : Flow → Shared → Prop} {E : Value → Shared → Prop}
    (G : Glo ⟨p, w, s₁.heap, mg, mb⟩) (f1 : HasFn ⟨p, w, s₁.heap, mg, mb⟩ "_c3_merge" 1) (f3 : HasFn ⟨p, w, s₁.heap, mg, mb⟩ "_law_order" 3) (f4 : HasFn ⟨p, w, s₁.heap, mg, mb⟩ "_law_rows" 4) (f5 : HasFn ⟨p, w, s₁.heap, mg, mb⟩ "_law_count" 5)
    (f6 : HasFn ⟨p, w, s₁.heap, mg, mb⟩ "_law_keeps" 6) (hA : AOk A 2) (hfr : A.frames = some [lawEnv s₁.heap.objs.size fa cd]) (F : Fr s₁.heap s₁.heap.objs.size h₁ m) (hm : m (Str.ofString "script") = some (.ref l))
    (N : News s₁.heap s₁.heap.objs.size h₁ cells) (X : CellsAre cm (lawEnv s₁.heap.objs.size fa cd).cells cells) (hL : s₁.heap.IsList l vs.toArray) (hI : IntsAre vs ns)
    (hlaw : fLaw (argσ ["script"] [.ref 0] fun _ => none) [.ro (avInts ns)] = some (.bool true))
    (hQ : ∀ h' tk', (∀ b o, s₁.heap.get? b = some o → h'.get? b = some o) → Q (.ret (.bool true)) { s₁ with heap := h', toks := tk' }) :
    wpAny (model p w) A (execs (bodyOf (nthS 7)) (lawEnv s₁.heap.objs.size fa cd)) Q E { s₁ with heap := h₁, toks := tk } := by
  have NC := cells_at (h := h₁) X fun q hq => (N q hq).1
  have hL₁ : h₁.IsList l vs.toArray := by
    obtain ⟨o, e, r⟩ := hL
    exact ⟨o, F.keep _ _ e, r⟩
  have R : HR s₁.heap [l] [.ro (avInts ns)] h₁ := ⟨F.keep, by simp, rfl, fun n a o e1 e2 => by
    match n, e1, e2 with
    | 0, e1, e2 =>
      cases e1; cases e2
      exact ⟨_, hL₁, ints_vsr (by simpa using hI)⟩
    | n + 1, e1, _ => simp at e1⟩
  have EB : EnvB ⟨p, w, s₁.heap, mg, mb⟩ (lawEnv s₁.heap.objs.size fa cd) := ⟨get_none_size s₁.heap, fun q hq => by
    obtain ⟨_, o, ho⟩ := NC q hq
    exact (N _ ho).2.2⟩
  have hps : (lawEnv s₁.heap.objs.size fa cd).kindOf (Str.ofString "script") = some .local := by kernel_rfl
  have hcs : (lawEnv s₁.heap.objs.size fa cd).cells = [(Str.ofString "told", s₁.heap.objs.size + 1 + 1), (Str.ofString "steps", s₁.heap.objs.size + 1)] := by kernel_rfl
  have FRr : FR (lawEnv s₁.heap.objs.size fa cd) (argσ ["script"] [.ref 0] fun _ => none) [l] h₁ := by
    refine ⟨by kernel_rfl, rfl, rfl, ⟨m, F.ns, fun x v kx sx => ?_⟩, fun x kx => ?_, fun x y q h1 h2 => ?_, fun q hq => ⟨_, (NC q hq).1⟩⟩
    · simp only [argσ, upd] at sx
      split at sx
      · rename_i hx
        subst hx
        cases sx
        exact ⟨_, hm, l, rfl, rfl⟩
      · cases sx
    · obtain ⟨k, hk', hkk⟩ : ∃ k, (scopeOf (nthS 7)).names.lookup (Str.ofString x) = some k ∧ (k = .cell ∨ k = .free) := by
        rcases kx with kx | kx
        · exact ⟨_, kx, .inl rfl⟩
        · exact ⟨_, kx, .inr rfl⟩
      obtain ⟨q, hq⟩ := Option.isSome_iff_exists.mp (cells_ok (names := (scopeOf (nthS 7)).names) (by kernel_rfl) s₁.heap.objs.size _ k ⟨hk', hkk⟩)
      refine ⟨q, _, hq, (NC _ (lookup_mem hq)).1, fun v sv => ?_⟩
      simp only [argσ, upd] at sv
      split at sv
      · rename_i hx
        subst hx
        rw [hps] at kx
        rcases kx with kx | kx <;> cases kx
      · cases sv
    · refine name_of_addr ?_ (lookup_mem h1) (lookup_mem h2)
      rw [hcs]
      simp
  refine wpAny_noRaise ?_
  exact law_sim G f1 f3 f4 f5 f6 hA EB hfr _ _ _ [l] { s₁ with heap := h₁, toks := tk } Q _ PassesOwn.never hlaw FRr R fun ρ' h' tk' cv hb V => by
    have V' : cv = .bool true := V
    subst V'
    exact hQ h' tk' hb
end Mine

namespace Mine
open PySem PyProof.Rows PySem.W

theorem hasfn {p : Program} {w : World} {loose : List Str} {mean : ExcName → Option Value} {mg mb : Str → Option Value} {q : Program} {h : Heap} (T : Top p loose mean mg mb h) {name : String} {i j : Nat} {pos : Pos}
    (hm : (recsOf p)[j]? = some ⟨Str.ofString name, paramsOf (nthS i), bodyOf (nthS i), scopeOf (nthS i), pos⟩) : HasFn ⟨q, w, h, mg, mb⟩ name i := by
  obtain ⟨a, o, pm, cd, doc, h1, h2, h3, h4⟩ := T.fn _ (List.mem_of_getElem? hm)
  exact ⟨a, o, pm, cd, doc, h1, h2, h3, h4⟩

theorem glo_of {p : Program} {w : World} {loose : List Str} {mean : ExcName → Option Value} {mg mb : Str → Option Value} {q : Program} {h : Heap} (T : Top p loose mean mg mb h)
    (hn : ∀ x ∈ (["len", "list", "sum", "sorted", "range", "RuntimeError"] : List String), Str.ofString x ∉ startupNames ∧ Str.ofString x ∉ loose ∧ Str.ofString x ∉ (recsOf p).map (·.name) ∧ Str.ofString x ∉ (litsOf p).map (·.1) ∧ Str.ofString x ∉ (clssOf p loose).map (·.name)) :
    Glo ⟨q, w, h, mg, mb⟩ := ⟨T.g, T.b, T.nolimit, T.builtins, fun x hx => let ⟨h1, h2, h3, h4, h5⟩ := hn x hx; T.free _ h1 h2 h3 h4 h5⟩

def posOf : Stmt → Pos
  | .FunctionDef _ _ _ _ _ _ _ _ _ p => p
  | _ => ⟨0, 0, 0, 0⟩
def recAt (name : String) (i : Nat) : DefRec := ⟨Str.ofString name, paramsOf (nthS i), bodyOf (nthS i), scopeOf (nthS i), posOf (nthS i)⟩

theorem join_all {p q : Program} {w : World} {loose : List Str} {mean : ExcName → Option Value} {s₁ : Shared} {mg mb : Str → Option Value} {l fa : Addr} {cd : Value} {vs : List Value} {ns : List Int} {h₁ : Heap} {tk : Nat} {m cm : Str → Option Value} {cells : List (Addr × Obj)}
    {Q : Flow → Shared → Prop} {E : Value → Shared → Prop} (T : Top p loose mean mg mb s₁.heap) (F : Fr s₁.heap s₁.heap.objs.size h₁ m)
    (N : News s₁.heap s₁.heap.objs.size h₁ cells) (X : CellsAre cm (lawEnv s₁.heap.objs.size fa cd).cells cells) (hL : s₁.heap.IsList l vs.toArray) (hI : IntsAre vs ns) (hlen : ns.length ≤ 63)
    (hlaw : ∀ ns : List Int, ns.length ≤ 63 → fLaw (argσ ["script"] [.ref 0] fun _ => none) [.ro (avInts ns)] = some (.bool true))
    (hm : m (Str.ofString "script") = some (.ref l))
    (hn : ∀ x ∈ (["len", "list", "sum", "sorted", "range", "RuntimeError"] : List String), Str.ofString x ∉ startupNames ∧ Str.ofString x ∉ loose ∧ Str.ofString x ∉ (recsOf p).map (·.name) ∧ Str.ofString x ∉ (litsOf p).map (·.1) ∧ Str.ofString x ∉ (clssOf p loose).map (·.name))
    (f1 : (recsOf p)[0]? = some (recAt "_c3_merge" 1)) (f3 : (recsOf p)[1]? = some (recAt "_law_order" 3)) (f4 : (recsOf p)[2]? = some (recAt "_law_rows" 4)) (f5 : (recsOf p)[3]? = some (recAt "_law_count" 5)) (f6 : (recsOf p)[4]? = some (recAt "_law_keeps" 6))
    (hQ : ∀ h' tk', (∀ b o, s₁.heap.get? b = some o → h'.get? b = some o) → Q (.ret (.bool true)) { s₁ with heap := h', toks := tk' }) :
    wpAny (model q w) (callerA.deeper (lawEnv s₁.heap.objs.size fa cd)) (execs (bodyOf (nthS 7)) (lawEnv s₁.heap.objs.size fa cd)) Q E { s₁ with heap := h₁, toks := tk } :=
  join_end (glo_of T hn) (hasfn T f1) (hasfn T f3) (hasfn T f4) (hasfn T f5) (hasfn T f6) ⟨rfl, (by decide +kernel : callerA.depth + 1 + 2 < recursionLimit), (by decide +kernel : callerA.units + 3 + 3 * 2 + 100 < cLine)⟩ rfl F hm N X hL hI (hlaw ns hlen) hQ
end Mine

open PySem PySem.W PyProof.Rows
set_option maxHeartbeats 8000000
namespace Mine
open_top hd for PySem.Challenge.rw_dw5006_01
end Mine
open Mine
theorem PySem.Challenge.cw_dw5006_01_holds : PySem.Challenge.rw_dw5006_01.Holds := by
  exact Mine.hd (by
    k_go0
    refine join_all (p := Mine.hd.view_39) (by assumption) (by assumption) (by assumption) (by assumption) (by assumption) (by assumption) (by omega) law_true (by kernel_rfl) (by decide +kernel) (by kernel_rfl) (by kernel_rfl) (by kernel_rfl) (by kernel_rfl) (by kernel_rfl) (fun h' tk' hk => ?_)
    exact ⟨.inl ⟨_, .bool true, [], rfl, fun cls => by kernel_rfl, .bool true, by kernel_rfl, fun _ => ⟨List.nodup_nil, fun a ha => by cases ha⟩⟩, hk, rfl, by assumption⟩)
