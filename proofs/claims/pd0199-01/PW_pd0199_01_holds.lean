import PyProof.Rows.All
import Wide.All
import OpenK.AllK
import Wide.FinOn
import Lean
import PySem.Challenge.RW_pd0199_01
open PySem PySem.Calls PyProof.Rows PySem.W
set_option maxRecDepth 100000
set_option linter.all false
set_option Elab.async false
namespace Mine


/-- a value without its token -/
noncomputable def er : Value → Value
  | .int i _ => .int i 0
  | .str s _ => .str s 0
  | .float b _ => .float b 0
  | .bytes b _ => .bytes b 0
  | v => v

theorem er_int {v : Value} {i : Int} {k : Tok} (h : er v = .int i k) : ∃ t, v = .int i t := by
  cases v <;> simp [er] at h; exact ⟨_, by rw [h.1]⟩
theorem er_str {v : Value} {i : Str} {k : Tok} (h : er v = .str i k) : ∃ t, v = .str i t := by
  cases v <;> simp [er] at h; exact ⟨_, by rw [h.1]⟩
theorem er_ref {v : Value} {a : Addr} (h : er v = .ref a) : v = .ref a := by
  cases v <;> simp [er] at h; rw [h]
theorem er_bool {v : Value} {b : Bool} (h : er v = .bool b) : v = .bool b := by
  cases v <;> simp [er] at h; rw [h]
theorem er_none {v : Value} (h : er v = .none) : v = .none := by
  cases v <;> simp [er] at h; rfl
theorem er_type {v : Value} {n : String} (h : er v = .type n) : v = .type n := by
  cases v <;> simp [er] at h; rw [h]
/-! pairs of values by their kinds -/
noncomputable def onII (k : Int → Int → Prop) (z : Prop) : Value → Value → Prop
  | .int i _, .int j _ => k i j
  | _, _ => z
noncomputable def onSS (k : Str → Str → Prop) (z : Prop) : Value → Value → Prop
  | .str x _, .str y _ => k x y
  | _, _ => z
noncomputable def onSI (k : Str → Int → Prop) (z : Prop) : Value → Value → Prop
  | .str x _, .int j _ => k x j
  | _, _ => z
noncomputable def onRR (k : Addr → Addr → Prop) (z : Prop) : Value → Value → Prop
  | .ref x, .ref y => k x y
  | _, _ => z
noncomputable def onR (k : Addr → Prop) : Value → Prop
  | .ref x => k x
  | _ => False
noncomputable def onN (k : Prop) : Value → Prop
  | .none => k
  | _ => False
theorem onII_inv {k : Int → Int → Prop} {z : Prop} {a b : Value} (h : onII k z a b) : (∃ i t j u, a = .int i t ∧ b = .int j u ∧ k i j) ∨ z := by
  unfold onII at h
  split at h
  · exact .inl ⟨_, _, _, _, rfl, rfl, h⟩
  · exact .inr h
theorem onSS_inv {k : Str → Str → Prop} {z : Prop} {a b : Value} (h : onSS k z a b) : (∃ i t j u, a = .str i t ∧ b = .str j u ∧ k i j) ∨ z := by
  unfold onSS at h
  split at h
  · exact .inl ⟨_, _, _, _, rfl, rfl, h⟩
  · exact .inr h
theorem onSI_inv {k : Str → Int → Prop} {z : Prop} {a b : Value} (h : onSI k z a b) : (∃ i t j u, a = .str i t ∧ b = .int j u ∧ k i j) ∨ z := by
  unfold onSI at h
  split at h
  · exact .inl ⟨_, _, _, _, rfl, rfl, h⟩
  · exact .inr h
theorem onRR_inv {k : Addr → Addr → Prop} {z : Prop} {a b : Value} (h : onRR k z a b) : (∃ i j, a = .ref i ∧ b = .ref j ∧ k i j) ∨ z := by
  unfold onRR at h
  split at h
  · exact .inl ⟨_, _, rfl, rfl, h⟩
  · exact .inr h
theorem onR_inv {k : Addr → Prop} {a : Value} (h : onR k a) : ∃ i, a = .ref i ∧ k i := by
  unfold onR at h
  split at h
  · exact ⟨_, rfl, h⟩
  · exact h.elim
theorem onN_inv {k : Prop} {a : Value} (h : onN k a) : a = .none ∧ k := by
  unfold onN at h
  split at h
  · exact ⟨rfl, h⟩
  · exact h.elim
/-- an object as the walk sees it -/
inductive HO where
  | lst (xs : List Value)
  | tup (xs : List Value)
  | dct (es : List (Str × Value)) (ep : Nat)
  | rng (lo : Int) (n : Nat)
  | vals (d : Addr)
  | ns (es : List (Str × Value))
  | raw (o : Obj)
  | slo (C dx : Addr) (sl : List (Option Value))
  | st (S : Str → Bool) (n : Nat)
  | lit (l : Addr) (i : Nat)

abbrev HA := Addr → Option HO
abbrev Ls := List (Option Value)

noncomputable def tupOf (its : Array Value) (n : Nat) : Obj := { cls := .type "tuple", data := .seq its n }

noncomputable def HOk (prog : Program) (w : World) (h : Heap) (a : Addr) : HO → Prop
  | .lst xs => ∃ its n, h.get? a = some (listOf its n) ∧ its.toList.map er = xs
  | .tup xs => ∃ its n, h.get? a = some (tupOf its n) ∧ its.toList.map er = xs
  | .dct es ep => ∃ kvs, h.DictAt (strKind prog w) a kvs ep ∧ kvs.map (fun kv => (kv.1, er kv.2)) = es
  | .rng lo n => (0 ≤ lo ∧ lo ≤ 1048576 ∧ n ≤ 1048576) ∧ ∃ t u v, IsRange h a lo (lo + n) 1 t u v
  | .vals d => h.IsValuesView a d
  | .ns es => ∃ m, h.Ns1 a m ∧ ∀ x, (m x).map er = es.lookup x
  | .raw o => h.get? a = some o
  | .slo C dx sl => ∃ ss : Array (Option Value), h.get? a = some { cls := .ref C, dict := some dx, data := .plain, slots := ss } ∧ ss.toList.map (Option.map er) = sl
  | .st S n => h.SetOf (strKind prog w) a S n
  | .lit l i => h.get? a = some { cls := .type "list_iterator", data := .fields #[.ref l, .int (i : Int) 0] }

theorem HOk.of_keep {prog : Program} {w : World} {h h' : Heap} {a : Addr} {ho : HO} (x : HOk prog w h a ho) (e : ∀ o, h.get? a = some o → h'.get? a = some o) : HOk prog w h' a ho := by
  cases ho with
  | lst xs => obtain ⟨its, n, g, r⟩ := x; exact ⟨its, n, e _ g, r⟩
  | tup xs => obtain ⟨its, n, g, r⟩ := x; exact ⟨its, n, e _ g, r⟩
  | dct es ep => obtain ⟨kvs, ⟨o, es', g, r⟩, r'⟩ := x; exact ⟨kvs, ⟨o, es', e _ g, r⟩, r'⟩
  | rng lo n => obtain ⟨q, t, u, v, g⟩ := x; exact ⟨q, t, u, v, e _ g⟩
  | vals d => obtain ⟨o, g, r⟩ := x; exact ⟨o, e _ g, r⟩
  | ns es => obtain ⟨m, ⟨o, es', ep, g, r⟩, r'⟩ := x; exact ⟨m, ⟨o, es', ep, e _ g, r⟩, r'⟩
  | raw o => exact e _ x
  | slo C dx sl => obtain ⟨ss, g, r⟩ := x; exact ⟨ss, e _ g, r⟩
  | st S n => obtain ⟨o, es, ep, t, g, r⟩ := x; exact ⟨o, es, ep, t, e _ g, r⟩
  | lit l i => exact e _ x
theorem HOk.of_get {prog : Program} {w : World} {h h' : Heap} {a : Addr} {ho : HO} (x : HOk prog w h a ho) (e : h'.get? a = h.get? a) : HOk prog w h' a ho := x.of_keep fun o q => e.trans q
theorem HOk.some {prog : Program} {w : World} {h : Heap} {a : Addr} {ho : HO} (x : HOk prog w h a ho) : ∃ o, h.get? a = some o := by
  cases ho with
  | lst xs => obtain ⟨its, n, g, r⟩ := x; exact ⟨_, g⟩
  | tup xs => obtain ⟨its, n, g, r⟩ := x; exact ⟨_, g⟩
  | dct es ep => obtain ⟨kvs, ⟨o, es', g, r⟩, r'⟩ := x; exact ⟨_, g⟩
  | rng lo n => obtain ⟨q, t, u, v, g⟩ := x; exact ⟨_, g⟩
  | vals d => obtain ⟨o, g, r⟩ := x; exact ⟨_, g⟩
  | ns es => obtain ⟨m, ⟨o, es', ep, g, r⟩, r'⟩ := x; exact ⟨_, g⟩
  | raw o => exact ⟨_, x⟩
  | slo C dx sl => obtain ⟨ss, g, r⟩ := x; exact ⟨_, g⟩
  | st S n => obtain ⟨o, es, ep, t, g, r⟩ := x; exact ⟨_, g⟩
  | lit l i => exact ⟨_, x⟩

/-- where a name's value lies -/
inductive Loc where
  | dict (d : Addr) (x : Str)
  | cell (c : Addr)
noncomputable def Loc.addr : Loc → Addr
  | .dict d _ => d
  | .cell c => c

noncomputable def getL : Ls → Nat → Option Value
  | [], _ => none
  | v :: _, 0 => v
  | _ :: r, i + 1 => getL r i
noncomputable def setL : Ls → Nat → Option Value → Ls
  | [], 0, v => [v]
  | [], i + 1, v => none :: setL [] i v
  | _ :: r, 0, v => v :: r
  | u :: r, i + 1, v => u :: setL r i v
theorem getL_setL : ∀ (L : Ls) (i j : Nat) (v : Option Value), getL (setL L i v) j = if j = i then v else getL L j
  | [], 0, 0, v => rfl
  | [], 0, j + 1, v => by simp [setL, getL]
  | [], i + 1, 0, v => by simp [setL, getL]
  | [], i + 1, j + 1, v => by
    have := getL_setL [] i j v
    simp only [setL, getL, this]
    simp [getL]
  | u :: r, 0, 0, v => by simp [setL, getL]
  | u :: r, 0, j + 1, v => by simp [setL, getL]
  | u :: r, i + 1, 0, v => by simp [setL, getL]
  | u :: r, i + 1, j + 1, v => by
    have := getL_setL r i j v
    simp only [setL, getL, this]
    simp

noncomputable def LocOk (h : Heap) : Loc → Option Value → Prop
  | .dict d x, ov => ∃ m, h.Ns d m ∧ ∀ v, ov = some v → ∃ cv, m x = some cv ∧ er cv = v
  | .cell c, ov => ∃ o cv, h.get? c = some o ∧ o.data = .cell cv ∧ ∀ v, ov = some v → ∃ x, cv = some x ∧ er x = v

structure Ctx where
  prog : Program
  w : World
  A : Around
  P : Heap
  D : Heap
  locs : List Loc

/-- the locals of the frames around: their data stand, their slots may be turned -/
noncomputable def DatOk (C : Ctx) (h : Heap) (H : HA) : Prop := ∀ b o, C.D.get? b = some o → (∃ sl, h.get? b = some { o with slots := sl }) ∧ C.P.get? b = none ∧ H b = none ∧ ∀ l ∈ C.locs, l.addr ≠ b
theorem DatOk.of {C : Ctx} {h h' : Heap} {H H' : HA} (d : DatOk C h H) (k : ∀ b o, C.D.get? b = some o → ∀ x, h.get? b = some x → h'.get? b = some x) (k' : ∀ b o, C.D.get? b = some o → H b = none → H' b = none) : DatOk C h' H' := fun b o e =>
  let ⟨⟨sl, x⟩, p, q, r⟩ := d b o e; ⟨⟨sl, k b o e _ x⟩, p, k' b o e q, r⟩
structure Rep (C : Ctx) (h : Heap) (H : HA) (L : Ls) : Prop where
  keep : ∀ b o, C.P.get? b = some o → h.get? b = some o
  hp : ∀ a ho, H a = some ho → C.P.get? a = none ∧ HOk C.prog C.w h a ho
  loc : ∀ i l, C.locs[i]? = some l → LocOk h l (getL L i)
  lfree : ∀ l ∈ C.locs, C.P.get? l.addr = none ∧ H l.addr = none
  dat : DatOk C h H

/-- the rest of the state stands -/
noncomputable def Oth (s s' : Shared) : Prop := s'.gens = s.gens ∧ s'.drawn = s.drawn ∧ s'.os = s.os
theorem Oth.refl (s : Shared) : Oth s s := ⟨rfl, rfl, rfl⟩
theorem Oth.trans {a b c : Shared} (x : Oth a b) (y : Oth b c) : Oth a c := ⟨y.1.trans x.1, y.2.1.trans x.2.1, y.2.2.trans x.2.2⟩

noncomputable def Post {α : Type} (C : Ctx) (s₀ : Shared) (Q : α → HA → Ls → Prop) (a : α) (s : Shared) : Prop := Oth s₀ s ∧ ∃ H L, Rep C s.heap H L ∧ Q a H L

noncomputable def NoE : Value → Shared → Prop := fun _ _ => False

abbrev W (α : Type) := (α → HA → Ls → Prop) → HA → Ls → Prop

/-- the tree keeps the word: what it gives is read by `e` -/
noncomputable def OkG {α β : Type} (e : α → β) (C : Ctx) (t : Sem α) (x : W β) : Prop :=
  ∀ s H L Q, 0 ≤ s.toks → Rep C s.heap H L → x Q H L → wpAny (model C.prog C.w) C.A t (fun a => Post C s Q (e a)) NoE s
abbrev Ok {α : Type} (C : Ctx) (t : Sem α) (x : W α) : Prop := OkG (fun a => a) C t x
/-- the same of a value, without its token -/
abbrev OkV (C : Ctx) (t : Sem Value) (x : W Value) : Prop := OkG er C t x

section
variable {α β γ δ : Type} {C : Ctx} {e : α → γ} {e' : β → δ}
theorem Post.from {s₀ s₁ : Shared} {Q : α → HA → Ls → Prop} {a : α} {s : Shared} (x : Oth s₀ s₁) (y : Post C s₁ Q a s) : Post C s₀ Q a s := ⟨x.trans y.1, y.2⟩
theorem OkG.pure {a : α} {x : W γ} (h : ∀ Q H L, x Q H L → Q (e a) H L) : OkG e C (Pure.pure a) x := fun s H L Q _ r k => wpAny_pure ⟨Oth.refl s, H, L, r, h Q H L k⟩
theorem OkG.ret (a : α) : OkG e C (Pure.pure a) (fun Q => Q (e a)) := OkG.pure fun _ _ _ h => h
theorem OkG.bind {m : Sem α} {f : α → Sem β} {x : W γ} {y : γ → W δ} (hm : OkG e C m x) (hf : ∀ a, OkG e' C (f a) (y (e a))) : OkG e' C (m >>= f) (fun Q => x fun a => y a Q) :=
  fun s H L Q t r k => wpAny_bind (wpAny_with_toks (n := 0) t (wpAny_mono (hm s H L _ t r k) (fun a s' ⟨o, H', L', r', k'⟩ t' => wpAny_mono (hf a s' H' L' Q t' r' k') (fun b s'' p => p.from o) fun _ _ q => q) fun _ _ q => q.elim))
theorem OkG.weaken {t : Sem α} {x y : W γ} (h : OkG e C t x) (hxy : ∀ Q H L, y Q H L → x Q H L) : OkG e C t y := fun s H L Q tk r k => h s H L Q tk r (hxy Q H L k)
theorem wpAny_post {M : Model} {A : Around} {s : Shared} {Q : γ → HA → Ls → Prop} {m : Sem α} {R : α → Shared → Prop} {E : Value → Shared → Prop} (h : wpAny M A m (fun a => Post C s Q (e a)) NoE s) (k : ∀ a s₁ H L, Oth s s₁ → Rep C s₁.heap H L → Q (e a) H L → R a s₁) : wpAny M A m R E s :=
  wpAny_mono h (fun a s₁ ⟨o, H, L, r, q⟩ => k a s₁ H L o r q) fun _ _ q => q.elim
theorem by_ng {p : Prop} (h : ¬ p → False) : p := Classical.byContradiction h
/-! the steps of the heap -/
theorem Rep.size {h : Heap} {H : HA} {L : Ls} (r : Rep C h H L) {a : Addr} {ho : HO} (e : H a = some ho) : a < h.objs.size :=
  let ⟨_, g⟩ := (r.hp a ho e).2.some; Heap.lt_size g
theorem Rep.fresh {h : Heap} {H : HA} {L : Ls} (r : Rep C h H L) : H h.objs.size = none := by
  cases e : H h.objs.size with
  | none => rfl
  | some ho => exact absurd (r.size e) (Nat.lt_irrefl _)
theorem Rep.pfresh {h : Heap} {H : HA} {L : Ls} (r : Rep C h H L) : C.P.get? h.objs.size = none := by
  cases e : C.P.get? h.objs.size with
  | none => rfl
  | some o => exact absurd (Heap.lt_size (r.keep _ _ e)) (Nat.lt_irrefl _)
theorem LocOk.some {h : Heap} {l : Loc} {v : Option Value} (x : LocOk h l v) : ∃ o, h.get? l.addr = some o := by
  cases l with
  | dict d n => obtain ⟨m, ⟨o, _, _, g, _⟩, _⟩ := x; exact ⟨o, g⟩
  | cell c => obtain ⟨o, _, g, _⟩ := x; exact ⟨o, g⟩
theorem LocOk.of_keep {h h' : Heap} {l : Loc} {v : Option Value} (x : LocOk h l v) (e : ∀ o, h.get? l.addr = Option.some o → h'.get? l.addr = Option.some o) : LocOk h' l v := by
  cases l with
  | dict d n => obtain ⟨m, ⟨o, es, ep, g, r⟩, q⟩ := x; exact ⟨m, ⟨o, es, ep, e _ g, r⟩, q⟩
  | cell c => obtain ⟨o, cv, g, r⟩ := x; exact ⟨o, cv, e _ g, r⟩
theorem LocOk.of_get {h h' : Heap} {l : Loc} {v : Option Value} (x : LocOk h l v) (e : h'.get? l.addr = h.get? l.addr) : LocOk h' l v := by
  cases l with
  | dict d n => obtain ⟨m, ⟨o, es, ep, g, r⟩, q⟩ := x; exact ⟨m, ⟨o, es, ep, e.trans g, r⟩, q⟩
  | cell c => obtain ⟨o, cv, g, r⟩ := x; exact ⟨o, cv, e.trans g, r⟩
theorem Rep.lsize {h : Heap} {H : HA} {L : Ls} (r : Rep C h H L) {l : Loc} (e : l ∈ C.locs) : l.addr < h.objs.size := by
  obtain ⟨i, hi⟩ := List.getElem?_of_mem e
  obtain ⟨o, g⟩ := (r.loc i l hi).some
  exact Heap.lt_size g

theorem Rep.dfresh {h : Heap} {H : HA} {L : Ls} (r : Rep C h H L) : C.D.get? h.objs.size = none := by
  cases e : C.D.get? h.objs.size with
  | none => rfl
  | some o =>
    obtain ⟨⟨sl, x⟩, _⟩ := r.dat _ _ e
    exact absurd (Heap.lt_size x) (Nat.lt_irrefl _)
theorem Rep.dnone {h : Heap} {H : HA} {L : Ls} (r : Rep C h H L) {a : Addr} {ho : HO} (e : H a = some ho) : C.D.get? a = none := by
  cases q : C.D.get? a with
  | none => rfl
  | some o =>
    have := (r.dat _ _ q).2.2.1
    rw [e] at this; cases this
/-- an object may be looked over -/
theorem Rep.push {h : Heap} {H : HA} {L : Ls} (r : Rep C h H L) (o : Obj) : Rep C (h.push o) H L := by
  have g : ∀ a, a < h.objs.size → (h.push o).get? a = h.get? a := fun a ha => by
    unfold Heap.get? Heap.push
    have : (h.objs.push o)[a]? = h.objs[a]? := by rw [Array.getElem?_push]; simp [Nat.ne_of_lt ha]
    rw [this]
  refine ⟨fun b o' e => Heap.get?_push_of_some _ (r.keep b o' e), fun a ho e => ⟨(r.hp a ho e).1, (r.hp a ho e).2.of_get (g a (r.size e))⟩, fun i l e => (r.loc i l e).of_get (g _ (r.lsize (List.mem_of_getElem? e))), r.lfree, r.dat.of (fun b _ _ x e => Heap.get?_push_of_some _ e) fun _ _ _ q => q⟩

noncomputable def upd (H : HA) (a : Addr) (o : HO) : HA := fun b => if b = a then some o else H b
@[simp] theorem upd_same (H : HA) (a : Addr) (o : HO) : upd H a o a = some o := by simp [upd]
theorem upd_ne (H : HA) {a b : Addr} (o : HO) (h : b ≠ a) : upd H a o b = H b := by simp [upd, h]

theorem Rep.alloc {h : Heap} {H : HA} {L : Ls} (r : Rep C h H L) (o : Obj) {ho : HO} (k : HOk C.prog C.w (h.push o) h.objs.size ho) : Rep C (h.push o) (upd H h.objs.size ho) L := by
  have r' := r.push o
  refine ⟨r'.keep, fun a ho' e => ?_, r'.loc, fun l hl => ⟨(r.lfree l hl).1, ?_⟩, r'.dat.of (fun _ _ _ _ e => e) fun b o e q => (upd_ne _ _ fun z => by
    obtain ⟨⟨sl, x⟩, _⟩ := r.dat b o e
    have := Heap.lt_size x
    rw [z] at this; exact Nat.lt_irrefl _ this).trans q⟩
  · by_cases q : a = h.objs.size
    · subst q; rw [upd_same] at e; cases e; exact ⟨r.pfresh, k⟩
    · rw [upd_ne _ _ q] at e; exact r'.hp a ho' e
  · rw [upd_ne _ _ (Nat.ne_of_lt (r.lsize hl))]; exact (r.lfree l hl).2
/-- an object of the walk's own is turned -/
theorem Rep.turn {h h' : Heap} {H : HA} {L : Ls} (r : Rep C h H L) {a : Addr} {ho ho' : HO} (e : H a = some ho) (hs : Heap.SameBut a h h') (k : HOk C.prog C.w h' a ho') : Rep C h' (upd H a ho') L := by
  have hP := (r.hp a ho e).1
  have hd : ∀ b o, C.D.get? b = some o → b ≠ a := fun b o q z => by
    have := (r.dat b o q).2.2.1
    rw [z, e] at this; cases this
  refine ⟨fun b o q => ?_, fun b ho₂ q => ?_, fun i l q => ?_, fun l hl => ⟨(r.lfree l hl).1, ?_⟩, r.dat.of (fun b o q x y => (hs.2 b (hd b o q)).trans y) fun b o q y => (upd_ne _ _ (hd b o q)).trans y⟩
  · have : b ≠ a := fun z => by rw [z, hP] at q; cases q
    rw [hs.2 b this]; exact r.keep b o q
  · by_cases z : b = a
    · subst z; rw [upd_same] at q; cases q; exact ⟨hP, k⟩
    · rw [upd_ne _ _ z] at q; exact ⟨(r.hp b ho₂ q).1, (r.hp b ho₂ q).2.of_get (hs.2 b z)⟩
  · refine (r.loc i l q).of_get (hs.2 _ fun z => ?_)
    have := (r.lfree l (List.mem_of_getElem? q)).2
    rw [z, e] at this; cases this
  · have : l.addr ≠ a := fun z => by have y := (r.lfree l hl).2; rw [z, e] at y; cases y
    rw [upd_ne _ _ this]; exact (r.lfree l hl).2
/-- nothing of the walk's own is turned -/
theorem Rep.ext {h h' : Heap} {H : HA} {L : Ls} (r : Rep C h H L) {b : Addr} (hs : Heap.ExtBut b h h') (hP : C.P.get? b = none) (hb : H b = none) (hl : ∀ l ∈ C.locs, l.addr ≠ b) (hD : C.D.get? b = none) : Rep C h' H L :=
  ⟨fun a o e => hs a o (fun z => by rw [z, hP] at e; cases e) (r.keep a o e), fun a ho e => ⟨(r.hp a ho e).1, (r.hp a ho e).2.of_keep fun o g => hs a o (fun z => by rw [z, hb] at e; cases e) g⟩,
    fun i l e => (r.loc i l e).of_keep fun o g => hs _ o (hl l (List.mem_of_getElem? e)) g, r.lfree, r.dat.of (fun a o q x y => hs a x (fun z => by rw [z, hD] at q; cases q) y) fun _ _ _ q => q⟩
end


/-! lists of arguments, one by one -/
noncomputable def mR (k : Addr → List Value → Prop) : List Value → Prop
  | .ref a :: r => k a r
  | _ => False
noncomputable def mS (k : Str → List Value → Prop) : List Value → Prop
  | .str x _ :: r => k x r
  | _ => False
noncomputable def mST (k : Str → Tok → List Value → Prop) : List Value → Prop
  | .str x t :: r => k x t r
  | _ => False
noncomputable def mI (k : Int → List Value → Prop) : List Value → Prop
  | .int i _ :: r => k i r
  | _ => False
noncomputable def mV (k : Value → List Value → Prop) : List Value → Prop
  | v :: r => k v r
  | [] => False
noncomputable def mN (p : Prop) : List Value → Prop
  | [] => p
  | _ => False
theorem mR_inv {k : Addr → List Value → Prop} {vs : List Value} (h : mR k vs) : ∃ a r, vs = .ref a :: r ∧ k a r := by
  unfold mR at h
  split at h
  · exact ⟨_, _, rfl, h⟩
  · exact h.elim
theorem mS_inv {k : Str → List Value → Prop} {vs : List Value} (h : mS k vs) : ∃ x t r, vs = .str x t :: r ∧ k x r := by
  unfold mS at h
  split at h
  · exact ⟨_, _, _, rfl, h⟩
  · exact h.elim
theorem mST_inv {k : Str → Tok → List Value → Prop} {vs : List Value} (h : mST k vs) : ∃ x t r, vs = .str x t :: r ∧ k x t r := by
  unfold mST at h
  split at h
  · exact ⟨_, _, _, rfl, h⟩
  · exact h.elim
theorem mI_inv {k : Int → List Value → Prop} {vs : List Value} (h : mI k vs) : ∃ x t r, vs = .int x t :: r ∧ k x r := by
  unfold mI at h
  split at h
  · exact ⟨_, _, _, rfl, h⟩
  · exact h.elim
theorem mV_inv {k : Value → List Value → Prop} {vs : List Value} (h : mV k vs) : ∃ x r, vs = x :: r ∧ k x r := by
  cases vs with
  | nil => exact h.elim
  | cons x r => exact ⟨x, r, rfl, h⟩
theorem mN_inv {p : Prop} {vs : List Value} (h : mN p vs) : vs = [] ∧ p := by
  cases vs with
  | nil => exact ⟨rfl, h⟩
  | cons x r => exact h.elim


section
variable {α β γ : Type} {C : Ctx} {e : α → γ}

/-! trees that turn nothing -/
theorem OkG.holding {vs : List Value} {m : Sem α} {x : W γ} (h : OkG e C m x) : OkG e C (PySem.holding vs m) x := fun s H L Q t r k => wpAny_holding (h s H L Q t r k)
theorem OkG.stand {p : Pos} {m : Unit → Sem α} {x : W γ} (h : OkG e C (m ()) x) : OkG e C (standAt p >>= m) x := fun s H L Q t r k => wpAny_bind (wpAny_standAt (h s H L Q t r k))
theorem wp_operate_any {M : Model} {A : Around} {E : Value → Shared → Prop} {s : Shared} {vs : List Value} {m : Sem Value} {Q : Value → Shared → Prop} (h : wpAny M A m Q E s) : wpAny M A (operate vs m) Q E s :=
  fun Γ p hΓ => by rw [Sem.wp_operate]; exact h Γ p hΓ
theorem OkG.operate {e : Value → γ} {vs : List Value} {m : Sem Value} {x : W γ} (h : OkG e C m x) : OkG e C (PySem.operate vs m) x := fun s H L Q t r k => wp_operate_any (h s H L Q t r k)
theorem wp_release_any {M : Model} {A : Around} {E : Value → Shared → Prop} {s : Shared} {vs ks : List Value} {Q : Unit → Shared → Prop} (h : Q () s) : wpAny M A (release vs ks) Q E s :=
  fun Γ p hΓ => by rw [Sem.wp_release]; exact h
theorem OkG.release {vs ks : List Value} {m : Unit → Sem α} {x : W γ} (h : OkG e C (m ()) x) : OkG e C (PySem.release vs ks >>= m) x := fun s H L Q t r k => wpAny_bind (wp_release_any (h s H L Q t r k))
theorem OkG.release' {vs ks : List Value} : Ok C (PySem.release vs ks) (fun Q => Q ()) := fun s H L Q t r k => wp_release_any ⟨Oth.refl s, H, L, r, k⟩
theorem OkG.never {t : Sem α} {x : W γ} (h : ∀ Q H L, ¬ x Q H L) : OkG e C t x := fun s H L Q _ r k => (h Q H L k).elim
/-- a tree that hands on a known value, its state but for the tokens the same -/
theorem Post.here {s : Shared} {H : HA} {L : Ls} {Q : α → HA → Ls → Prop} {a : α} (r : Rep C s.heap H L) (h : Q a H L) : Post C s Q a s := ⟨Oth.refl s, H, L, r, h⟩
theorem Post.tok {s : Shared} {H : HA} {L : Ls} {Q : α → HA → Ls → Prop} {a : α} {k : Nat} (r : Rep C s.heap H L) (h : Q a H L) : Post C s Q a { s with toks := k } := ⟨⟨rfl, rfl, rfl⟩, H, L, r, h⟩
theorem Post.hp {s : Shared} {h' : Heap} {H : HA} {L : Ls} {Q : α → HA → Ls → Prop} {a : α} {k : Nat} (r : Rep C h' H L) (h : Q a H L) : Post C s Q a { s with heap := h', toks := k } := ⟨⟨rfl, rfl, rfl⟩, H, L, r, h⟩
theorem Post.hp0 {s : Shared} {h' : Heap} {H : HA} {L : Ls} {Q : α → HA → Ls → Prop} {a : α} (r : Rep C h' H L) (h : Q a H L) : Post C s Q a { s with heap := h' } := ⟨⟨rfl, rfl, rfl⟩, H, L, r, h⟩
end

/-! numbers, texts: the operators -/
noncomputable def newW (ho : HO) : W Value := fun Q H L => ∀ c, H c = none → Q (.ref c) (upd H c ho) L

noncomputable def mulOk (x : Str) (n : Int) : Bool := decide ((decide (n < -(2 ^ 63 : Int)) || decide (n ≥ 2 ^ 63)) = false) && (decide (n < 1) || (n == 1 || x.length == 0) || !decide ((x.length : Int) > (2 ^ 63 - 1) / n)) && (decide (n < 1) || (n == 1 || x.length == 0) || !PySem.Builtin.Str.tooLong (x.length * n.toNat))
noncomputable def mulS (x : Str) (n : Int) : Str := if n < 1 then Str.empty else if (n == 1 || x.length == 0) = true then x else ⟨(List.replicate n.toNat x.cps).foldl (· ++ ·) #[]⟩
noncomputable def binW (op : Operator) (a b : Value) : W Value := fun Q H L => match op with
  | .Add => onII (fun i j => Q (.int (i + j) 0) H L) (onSS (fun x y => x.length + y.length ≤ sizeLine ∧ Q (.str (x ++ y) 0) H L) False a b) a b
  | .Sub => onII (fun i j => Q (.int (i - j) 0) H L) False a b
  | .Mod => onII (fun i j => j ≠ 0 ∧ Q (.int (i.fmod j) 0) H L) False a b
  | .FloorDiv => onII (fun i j => (0 < j ∧ j < 1000) ∧ Q (.int (i.fdiv j) 0) H L) False a b
  | .Mult => onSI (fun x n => (mulOk x n = true ∧ (mulS x n).length ≤ sizeLine) ∧ Q (.str (mulS x n) 0) H L) False a b
  | _ => False
noncomputable def augW (op : Operator) (a b : Value) : W Value := fun Q H L => match op with
  | .Add => onII (fun i j => Q (.int (i + j) 0) H L) (onSS (fun x y => x.length + y.length ≤ sizeLine ∧ Q (.str (x ++ y) 0) H L) False a b) a b
  | .Sub => onII (fun i j => Q (.int (i - j) 0) H L) False a b
  | _ => False

section
variable {C : Ctx}
theorem two_ints {a b : Value} {k : Int → Int → Prop} (h : onII k False (er a) (er b)) : ∃ i t j u, a = .int i t ∧ b = .int j u ∧ k i j := by
  rcases onII_inv h with ⟨i, t, j, u, ha, hb, h⟩ | h
  · obtain ⟨t, rfl⟩ := er_int ha
    obtain ⟨u, rfl⟩ := er_int hb
    exact ⟨i, t, j, u, rfl, rfl, h⟩
  · exact h.elim
theorem add_two {a b : Value} {k : Int → Int → Prop} {k' : Str → Str → Prop} (h : onII k (onSS k' False (er a) (er b)) (er a) (er b)) : (∃ i t j u, a = .int i t ∧ b = .int j u ∧ k i j) ∨ ∃ i t j u, a = .str i t ∧ b = .str j u ∧ k' i j := by
  rcases onII_inv h with ⟨i, t, j, u, ha, hb, h⟩ | h
  · obtain ⟨t, rfl⟩ := er_int ha
    obtain ⟨u, rfl⟩ := er_int hb
    exact .inl ⟨i, t, j, u, rfl, rfl, h⟩
  · rcases onSS_inv h with ⟨i, t, j, u, ha, hb, h⟩ | h
    · obtain ⟨t, rfl⟩ := er_str ha
      obtain ⟨u, rfl⟩ := er_str hb
      exact .inr ⟨i, t, j, u, rfl, rfl, h⟩
    · exact h.elim
theorem mul_ok {x : Str} {n : Int} {t u : Tok} {s : Shared} {H : HA} {L : Ls} {Q : Value → HA → Ls → Prop} (r : Rep C s.heap H L) (e : (mulOk x n = true ∧ (mulS x n).length ≤ sizeLine) ∧ Q (.str (mulS x n) 0) H L) : wpAny (model C.prog C.w) C.A (binaryOp .Mult (.str x t) (.int n u)) (fun v => Post C s Q (er v)) NoE s := by
  obtain ⟨⟨e1, e3⟩, e2⟩ := e
  unfold mulOk at e1
  simp only [Bool.and_eq_true, decide_eq_true_eq, Bool.or_eq_true, Bool.not_eq_true', decide_eq_false_iff_not] at e1
  obtain ⟨⟨c1, c2⟩, c3⟩ := e1
  refine P.mul_str c1 (fun h1 h2 => ?_) (fun h1 h2 => ?_) ?_
  · rw [Bool.or_eq_false_iff] at h2
    rcases c2 with (c | c | c) | c
    · exact absurd c h1
    · rw [h2.1] at c; cases c
    · rw [h2.2] at c; cases c
    · exact c
  · rw [Bool.or_eq_false_iff] at h2
    rcases c3 with (c | c | c) | c
    · exact absurd c h1
    · rw [h2.1] at c; cases c
    · rw [h2.2] at c; cases c
    · rw [c]
  · unfold mulS at e2 e3
    by_cases z : n < 1
    · rw [if_pos z] at e2 e3 ⊢; exact ⟨e3, Post.tok r e2⟩
    · rw [if_neg z] at e2 e3 ⊢
      by_cases y : (n == 1 || x.length == 0) = true
      · rw [if_pos y] at e2 e3 ⊢; exact Post.here r e2
      · rw [if_neg y] at e2 e3 ⊢; exact ⟨e3, Post.tok r e2⟩
theorem bin_ok (op : Operator) (a b : Value) : OkV C (binaryOp op a b) (binW op (er a) (er b)) := by
  intro s H L Q _ r e
  cases op <;> first | exact e.elim | skip
  · rcases add_two e with ⟨i, t, j, u, rfl, rfl, e⟩ | ⟨i, t, j, u, rfl, rfl, e⟩
    · exact P.add_int (Post.tok r e)
    · exact add_str (fun t' tk => Post.tok r e.2) e.1
  · refine by_ng fun ng => ?_
    obtain ⟨i, t, j, u, rfl, rfl, e⟩ := two_ints e
    refine ng ?_
    clear ng
    exact P.sub_int (Post.tok r e)
  · rcases onSI_inv e with ⟨x, t, n, u, ha, hb, e⟩ | e
    · obtain ⟨t, rfl⟩ := er_str ha
      obtain ⟨u, rfl⟩ := er_int hb
      exact mul_ok r e
    · exact e.elim
  · refine by_ng fun ng => ?_
    obtain ⟨i, t, j, u, rfl, rfl, e⟩ := two_ints e
    refine ng ?_
    clear ng
    exact mod_int' e.1 (Post.tok r e.2)
  · refine by_ng fun ng => ?_
    obtain ⟨i, t, j, u, rfl, rfl, e⟩ := two_ints e
    refine ng ?_
    clear ng
    exact floordiv_int (by (first | lia | omega)) (Post.tok r e.2) (Or.inl (PyProof.noPylong_small (by (first | lia | omega))))
theorem aug_ok (op : Operator) (a b : Value) : OkV C (inplaceOp op a b) (augW op (er a) (er b)) := by
  intro s H L Q _ r e
  cases op <;> first | exact e.elim | skip
  · rcases add_two e with ⟨i, t, j, u, rfl, rfl, e⟩ | ⟨i, t, j, u, rfl, rfl, e⟩
    · exact P.iadd_int (Post.tok r e)
    · exact iadd_str (fun t' tk => Post.tok r e.2) e.1
  · refine by_ng fun ng => ?_
    obtain ⟨i, t, j, u, rfl, rfl, e⟩ := two_ints e
    refine ng ?_
    clear ng
    exact P.isub_int (Post.tok r e)
end


theorem isNone_er (v : Value) : (v == Value.none) = (er v == Value.none) := by cases v <;> rfl

noncomputable def isI : Value → Bool
  | .int _ _ => true
  | _ => false
noncomputable def isS : Value → Bool
  | .str _ _ => true
  | _ => false
noncomputable def sameK (x : Value) (xs : List Value) : Bool := (isI x && xs.all isI) || (isS x && xs.all isS)
noncomputable def hasV (x : Value) (xs : List Value) : Bool := xs.any fun y => decide (y = x)

theorem eqG_str (a b : Str) (t u : Tok) : MeetsSeq.EqGives (.str a t) (.str b u) (decide (a = b)) := fun _ _ _ _ _ _ h => wpAny_eqBool_str h
theorem eqG_er {y x : Value} (h : (isI y = true ∧ isI x = true) ∨ (isS y = true ∧ isS x = true)) : MeetsSeq.EqGives y x (decide (er y = er x)) := by
  rcases h with ⟨h1, h2⟩ | ⟨h1, h2⟩
  · cases y <;> simp [isI] at h1
    cases x <;> simp [isI] at h2
    rename_i i t j u
    have := MeetsSeq.EqGives.int i j t u
    have e : (i == j) = decide (er (.int i t) = er (.int j u)) := by
      rw [Bool.eq_iff_iff]; simp [er]
    rw [← e]; exact this
  · cases y <;> simp [isS] at h1
    cases x <;> simp [isS] at h2
    rename_i i t j u
    have := eqG_str i j t u
    have e : decide (i = j) = decide (er (.str i t) = er (.str j u)) := by
      rw [Bool.eq_iff_iff]; simp [er]
    rw [← e]; exact this
theorem isI_er (v : Value) : isI (er v) = isI v := by cases v <;> rfl
theorem isS_er (v : Value) : isS (er v) = isS v := by cases v <;> rfl
theorem sameK_of {x : Value} {its : Array Value} (h : sameK (er x) (its.toList.map er) = true) : ∀ y ∈ its, (isI y = true ∧ isI x = true) ∨ (isS y = true ∧ isS x = true) := by
  intro y hy
  have hy' : y ∈ its.toList := Array.mem_toList_iff.mpr hy
  unfold sameK at h
  rcases Bool.or_eq_true_iff.mp h with h | h <;> obtain ⟨h1, h2⟩ := Bool.and_eq_true_iff.mp h
  · left
    rw [isI_er] at h1
    have := List.all_eq_true.mp h2 (er y) (List.mem_map_of_mem hy')
    rw [isI_er] at this
    exact ⟨this, h1⟩
  · right
    rw [isS_er] at h1
    have := List.all_eq_true.mp h2 (er y) (List.mem_map_of_mem hy')
    rw [isS_er] at this
    exact ⟨this, h1⟩
theorem hasV_of (x : Value) (its : Array Value) : its.any (fun y => decide (er y = er x)) = hasV (er x) (its.toList.map er) := by
  unfold hasV
  rw [List.any_map, ← Array.any_toList]; rfl

/-! data that hangs on the heap -/
mutual
inductive Rd (H : HA) : Value → PyData → Prop
  | none : Rd H .none .none
  | bool (b : Bool) : Rd H (.bool b) (.bool b)
  | int (i : Int) : Rd H (.int i 0) (.int i)
  | str (x : Str) : Rd H (.str x 0) (.str x)
  | tup {a : Addr} {xs : List Value} {ds : List PyData} : H a = some (.tup xs) → RdAll H xs ds → Rd H (.ref a) (.tuple ds)
  | lst {a : Addr} {xs : List Value} {ds : List PyData} : H a = some (.lst xs) → RdAll H xs ds → Rd H (.ref a) (.list ds)
inductive RdAll (H : HA) : List Value → List PyData → Prop
  | nil : RdAll H [] []
  | cons {v : Value} {d : PyData} {vs : List Value} {ds : List PyData} : Rd H v d → RdAll H vs ds → RdAll H (v :: vs) (d :: ds)
end

/-- what stands of the world and of the place, at every call -/
structure Stat (C : Ctx) : Prop where
  sys : ∃ o, C.P.get? sysModules = some o
  lim : C.P.NoLimit
  units : C.A.units + 64 < cLine

noncomputable def cmpW (op : CmpOp) (a b : Value) : W Value := fun Q H L => match op with
  | .Eq => onII (fun i j => Q (.bool (i == j)) H L) (onSS (fun x y => Q (.bool (x == y)) H L) (onRR (fun p q => ∃ d e, Rd H (.ref p) d ∧ Rd H (.ref q) e ∧ SeqAt.shaped d = true ∧ SeqAt.shaped e = true ∧ Q (.bool (PyData.eqv d e)) H L) False a b) a b) a b
  | .NotEq => onII (fun i j => Q (.bool (i != j)) H L) (onSS (fun x y => Q (.bool (x != y)) H L) (onRR (fun p q => ∃ d e, Rd H (.ref p) d ∧ Rd H (.ref q) e ∧ SeqAt.shaped d = true ∧ SeqAt.shaped e = true ∧ Q (.bool (!PyData.eqv d e)) H L) False a b) a b) a b
  | .Lt => onII (fun i j => Q (.bool (decide (i < j))) H L) False a b
  | .LtE => onII (fun i j => Q (.bool (decide (i ≤ j))) H L) False a b
  | .Gt => onII (fun i j => Q (.bool (decide (j < i))) H L) False a b
  | .GtE => onII (fun i j => Q (.bool (decide (j ≤ i))) H L) False a b
  | .Is => onN (Q (.bool (a == .none)) H L) b
  | .IsNot => onN (Q (.bool (!(a == .none))) H L) b
  | .In => onR (fun c => (∃ xs, H c = some (.lst xs) ∧ sameK a xs = true ∧ Q (.bool (hasV a xs)) H L) ∨ (∃ es ep k t, H c = some (.dct es ep) ∧ a = .str k t ∧ Q (.bool (es.lookup k).isSome) H L) ∨ (∃ S n k t, H c = some (.st S n) ∧ a = .str k t ∧ Q (.bool (S k)) H L)) b
  | .NotIn => onR (fun c => (∃ xs, H c = some (.lst xs) ∧ sameK a xs = true ∧ Q (.bool (!hasV a xs)) H L) ∨ (∃ es ep k t, H c = some (.dct es ep) ∧ a = .str k t ∧ Q (.bool (!(es.lookup k).isSome)) H L)) b

section
variable {C : Ctx}
theorem lookup_valueAt (kvs : List (Str × Value)) (k : Str) : (kvs.map (fun kv => (kv.1, er kv.2))).lookup k = (valueAt kvs k).map er := by
  unfold valueAt
  induction kvs with
  | nil => rfl
  | cons p r ih =>
    rw [List.map_cons, List.lookup_cons, List.find?_cons]
    by_cases h : p.1 = k
    · subst h; simp
    · have : (k == p.1) = false := by simp [Ne.symm h]
      simp [this, h, ih]

theorem in_dct {s : Shared} {H : HA} {L : Ls} {a : Addr} {es : List (Str × Value)} {ep : Nat} {k : Str} {t : Tok} {Q : Value → HA → Ls → Prop} (r : Rep C s.heap H L) (hs : ∃ o, C.P.get? sysModules = some o) (e : H a = some (.dct es ep)) (h : Q (.bool (es.lookup k).isSome) H L) :
    wpAny (model C.prog C.w) C.A (compareOp .In (.str k t) (.ref a)) (fun v => Post C s Q (er v)) NoE s := by
  refine by_ng fun ng => ?_
  obtain ⟨hP, kvs, hd, rfl⟩ := r.hp a _ e
  refine ng ?_
  clear ng
  have hne : (a == sysModules) = false := by
    obtain ⟨o, ho⟩ := hs
    rw [beq_eq_false_iff_ne]; rintro rfl; rw [hP] at ho; cases ho
  refine wpAny_in_of (knd := strKind C.prog C.w) (strKind_is _ _ k t) hne hd.dictOf.mapOf (Post.tok r ?_)
  rw [lookup_valueAt, Option.isSome_map] at h; exact h
theorem notIn_dct {s : Shared} {H : HA} {L : Ls} {a : Addr} {es : List (Str × Value)} {ep : Nat} {k : Str} {t : Tok} {Q : Value → HA → Ls → Prop} (r : Rep C s.heap H L) (hs : ∃ o, C.P.get? sysModules = some o) (e : H a = some (.dct es ep)) (h : Q (.bool (!(es.lookup k).isSome)) H L) :
    wpAny (model C.prog C.w) C.A (compareOp .NotIn (.str k t) (.ref a)) (fun v => Post C s Q (er v)) NoE s := by
  refine by_ng fun ng => ?_
  obtain ⟨hP, kvs, hd, rfl⟩ := r.hp a _ e
  refine ng ?_
  clear ng
  have hne : (a == sysModules) = false := by
    obtain ⟨o, ho⟩ := hs
    rw [beq_eq_false_iff_ne]; rintro rfl; rw [hP] at ho; cases ho
  refine wpAny_notIn_of (knd := strKind C.prog C.w) (strKind_is _ _ k t) hne hd.dictOf.mapOf (Post.tok r ?_)
  rw [lookup_valueAt, Option.isSome_map] at h; exact h
theorem listOf_is {h : Heap} {a : Addr} {its : Array Value} {n : Nat} (e : h.get? a = some (listOf its n)) : h.IsList a its := ⟨_, e, rfl, n, rfl⟩
theorem tupOf_is {h : Heap} {a : Addr} {its : Array Value} {n : Nat} (e : h.get? a = some (tupOf its n)) : h.IsTuple a its := ⟨_, e, rfl, n, rfl⟩

mutual
theorem Rd.reads {h : Heap} {H : HA} {L : Ls} (r : Rep C h H L) : ∀ {v : Value} {d : PyData}, Rd H v d → ∀ v', er v' = v → ∃ as, Reads h v' d as
  | _, _, .none, v', e => by rw [er_none e]; exact ⟨_, .none⟩
  | _, _, .bool b, v', e => by rw [er_bool e]; exact ⟨_, .bool b⟩
  | _, _, .int i, v', e => by obtain ⟨t, rfl⟩ := er_int e; exact ⟨_, .int i t⟩
  | _, _, .str x, v', e => by obtain ⟨t, rfl⟩ := er_str e; exact ⟨_, .str x t⟩
  | _, _, .tup (a := a) g ds, v', e => by
    rw [er_ref e]
    refine by_ng fun ng => ?_
    obtain ⟨_, its, n, ho, hx⟩ := r.hp a _ g
    obtain ⟨as, q⟩ := ds.reads r its.toList hx
    refine ng ?_
    clear ng
    exact ⟨_, .tuple ho rfl rfl q⟩
  | _, _, .lst (a := a) g ds, v', e => by
    rw [er_ref e]
    refine by_ng fun ng => ?_
    obtain ⟨_, its, n, ho, hx⟩ := r.hp a _ g
    obtain ⟨as, q⟩ := ds.reads r its.toList hx
    refine ng ?_
    clear ng
    exact ⟨_, .list ho rfl rfl q⟩
theorem RdAll.reads {h : Heap} {H : HA} {L : Ls} (r : Rep C h H L) : ∀ {vs : List Value} {ds : List PyData}, RdAll H vs ds → ∀ vs', vs'.map er = vs → ∃ as, ReadsAll h vs' ds as
  | _, _, .nil, vs', e => by cases vs' with | nil => exact ⟨_, .nil⟩ | cons v r => cases e
  | _, _, .cons hv hr, vs', e => by
    cases vs' with
    | nil => cases e
    | cons v rest =>
      rw [List.map_cons, List.cons.injEq] at e
      obtain ⟨as, q⟩ := hv.reads r v e.1
      obtain ⟨bs, p⟩ := hr.reads r rest e.2
      exact ⟨_, .cons q p⟩
end

theorem cmp_ok (S : Stat C) (op : CmpOp) (a b : Value) : OkV C (compareOp op a b) (cmpW op (er a) (er b)) := by
  intro s H L Q _ r e
  cases op
  case Eq =>
    rcases onII_inv e with ⟨i, t, j, u, ha, hb, e⟩ | e
    · obtain ⟨t, rfl⟩ := er_int ha; obtain ⟨u, rfl⟩ := er_int hb; exact P.eq_int (Post.here r e)
    · rcases onSS_inv e with ⟨i, t, j, u, ha, hb, e⟩ | e
      · obtain ⟨t, rfl⟩ := er_str ha; obtain ⟨u, rfl⟩ := er_str hb; exact eq_str (Post.here r e)
      · rcases onRR_inv e with ⟨p, q, ha, hb, d, e', h1, h2, h3, h4, h5⟩ | e
        · obtain ⟨as, ra⟩ := h1.reads r a ha
          obtain ⟨bs, rb⟩ := h2.reads r b hb
          exact SeqAt.compareEq_shaped ra rb h3 h4 S.units (Post.here r h5)
        · exact e.elim
  case NotEq =>
    rcases onII_inv e with ⟨i, t, j, u, ha, hb, e⟩ | e
    · obtain ⟨t, rfl⟩ := er_int ha; obtain ⟨u, rfl⟩ := er_int hb; exact P.ne_int (Post.here r e)
    · rcases onSS_inv e with ⟨i, t, j, u, ha, hb, e⟩ | e
      · obtain ⟨t, rfl⟩ := er_str ha; obtain ⟨u, rfl⟩ := er_str hb; exact ne_str (Post.here r e)
      · rcases onRR_inv e with ⟨p, q, ha, hb, d, e', h1, h2, h3, h4, h5⟩ | e
        · obtain ⟨as, ra⟩ := h1.reads r a ha
          obtain ⟨bs, rb⟩ := h2.reads r b hb
          exact SeqAt.compareNe_shaped ra rb h3 h4 S.units (Post.here r h5)
        · exact e.elim
  case Lt => obtain ⟨i, t, j, u, rfl, rfl, e⟩ := two_ints e; exact P.lt_int (Post.here r e)
  case LtE => obtain ⟨i, t, j, u, rfl, rfl, e⟩ := two_ints e; exact P.le_int (Post.here r e)
  case Gt => obtain ⟨i, t, j, u, rfl, rfl, e⟩ := two_ints e; exact P.gt_int (Post.here r e)
  case GtE => obtain ⟨i, t, j, u, rfl, rfl, e⟩ := two_ints e; exact P.ge_int (Post.here r e)
  case Is =>
    obtain ⟨hb, e⟩ := onN_inv e
    rw [er_none hb]; rw [← isNone_er] at e; exact is_none (Post.here r e)
  case IsNot =>
    obtain ⟨hb, e⟩ := onN_inv e
    rw [er_none hb]; rw [← isNone_er] at e; exact isNot_none (Post.here r e)
  case In =>
    obtain ⟨c, hb, e⟩ := onR_inv e
    rw [er_ref hb]
    rcases e with ⟨xs, h1, h2, h3⟩ | ⟨es, ep, k, tt, h1, h2, h3⟩ | ⟨S', n', k, tt, h1, h2, h3⟩
    · refine by_ng fun ng => ?_
      obtain ⟨_, its, n, ho, hx⟩ := r.hp _ _ h1
      refine ng ?_
      clear ng
      subst hx
      refine SeqInW.in_listW (fun y => decide (er y = er a)) (fun y hy => eqG_er (sameK_of h2 y hy)) (listOf_is ho) ?_
      rw [hasV_of]; exact Post.here r h3
    · obtain ⟨t, rfl⟩ := er_str h2
      exact in_dct r S.sys h1 h3
    · obtain ⟨t, rfl⟩ := er_str h2
      exact wpAny_inSet_of (knd := strKind C.prog C.w) (strKind_is _ _ k t) rfl (r.hp _ _ h1).2 (Post.tok r h3)
  case NotIn =>
    obtain ⟨c, hb, e⟩ := onR_inv e
    rw [er_ref hb]
    rcases e with ⟨xs, h1, h2, h3⟩ | ⟨es, ep, k, tt, h1, h2, h3⟩
    · refine by_ng fun ng => ?_
      obtain ⟨_, its, n, ho, hx⟩ := r.hp _ _ h1
      refine ng ?_
      clear ng
      subst hx
      refine SeqInW.notIn_listW (fun y => decide (er y = er a)) (fun y hy => eqG_er (sameK_of h2 y hy)) (listOf_is ho) ?_
      rw [hasV_of]; exact Post.here r h3
    · obtain ⟨t, rfl⟩ := er_str h2
      exact notIn_dct r S.sys h1 h3
end


noncomputable def gone : Obj := { cls := .none, data := .freed }
/-- the part of a heap that a test lets through -/
noncomputable def mask (p : Addr → Bool) (h : Heap) : Heap := ⟨h.objs.mapIdx fun i o => if p i then o else gone, h.life⟩
theorem mask_get (p : Addr → Bool) (h : Heap) (a : Addr) : (mask p h).get? a = if p a then h.get? a else none := by
  unfold mask Heap.get?
  rw [Array.getElem?_mapIdx]
  cases e : h.objs[a]? with
  | none => simp
  | some o =>
    by_cases q : p a = true
    · simp [q]
    · simp [q, gone]

/-- more is fenced off -/
noncomputable def Ctx.fence (C : Ctx) (h : Heap) (S : List Addr) : Ctx := { C with P := mask (fun b => (C.P.get? b).isSome || S.contains b) h }

section
variable {C : Ctx} {h : Heap} {H : HA} {L : Ls}
theorem fence_get (r : Rep C h H L) (S : List Addr) (b : Addr) : (C.fence h S).P.get? b = if S.contains b then h.get? b else C.P.get? b := by
  unfold Ctx.fence
  rw [mask_get]
  cases e : C.P.get? b with
  | none => simp
  | some o => simp [r.keep b o e]
theorem fence_keep (r : Rep C h H L) (S : List Addr) : ∀ b o, C.P.get? b = some o → (C.fence h S).P.get? b = some o := fun b o e => by
  rw [fence_get r]
  by_cases q : S.contains b = true
  · rw [if_pos q]; exact r.keep b o e
  · rw [if_neg q]; exact e
theorem Rep.fence (r : Rep C h H L) (S : List Addr) (hS : ∀ b ∈ S, H b = none ∧ (∀ l ∈ C.locs, l.addr ≠ b) ∧ C.D.get? b = none) : Rep (C.fence h S) h H L := by
  refine ⟨fun b o e => ?_, fun a ho e => ⟨?_, (r.hp a ho e).2⟩, r.loc, fun l hl => ⟨?_, (r.lfree l hl).2⟩, fun b o e => ?_⟩
  · rw [fence_get r] at e
    by_cases q : S.contains b = true
    · rw [if_pos q] at e; exact e
    · rw [if_neg q] at e; exact r.keep b o e
  · rw [fence_get r]
    have : ¬ S.contains a = true := fun q => by have := (hS a (by simpa using q)).1; rw [this] at e; cases e
    rw [if_neg this]; exact (r.hp a ho e).1
  · rw [fence_get r]
    have : ¬ S.contains l.addr = true := fun q => (hS _ (by simpa using q)).2.1 l hl rfl
    rw [if_neg this]; exact (r.lfree l hl).1
  · refine by_ng fun ng => ?_
    obtain ⟨x, y, z, w⟩ := r.dat b o e
    refine ng ?_
    clear ng
    refine ⟨x, ?_, z, w⟩
    rw [fence_get r]
    have : ¬ S.contains b = true := fun q => by have := (hS b (by simpa using q)).2.2; rw [show C.D.get? b = some o from e] at this; cases this
    rw [if_neg this]; exact y
/-- the fence falls -/
theorem Rep.unfence {h' : Heap} {H' : HA} {L' : Ls} (r : Rep C h H L) {S : List Addr} (x : Rep (C.fence h S) h' H' L') :
    Rep C h' H' L' ∧ (∀ b ∈ S, h'.get? b = h.get? b ∨ h.get? b = none) ∧ (∀ b ∈ S, (∃ o, h.get? b = some o) → H' b = none ∧ ∀ l ∈ C.locs, l.addr ≠ b) := by
  refine ⟨⟨fun b o e => x.keep b o (fence_keep r S b o e), fun a ho e => ⟨?_, (x.hp a ho e).2⟩, x.loc, fun l hl => ⟨?_, (x.lfree l hl).2⟩, fun b o e => ?_⟩, fun b hb => ?_, fun b hb ⟨o, ho⟩ => ⟨?_, fun l hl z => ?_⟩⟩
  · cases q : C.P.get? a with
    | none => rfl
    | some o => have := (x.hp a ho e).1; rw [fence_keep r S a o q] at this; cases this
  · cases q : C.P.get? l.addr with
    | none => rfl
    | some o => have := (x.lfree l hl).1; rw [fence_keep r S _ o q] at this; cases this
  · refine by_ng fun ng => ?_
    obtain ⟨p, _, q, w⟩ := x.dat b o e
    refine ng ?_
    clear ng
    exact ⟨p, (r.dat b o e).2.1, q, w⟩
  · cases q : h.get? b with
    | none => exact .inr rfl
    | some o =>
      left
      have : (C.fence h S).P.get? b = some o := by rw [fence_get r, if_pos (by simpa using hb)]; exact q
      rw [x.keep b o this]
  · cases q : H' b with
    | none => rfl
    | some ho' =>
      have := (x.hp b ho' q).1
      rw [fence_get r, if_pos (by simpa using hb), ho] at this; cases this
  · have := (x.lfree l hl).1
    rw [fence_get r, z, if_pos (by simpa using hb), ho] at this; cases this
/-- a fenced object of the walk's back may be turned -/
theorem Rep.turnJunk (r : Rep C h H L) {h' : Heap} {b : Addr} (hs : Heap.SameBut b h h') (hP : C.P.get? b = none) (hb : H b = none) (hl : ∀ l ∈ C.locs, l.addr ≠ b) (hD : C.D.get? b = none) : Rep C h' H L :=
  ⟨fun a o e => (hs.2 a fun z => by rw [z, hP] at e; cases e).trans (r.keep a o e), fun a ho e => ⟨(r.hp a ho e).1, (r.hp a ho e).2.of_get (hs.2 a fun z => by rw [z, hb] at e; cases e)⟩,
    fun i l e => (r.loc i l e).of_get (hs.2 _ (hl l (List.mem_of_getElem? e))), r.lfree, r.dat.of (fun a o q x y => (hs.2 a fun z => by rw [z, hD] at q; cases q).trans y) fun _ _ _ q => q⟩
end


/-- what a loop goes over -/
inductive SrcK where
  | lst (a : Addr) | tup (a : Addr) | rng (lo : Int) (n : Nat) | keys (d : Addr) (ep : Nat) | vals (d : Addr) (ep : Nat)
inductive SrcIs (H : HA) : Value → SrcK → List Value → Prop
  | lst {a xs} : H a = some (.lst xs) → SrcIs H (.ref a) (.lst a) xs
  | tup {a xs} : H a = some (.tup xs) → SrcIs H (.ref a) (.tup a) xs
  | rng {a lo n} : H a = some (.rng lo n) → SrcIs H (.ref a) (.rng lo n) ((List.range n).map fun (i : Nat) => Value.int (lo + (i : Int)) 0)
  | keys {a es ep} : H a = some (.dct es ep) → SrcIs H (.ref a) (.keys a ep) (es.map fun e => Value.str e.1 0)
  | vals {v d es ep} : H v = some (.vals d) → H d = some (.dct es ep) → SrcIs H (.ref v) (.vals d ep) (es.map (·.2))

noncomputable def Itr (h : Heap) (it : Addr) (k : SrcK) (n i : Nat) : Prop := match k with
  | .lst a => h.IsListIter it a i
  | .tup a => h.IsTupleIter it a i
  | .rng lo m => n = m ∧ i ≤ m ∧ IsRangeIter h it (lo + i) ((m : Int) - i) 1
  | .keys d ep => h.IsKeyIter it d i n ep
  | .vals d ep => h.IsValIter it d i n ep
theorem Itr.of_keep {h h' : Heap} {it : Addr} {k : SrcK} {n i : Nat} (x : Itr h it k n i) (e : ∀ o, h.get? it = some o → h'.get? it = some o) : Itr h' it k n i := by
  cases k with
  | lst a => obtain ⟨o, g, r⟩ := x; exact ⟨o, e _ g, r⟩
  | tup a => obtain ⟨o, g, r⟩ := x; exact ⟨o, e _ g, r⟩
  | rng lo m => exact ⟨x.1, x.2.1, e _ x.2.2⟩
  | keys d ep => obtain ⟨o, g, r⟩ := x; exact ⟨o, e _ g, r⟩
  | vals d ep => obtain ⟨o, g, r⟩ := x; exact ⟨o, e _ g, r⟩
theorem Itr.some {h : Heap} {it : Addr} {k : SrcK} {n i : Nat} (x : Itr h it k n i) : ∃ o, h.get? it = some o := by
  cases k with
  | lst a => obtain ⟨o, g, r⟩ := x; exact ⟨o, g⟩
  | tup a => obtain ⟨o, g, r⟩ := x; exact ⟨o, g⟩
  | rng lo m => exact ⟨_, x.2.2⟩
  | keys d ep => obtain ⟨o, g, r⟩ := x; exact ⟨o, g⟩
  | vals d ep => obtain ⟨o, g, r⟩ := x; exact ⟨o, g⟩

section
variable {C : Ctx}
theorem not_sys {h : Heap} {H : HA} {L : Ls} {a : Addr} {ho : HO} (S : ∃ o, C.P.get? sysModules = some o) (r : Rep C h H L) (e : H a = some ho) : (a == sysModules) = false := by
  obtain ⟨o, ho'⟩ := S
  have hP := (r.hp a _ e).1
  rw [beq_eq_false_iff_ne]; rintro rfl; rw [hP] at ho'; cases ho'

theorem iter_ok {s : Shared} {H : HA} {L : Ls} {v : Value} {k : SrcK} {xs : List Value} {Q : Value → Shared → Prop} (S : ∃ o, C.P.get? sysModules = some o) (r : Rep C s.heap H L) (e : SrcIs H v k xs)
    (h : ∀ o, Itr (s.heap.push o) s.heap.objs.size k xs.length 0 → Q (.ref s.heap.objs.size) { s with heap := s.heap.push o }) :
    wpAny (model C.prog C.w) C.A (pyIter v) Q NoE s := by
  cases e with
  | lst g =>
    refine by_ng fun ng => ?_
    obtain ⟨_, its, n, ho, hx⟩ := r.hp _ _ g
    refine ng ?_
    clear ng
    exact wpAny_pyIter_list (listOf_is ho) (h _ ⟨_, Heap.get?_push_size _ rfl, rfl, rfl⟩)
  | tup g =>
    refine by_ng fun ng => ?_
    obtain ⟨_, its, n, ho, hx⟩ := r.hp _ _ g
    refine ng ?_
    clear ng
    exact wpAny_pyIter_tuple (tupOf_is ho) (h _ ⟨_, Heap.get?_push_size _ rfl, rfl, rfl⟩)
  | rng g =>
    rename_i a lo n
    refine by_ng fun ng => ?_
    obtain ⟨_, hb, t, u, v, ho⟩ := r.hp _ _ g
    refine ng ?_
    clear ng
    have hs : Builtin.Range.rangeSize lo (lo + n) 1 = (n : Int) := by
      unfold Builtin.Range.rangeSize
      rw [if_pos (by decide)]
      by_cases q : lo < lo + n
      · rw [if_pos q]; simp; (first | lia | omega)
      · rw [if_neg q]; (first | lia | omega)
    refine wpAny_pyIter_range ho ?_ (h _ ⟨by simp, Nat.zero_le _, ?_⟩)
    · unfold Builtin.Range.small
      rw [hs]
      simp only [Builtin.Range.rangeFitsLong]
      obtain ⟨b1, b2, b3⟩ := hb
      simp
      (first | lia | omega)
    · show IsRangeIter _ _ _ _ _
      rw [hs]
      have := Heap.get?_push_size s.heap (o := { cls := .type "range_iterator", data := .fields #[rawInt lo, rawInt (n : Int), rawInt 1] }) rfl
      simpa using this
  | keys g =>
    refine by_ng fun ng => ?_
    obtain ⟨_, kvs, hd, hx⟩ := r.hp _ _ g
    refine ng ?_
    clear ng
    refine wpAny_pyIter_dict (knd := strKind C.prog C.w) (not_sys S r g) hd (h _ ⟨_, Heap.get?_push_size _ rfl, rfl, ?_⟩)
    rw [← hx]; simp
  | vals g g' =>
    refine by_ng fun ng => ?_
    obtain ⟨_, hv⟩ := r.hp _ _ g
    obtain ⟨_, kvs, hd, hx⟩ := r.hp _ _ g'
    refine ng ?_
    clear ng
    refine wpAny_pyIter_values (knd := strKind C.prog C.w) hv hd (h _ ⟨_, Heap.get?_push_size _ rfl, rfl, ?_⟩)
    rw [← hx]; simp

theorem getElem_er (its : Array Value) (i : Nat) (x : Value) (h : (its.toList.map er)[i]? = some x) : ∃ v, its[i]? = some v ∧ er v = x := by
  rw [List.getElem?_map] at h
  obtain ⟨v, hv, e⟩ := Option.map_eq_some_iff.mp h
  exact ⟨v, by simpa using hv, e⟩
theorem getElem_er_none (its : Array Value) (i : Nat) (h : (its.toList.map er)[i]? = none) : its[i]? = none := by
  rw [List.getElem?_map, Option.map_eq_none_iff] at h
  simpa using h

theorem next_ok {s : Shared} {H : HA} {L : Ls} {v : Value} {k : SrcK} {xs : List Value} {it : Addr} {i : Nat} {Q : Option Value → Shared → Prop} (hh : C.A.handled = none) (r : Rep C s.heap H L) (e : SrcIs H v k xs)
    (I : Itr s.heap it k xs.length i)
    (h1 : ∀ x v' h' tk, xs[i]? = some x → er v' = x → Itr h' it k xs.length (i + 1) → Heap.SameBut it s.heap h' → Q (some v') { s with heap := h', toks := tk })
    (h2 : xs[i]? = none → ∀ h', Heap.ExtBut it s.heap h' → Q none { s with heap := h' }) :
    wpAny (model C.prog C.w) C.A (pyNext (.ref it)) Q NoE s := by
  cases e with
  | lst g =>
    refine by_ng fun ng => ?_
    obtain ⟨_, its, n, ho, hx⟩ := r.hp _ _ g
    refine ng ?_
    clear ng
    subst hx
    cases q : (its.toList.map er)[i]? with
    | some x => obtain ⟨v', hv, e'⟩ := getElem_er its i x q; exact wpAny_pyNext_list_item I (listOf_is ho) hv fun h' I' hs => h1 x v' h' s.toks q e' I' hs
    | none => exact wpAny_pyNext_list_end hh I (listOf_is ho) (getElem_er_none its i q) fun h' hs => h2 q h' hs
  | tup g =>
    refine by_ng fun ng => ?_
    obtain ⟨_, its, n, ho, hx⟩ := r.hp _ _ g
    refine ng ?_
    clear ng
    subst hx
    cases q : (its.toList.map er)[i]? with
    | some x => obtain ⟨v', hv, e'⟩ := getElem_er its i x q; exact wpAny_pyNext_tuple_item I (tupOf_is ho) hv fun h' I' hs => h1 x v' h' s.toks q e' I' hs
    | none => exact wpAny_pyNext_tuple_end hh I (tupOf_is ho) (getElem_er_none its i q) fun h' hs => h2 q h' hs
  | rng g =>
    rename_i a lo n
    obtain ⟨_, hle, I'⟩ := I
    by_cases q : i < n
    · have hx : ((List.range n).map fun (i : Nat) => Value.int (lo + (i : Int)) 0)[i]? = some (Value.int (lo + (i : Int)) 0) := by simp [q]
      refine wpAny_pyNext_range_item I' (by (first | lia | omega)) fun h' I'' hs => h1 _ _ h' _ hx rfl ⟨by simp, by (first | lia | omega), ?_⟩ hs
      have e1 : lo + (i : Int) + 1 = lo + ((i + 1 : Nat) : Int) := by (first | lia | omega)
      have e2 : (n : Int) - i - 1 = (n : Int) - ((i + 1 : Nat) : Int) := by (first | lia | omega)
      rw [e1, e2] at I''; exact I''
    · have hx : ((List.range n).map fun (i : Nat) => Value.int (lo + (i : Int)) 0)[i]? = none := by simp; (first | lia | omega)
      exact wpAny_pyNext_range_end hh I' (by (first | lia | omega)) fun h' hs => h2 hx h' hs
  | @keys d es ep g =>
    refine by_ng fun ng => ?_
    obtain ⟨_, kvs, hd, hx⟩ := r.hp _ _ g
    refine ng ?_
    clear ng
    subst hx
    have I' : s.heap.IsKeyIter it d i kvs.length ep := by have := I; simp only [Itr, List.length_map] at this; exact this
    cases q : kvs[i]? with
    | some p =>
      obtain ⟨a, b⟩ := p
      have hq : ((kvs.map (fun kv => (kv.1, er kv.2))).map fun e => Value.str e.1 0)[i]? = some (.str a 0) := by simp [q]
      refine wpAny_pyNext_dict_item I' hd q fun key h' hk I'' hs => ?_
      obtain ⟨t, rfl⟩ := Value.isStrOf_shape hk
      exact h1 _ _ h' s.toks hq rfl (by simpa only [Itr, List.length_map] using I'') hs
    | none =>
      refine wpAny_pyNext_dict_end hh I' hd q fun h' hs => h2 (by simp [q]) h' hs
  | @vals _ d es ep g g' =>
    refine by_ng fun ng => ?_
    obtain ⟨_, kvs, hd, hx⟩ := r.hp _ _ g'
    refine ng ?_
    clear ng
    subst hx
    have I' : s.heap.IsValIter it d i kvs.length ep := by have := I; simp only [Itr, List.length_map] at this; exact this
    cases q : kvs[i]? with
    | some p =>
      obtain ⟨a, b⟩ := p
      have hq : ((kvs.map (fun kv => (kv.1, er kv.2))).map (·.2))[i]? = some (er b) := by simp [q]
      exact wpAny_pyNext_values_item I' hd q fun h' I'' hs => h1 _ _ h' s.toks hq rfl (by simpa only [Itr, List.length_map] using I'') hs
    | none =>
      refine wpAny_pyNext_values_end hh I' hd q fun h' hs => h2 (by simp [q]) h' hs
end


inductive NK where
  | slot (i : Nat) (c : Bool)
  | glob (v : Value)
  | hid (v : Value)

noncomputable def NameOk (C : Ctx) (env : Env) (x : Str) : NK → Prop
  | .slot i false => env.kindOf x = some .local ∧ C.locs[i]? = some (.dict env.locals x)
  | .slot i true => (∃ c, (env.kindOf x = some .cell ∨ (env.kindOf x = some .free ∧ (x == ("__classdict__" : Str)) = false)) ∧ env.cells.lookup x = some c ∧ C.locs[i]? = some (.cell c))
  | .glob v => env.kindOf x = some .globalImplicit ∧ ∃ mg, C.P.Ns env.globals mg ∧ (mg x = some v ∨ (mg x = none ∧ ∃ mb, C.P.Ns env.builtins mb ∧ mb x = some v))
  | .hid v => ∃ mg, C.P.Ns env.globals mg ∧ (mg x = some v ∨ (mg x = none ∧ ∃ mb, C.P.Ns env.builtins mb ∧ mb x = some v))

structure EnvOk (C : Ctx) (T : List (Str × NK)) (env : Env) : Prop where
  fn : env.scope.kind = .function
  nd : C.locs.Nodup
  nm : ∀ x k, (x, k) ∈ T → NameOk C env x k

noncomputable def nameW : NK → W Value
  | .slot i _ => fun Q H L => ∃ v, getL L i = some v ∧ Q v H L
  | .glob v => fun Q H L => Q (er v) H L
  | .hid _ => fun _ _ _ => False
noncomputable def storeW : NK → Value → W Unit
  | .slot i _, v => fun Q H L => Q () H (setL L i (some v))
  | .glob _, _ => fun _ _ _ => False
  | .hid _, _ => fun _ _ _ => False
noncomputable def truthW (v : Value) : W Bool := fun Q H L => match v with
  | .bool b => Q b H L
  | .int i _ => Q (i != 0) H L
  | .str x _ => x.length < 1048576 ∧ Q (x.length != 0) H L
  | .none => Q false H L
  | .ref a => ∃ xs, H a = some (.lst xs) ∧ xs.length < 1048576 ∧ Q (!xs.isEmpty) H L
  | _ => False
noncomputable def constW : Const → W Value
  | .none => fun Q => Q .none
  | .bool b => fun Q => Q (.bool b)
  | .int i => fun Q => Q (.int i 0)
  | .str s => fun Q => Q (.str s 0)
  | _ => fun _ _ _ => False
noncomputable def at? (xs : List Value) (k : Int) : Option Value := (seqIndex? k xs.length).bind (xs[·]?)
noncomputable def atS? (x : Str) (k : Int) : Option Nat := (seqIndex? k x.length).bind (x.cps[·]?)
noncomputable def fits (k : Int) : Prop := -1048576 ≤ k ∧ k ≤ 1048576
noncomputable def itemW (o i : Value) : W Value := fun Q H L => match o, i with
  | .ref a, .int k _ => fits k ∧ ∃ xs x, (H a = some (.lst xs) ∨ H a = some (.tup xs) ∨ ∃ its n, H a = some (.raw (listOf its n)) ∧ its.toList.map er = xs) ∧ at? xs k = some x ∧ Q x H L
  | .ref a, .str x _ => ∃ es ep v, H a = some (.dct es ep) ∧ es.lookup x = some v ∧ Q v H L
  | .str x _, .int k _ => fits k ∧ ∃ c, atS? x k = some c ∧ Q (.str ⟨#[c]⟩ 0) H L
  | _, _ => False

section
variable {C : Ctx}
theorem Ns_keep {h h' : Heap} {a : Addr} {m} (x : h.Ns a m) (e : ∀ o, h.get? a = some o → h'.get? a = some o) : h'.Ns a m := let ⟨o, es, ep, ho, r⟩ := x; ⟨o, es, ep, e o ho, r⟩
theorem Ns_uniq {h : Heap} {a : Addr} {m m'} (x : h.Ns a m) (y : h.Ns a m') : m = m' := by
  refine by_ng fun ng => ?_
  obtain ⟨o, es, ep, ho, hd, _, r⟩ := x
  obtain ⟨o', es', ep', ho', hd', _, r'⟩ := y
  refine ng ?_
  clear ng
  rw [ho] at ho'; cases ho'
  rw [hd] at hd'; cases hd'
  funext n; rw [← r n, ← r' n]

theorem load_ok {T : List (Str × NK)} {env : Env} (V : EnvOk C T env) {x : Str} {k : NK} (hk : (x, k) ∈ T) : OkV C (loadName env x) (nameW k) := by
  intro s H L Q _ r e
  have N := V.nm x k hk
  cases k with
  | hid v => exact e.elim
  | slot i b =>
    obtain ⟨v, hv, hq⟩ := e
    cases b
    · refine by_ng fun ng => ?_
      obtain ⟨hk1, hl⟩ := N
      obtain ⟨m, hm, hx⟩ := r.loc i _ hl
      obtain ⟨cv, h1, h2⟩ := hx v hv
      refine ng ?_
      clear ng
      exact wpAny_loadName_local V.fn hk1 hm h1 (Post.here r (by rw [h2]; exact hq))
    · refine by_ng fun ng => ?_
      obtain ⟨c, hk1, hc, hl⟩ := N
      obtain ⟨o, cv, ho, hd, hx⟩ := r.loc i _ hl
      obtain ⟨y, h1, h2⟩ := hx v hv
      refine ng ?_
      clear ng
      subst h1
      rcases hk1 with hk1 | ⟨hk1, hn⟩
      · exact wpAny_loadName_cell V.fn hk1 hc ⟨o, ho, hd⟩ (Post.here r (by rw [h2]; exact hq))
      · exact wpAny_loadName_free V.fn hk1 hc ⟨o, ho, hd⟩ (Post.here r (by rw [h2]; exact hq)) hn
  | glob v =>
    refine by_ng fun ng => ?_
    obtain ⟨hk1, mg, hg, hv⟩ := N
    refine ng ?_
    clear ng
    unfold loadName
    simp only [Env.blockKind, V.fn, hk1, ScopeKind.isAnnotationScope, Bool.false_and, Bool.false_eq_true, if_false]
    rcases hv with hv | ⟨hv, mb, hb, hv'⟩
    · exact loadGlobal_global (Ns_keep hg fun o => r.keep _ o) hv (Post.here r e)
    · exact loadGlobal_builtin (Ns_keep hg fun o => r.keep _ o) hv (Ns_keep hb fun o => r.keep _ o) hv' (Post.here r e)

theorem nodup_get {α : Type} {l : List α} (h : l.Nodup) {i j : Nat} {x : α} (hi : l[i]? = some x) (hj : l[j]? = some x) : i = j := by
  exact (List.getElem?_inj (List.getElem?_eq_some_iff.mp hi).1 h).mp (hi.trans hj.symm)

theorem Rep.store {h h' : Heap} {H : HA} {L : Ls} (r : Rep C h H L) (nd : C.locs.Nodup) {i : Nat} {l : Loc} (hl : C.locs[i]? = some l) (hs : Heap.SameBut l.addr h h') {v : Value}
    (k : match l with
      | .dict d x => ∀ m, h.Ns d m → h'.Ns d (fun y => if y = x then some v else m y)
      | .cell c => h'.IsCell c (some v)) : Rep C h' H (setL L i (some (er v))) := by
  have hf := r.lfree l (List.mem_of_getElem? hl)
  refine ⟨fun b o e => (hs.2 b fun z => by rw [z, hf.1] at e; cases e).trans (r.keep b o e), fun a ho e => ⟨(r.hp a ho e).1, (r.hp a ho e).2.of_get (hs.2 a fun z => by rw [z, hf.2] at e; cases e)⟩, fun j l' hj => ?_, r.lfree, r.dat.of (fun b o q x y => (hs.2 b fun z => (r.dat b o q).2.2.2 l (List.mem_of_getElem? hl) z.symm).trans y) fun _ _ _ q => q⟩
  rw [getL_setL]
  by_cases q : j = i
  · subst q
    rw [if_pos rfl]
    rw [hl] at hj; cases hj
    cases l with
    | dict d x =>
      obtain ⟨m, hm, _⟩ := r.loc j _ hl
      refine ⟨_, k m hm, fun v' e => ?_⟩
      cases e; exact ⟨v, by simp, rfl⟩
    | cell c =>
      obtain ⟨o, ho, hd⟩ := k
      exact ⟨o, some v, ho, hd, fun v' e => by cases e; exact ⟨v, rfl, rfl⟩⟩
  · rw [if_neg q]
    have old := r.loc j l' hj
    by_cases z : l'.addr = l.addr
    · cases l with
      | dict d x =>
        cases l' with
        | dict d' y =>
          cases (show d' = d from z)
          obtain ⟨m, hm, hx⟩ := old
          refine ⟨_, k m hm, fun v' e => ?_⟩
          obtain ⟨cv, h1, h2⟩ := hx v' e
          have : y ≠ x := fun w => q (nodup_get nd hj (w ▸ hl))
          exact ⟨cv, by simp [this, h1], h2⟩
        | cell c' =>
          cases (show c' = d from z)
          refine by_ng fun ng => ?_
          obtain ⟨o, cv, ho, hd, _⟩ := old
          obtain ⟨m, ⟨o', _, _, ho', hd', _⟩, _⟩ := r.loc i _ hl
          refine ng ?_
          clear ng
          rw [ho] at ho'; cases ho'; rw [hd] at hd'; cases hd'
      | cell c =>
        cases l' with
        | dict d' y =>
          cases (show d' = c from z)
          refine by_ng fun ng => ?_
          obtain ⟨m, ⟨o', _, _, ho', hd', _⟩, _⟩ := old
          obtain ⟨o, cv, ho, hd, _⟩ := r.loc i _ hl
          refine ng ?_
          clear ng
          rw [ho] at ho'; cases ho'; rw [hd] at hd'; cases hd'
        | cell c' =>
          cases (show c' = c from z)
          exact absurd (nodup_get nd hj hl) q
    · exact old.of_get (hs.2 _ z)

theorem bind_ok {T : List (Str × NK)} {env : Env} (V : EnvOk C T env) {x : Str} {k : NK} (hk : (x, k) ∈ T) (v : Value) : Ok C (bindName env x v) (storeW k (er v)) := by
  intro s H L Q _ r e
  have N := V.nm x k hk
  cases k with
  | hid v => exact e.elim
  | glob v => exact e.elim
  | slot i b =>
    refine wpAny_bindName ?_
    cases b
    · refine by_ng fun ng => ?_
      obtain ⟨hk1, hl⟩ := N
      obtain ⟨m, hm, hx⟩ := r.loc i _ hl
      refine ng ?_
      clear ng
      refine wpAny_storeName_local hk1 hm (fun h' hn hs => Post.hp (r.store V.nd hl hs fun m' hm' => by rw [Ns_uniq hm' hm]; exact hn) e) ?_
      rw [V.fn]; rfl
    · refine by_ng fun ng => ?_
      obtain ⟨c, hk1, hc, hl⟩ := N
      obtain ⟨o, cv, ho, hd, hx⟩ := r.loc i _ hl
      refine ng ?_
      clear ng
      rcases hk1 with hk1 | ⟨hk1, hn⟩
      · exact wpAny_storeName_cell V.fn hk1 hc ⟨o, ho, hd⟩ fun h' hn hs => Post.hp0 (r.store V.nd hl hs hn) e
      · have : storeName env x v = (cellOf env x >>= fun c => cellSet c (some v)) := by
          unfold storeName; simp only [hk1, V.fn]; rfl
        rw [this]
        exact wpAny_bind (wpAny_cellOf hc (wpAny_cellSet ⟨o, ho, hd⟩ fun h' hn hs => Post.hp0 (r.store V.nd hl hs hn) e))

theorem truth_ok (v : Value) : Ok C (truthy v) (truthW (er v)) := by
  intro s H L Q _ r e
  unfold truthW at e
  split at e
  · rename_i h; rw [er_bool h]; exact wpAny_truthy_bool (Post.here r e)
  · rename_i h; obtain ⟨t, rfl⟩ := er_int h; exact P.truthy_int (Post.here r e)
  · rename_i x _ h; obtain ⟨t, rfl⟩ := er_str h
    refine P.truthy_str (by (first | lia | omega)) (Post.tok r ?_)
    have : ((x.length : Int) != 0) = (x.length != 0) := by rw [Bool.eq_iff_iff]; simp
    rw [this]; exact e.2
  · rename_i h; rw [er_none h]; exact PyProof.Rows.truthy_none (Post.here r e)
  · rename_i a h; rw [er_ref h]
    refine by_ng fun ng => ?_
    obtain ⟨xs, h1, h2, h3⟩ := e
    obtain ⟨_, its, n, ho, hx⟩ := r.hp _ _ h1
    refine ng ?_
    clear ng
    have hl : its.size = xs.length := by rw [← hx]; simp
    refine wpAny_truthy_list (listOf_is ho) (by (first | lia | omega)) (Post.tok r ?_)
    have : its.isEmpty = xs.isEmpty := by rw [← hx]; simp [Array.isEmpty]
    rw [this]; exact h3
  · exact e.elim

theorem const_ok (env : Env) (c : Const) : OkV C (constValue env c) (constW c) := by
  intro s H L Q _ r e
  cases c <;> first | exact e.elim | exact wpAny_pure (Post.here r e) | exact (fun Γ p hΓ => (Post.tok r e))

theorem IsTup_of {h : Heap} {a : Addr} {its : Array Value} {n : Nat} (e : h.get? a = some (tupOf its n)) : IsTup h a its := ⟨_, e, rfl, n, rfl⟩

theorem seq_of {h : Heap} {H : HA} {L : Ls} (r : Rep C h H L) {a : Addr} {xs : List Value} (h1 : H a = some (.lst xs) ∨ H a = some (.tup xs) ∨ ∃ its n, H a = some (.raw (listOf its n)) ∧ its.toList.map er = xs) :
    (∃ its n, h.get? a = some (listOf its n) ∧ its.toList.map er = xs) ∨ H a = some (.tup xs) := by
  rcases h1 with h1 | h1 | ⟨its, n, h1, hx⟩
  · exact .inl (r.hp _ _ h1).2
  · exact .inr h1
  · exact .inl ⟨its, n, (r.hp _ _ h1).2, hx⟩
theorem item_ok {s : Shared} {H : HA} {L : Ls} {o i : Value} {Q : Value → HA → Ls → Prop} (r : Rep C s.heap H L) (e : itemW (er o) (er i) Q H L) :
    (∃ T id, typeLookup (.type T) "__getitem__" = pure (some (.builtin id)) ∧ s.TypeIs o T) ∧ wpAny (model C.prog C.w) C.A (getItem o i) (fun v => Post C s Q (er v)) NoE s := by
  unfold itemW at e
  split at e
  · rename_i ho hi
    rw [er_ref ho]; obtain ⟨u, rfl⟩ := er_int hi
    refine by_ng fun ng => ?_
    obtain ⟨hf, xs, x, h1, h2, h3⟩ := e
    refine ng ?_
    clear ng
    unfold fits at hf
    unfold at? at h2
    obtain ⟨j, hj, hx⟩ := Option.bind_eq_some_iff.mp h2
    have h1 := seq_of r h1
    rcases h1 with ⟨its, n, ho, hxs⟩ | h1
    · subst hxs
      obtain ⟨v', hv, e'⟩ := getElem_er its j x hx
      refine ⟨⟨"list", _, list_getitem_lookup, (listOf_is ho).typeIs⟩, ?_⟩
      rw [List.length_map, Array.length_toList] at hj
      unfold seqIndex? at hj
      simp only [Bool.and_eq_true, decide_eq_true_eq] at hj
      rename_i k _ _
      by_cases hk : k < 0
      · rw [if_pos hk] at hj
        split at hj
        · cases hj
          exact wpAny_getItem_list_neg (listOf_is ho) hk (by (first | lia | omega)) (by (first | lia | omega)) hv (Post.here r (by rw [e']; exact h3))
        · cases hj
      · rw [if_neg hk] at hj
        split at hj
        · cases hj
          exact wpAny_getItem_list (listOf_is ho) (by (first | lia | omega)) (by (first | lia | omega)) hv (Post.here r (by rw [e']; exact h3))
        · cases hj
    · refine by_ng fun ng => ?_
      obtain ⟨_, its, n, ho, hxs⟩ := r.hp _ _ h1
      refine ng ?_
      clear ng
      subst hxs
      obtain ⟨v', hv, e'⟩ := getElem_er its j x hx
      refine ⟨⟨"tuple", _, slot_tuple_getitem.lookup, (IsTup_of ho).typeIs⟩, ?_⟩
      exact getItem_tuple (IsTup_of ho) (by (first | lia | omega)) (by (first | lia | omega)) (by simpa using hj) hv (Post.here r (by rw [e']; exact h3))
  · rename_i ho hi
    rw [er_ref ho]; obtain ⟨u, rfl⟩ := er_str hi
    refine by_ng fun ng => ?_
    obtain ⟨es, ep, v, h1, h2, h3⟩ := e
    obtain ⟨_, kvs, hd, rfl⟩ := r.hp _ _ h1
    refine ng ?_
    clear ng
    rw [lookup_valueAt] at h2
    obtain ⟨v', hv, rfl⟩ := Option.map_eq_some_iff.mp h2
    refine ⟨⟨"dict", _, slot_dict_getitem.lookup, hd.dictOf.mapOf.typeIs⟩, ?_⟩
    exact wpAny_getItem_of (knd := strKind C.prog C.w) (strKind_is _ _ _ _) hd.dictOf.mapOf hv (Post.tok r h3)
  · rename_i ho hi
    obtain ⟨t, rfl⟩ := er_str ho; obtain ⟨u, rfl⟩ := er_int hi
    refine by_ng fun ng => ?_
    obtain ⟨hf, c, h2, h3⟩ := e
    refine ng ?_
    clear ng
    unfold fits at hf
    refine ⟨⟨"str", _, slot_str_getitem.lookup, typeIs_str _ _ _⟩, ?_⟩
    refine P.getItem_str ?_ h2 (Post.tok r h3)
    simp; (first | lia | omega)
  · exact e.elim
end


noncomputable def Ctx.at (C : Ctx) (P : Heap) : Ctx := { C with P := P }
noncomputable def HLe (P P' : Heap) : Prop := ∀ b o, P.get? b = some o → P'.get? b = some o
structure OkA {α β : Type} (e : α → β) (C : Ctx) (t : Sem α) (x : W β) : Prop where
  ok : ∀ P, HLe C.P P → OkG e (C.at P) t x
abbrev OkAV (C : Ctx) (t : Sem Value) (x : W Value) : Prop := OkA er C t x
abbrev OkAU {α : Type} (C : Ctx) (t : Sem α) (x : W α) : Prop := OkA (fun a => a) C t x
noncomputable def erF : Flow → Flow
  | .ret v => .ret (er v)
  | f => f
abbrev OkAF (C : Ctx) (t : Sem Flow) (x : W Flow) : Prop := OkA erF C t x
abbrev OkAL (C : Ctx) (t : Sem (List Value)) (x : W (List Value)) : Prop := OkA (List.map er) C t x

theorem EnvOk.at {C : Ctx} {T : List (Str × NK)} {env : Env} (V : EnvOk C T env) {P : Heap} (h : HLe C.P P) : EnvOk (C.at P) T env := by
  refine ⟨V.fn, V.nd, fun x k hk => ?_⟩
  have N := V.nm x k hk
  cases k with
  | slot i b => cases b <;> exact N
  | hid v =>
    obtain ⟨mg, hg, r⟩ := N
    refine ⟨mg, Ns_keep hg (h _), ?_⟩
    rcases r with r | ⟨r, mb, hb, r'⟩
    · exact .inl r
    · exact .inr ⟨r, mb, Ns_keep hb (h _), r'⟩
  | glob v =>
    refine by_ng fun ng => ?_
    obtain ⟨a, mg, hg, r⟩ := N
    refine ng ?_
    clear ng
    refine ⟨a, mg, Ns_keep hg (h _), ?_⟩
    rcases r with r | ⟨r, mb, hb, r'⟩
    · exact .inl r
    · exact .inr ⟨r, mb, Ns_keep hb (h _), r'⟩
theorem Stat.at {C : Ctx} (S : Stat C) {P : Heap} (h : HLe C.P P) : Stat (C.at P) :=
  ⟨let ⟨o, ho⟩ := S.sys; ⟨o, h _ _ ho⟩, let ⟨mc, hm, hx⟩ := S.lim; ⟨mc, Ns_keep hm (h _), hx⟩, S.units⟩
theorem HLe.trans {a b c : Heap} (x : HLe a b) (y : HLe b c) : HLe a c := fun p o e => y p o (x p o e)

section
variable {α β γ δ : Type} {C : Ctx} {e : α → γ} {e' : β → δ}
theorem OkA.ret (a : α) : OkA e C (Pure.pure a) (fun Q => Q (e a)) := OkA.mk fun P h => OkG.ret a
theorem OkA.bind {m : Sem α} {f : α → Sem β} {x : W γ} {y : γ → W δ} (hm : OkA e C m x) (hf : ∀ a, OkA e' C (f a) (y (e a))) : OkA e' C (m >>= f) (fun Q => x fun a => y a Q) := OkA.mk fun P h => OkG.bind (hm.ok P h) fun a => (hf a).ok P h
theorem OkA.weaken {t : Sem α} {x y : W γ} (h : OkA e C t x) (hxy : ∀ Q H L, y Q H L → x Q H L) : OkA e C t y := OkA.mk fun P hP => (h.ok P hP).weaken hxy
theorem OkA.holding {vs : List Value} {m : Sem α} {x : W γ} (h : OkA e C m x) : OkA e C (PySem.holding vs m) x := OkA.mk fun P hP => (h.ok P hP).holding
theorem OkA.stand {p : Pos} {m : Unit → Sem α} {x : W γ} (h : OkA e C (m ()) x) : OkA e C (standAt p >>= m) x := OkA.mk fun P hP => (h.ok P hP).stand
theorem OkA.operate {e : Value → γ} {vs : List Value} {m : Sem Value} {x : W γ} (h : OkA e C m x) : OkA e C (PySem.operate vs m) x := OkA.mk fun P hP => (h.ok P hP).operate
theorem OkA.release {vs ks : List Value} {m : Unit → Sem α} {x : W γ} (h : OkA e C (m ()) x) : OkA e C (PySem.release vs ks >>= m) x := OkA.mk fun P hP => (h.ok P hP).release
theorem OkA.release' {vs ks : List Value} : OkAU C (PySem.release vs ks) (fun Q => Q ()) := OkA.mk fun P hP => OkG.release'
theorem OkA.cond {b : Bool} {t u : Sem α} {x y : W γ} (ht : b = true → OkA e C t x) (hu : b = false → OkA e C u y) : OkA e C (if b = true then t else u) (fun Q H L => if b = true then x Q H L else y Q H L) := by
  cases b with
  | true => exact ht rfl
  | false => exact hu rfl
theorem OkA.if_ {m : Sem Bool} {t u : Sem α} {w : W Bool} {x y : W γ} (hm : OkAU C m w) (ht : OkA e C t x) (hu : OkA e C u y) :
    OkA e C (m >>= fun b => if b = true then t else u) (fun Q => w fun b H L => if b = true then x Q H L else y Q H L) :=
  OkA.bind (y := fun b Q H L => if b = true then x Q H L else y Q H L) hm fun b => OkA.cond (fun _ => ht) fun _ => hu
end

/-! expressions -/
section
variable {C : Ctx} {env : Env} {T : List (Str × NK)}
theorem E_const (c : Const) (k : Nat) (p : Pos) : OkAV C (eval (.Constant c k p) env) (constW c) := OkA.mk fun P h => by rw [arm_eval_Constant]; exact const_ok env c
theorem E_name (V : EnvOk C T env) {x : Str} {k : NK} {p : Pos} (hk : (x, k) ∈ T) (hd : (x == ("__debug__" : Str)) = false := by decide) : OkAV C (eval (.Name x p) env) (nameW k) := by
  rw [arm_eval_Name]
  refine OkA.stand ?_
  simp only [hd, Bool.false_eq_true, if_false]
  exact OkA.mk fun P h => load_ok (V.at h) hk
theorem E_bin {l r : Expr} {op : Operator} {p : Pos} {x y : W Value} (hl : OkAV C (eval l env) x) (hr : OkAV C (eval r env) y) : OkAV C (eval (.BinOp l op r p) env) (fun Q => x fun a => y fun b => binW op a b Q) := by
  rw [arm_eval_BinOp]
  exact OkA.bind (y := fun a Q => y fun b => binW op a b Q) hl fun a => OkA.bind (y := fun b Q => binW op (er a) b Q) hr.holding fun b => OkA.stand (OkA.operate <| OkA.mk fun P h => bin_ok op a b)
theorem E_cmp (S : Stat C) {l r : Expr} {op : CmpOp} {p : Pos} {x y : W Value} (hl : OkAV C (eval l env) x) (hr : OkAV C (eval r env) y) (hm : markedBehindIn op r (eval r env) = eval r env := by rfl) :
    OkAV C (eval (.Compare l [op] [r] p) env) (fun Q => x fun a => y fun b => cmpW op a b Q) := by
  rw [arm_eval_Compare]
  refine OkA.bind (y := fun a Q => y fun b => cmpW op a b Q) hl fun a => ?_
  show OkAV C (compareChain p a [op] [markedBehindIn op r (eval r env)]) _
  rw [hm]
  exact OkA.bind (y := fun b Q => cmpW op (er a) b Q) hr.holding fun b => OkA.stand (OkA.operate <| OkA.mk fun P h => cmp_ok (S.at h) op a b)
theorem E_ifexp {t b o : Expr} {p : Pos} {w : W Bool} {x y : W Value} (ht : OkAU C (isTrue t env (eval t env)) w) (hb : OkAV C (eval b env) x) (ho : OkAV C (eval o env) y) :
    OkAV C (eval (.IfExp t b o p) env) (fun Q => w fun b H L => if b = true then x Q H L else y Q H L) := by
  rw [arm_eval_IfExp]
  exact OkA.if_ ht hb ho
theorem E_or {l r : Expr} {p : Pos} {x y : W Value} (hl : OkAV C (eval l env) x) (hr : OkAV C (eval r env) y) : OkAV C (eval (.BoolOp .Or [l, r] p) env) (fun Q => x fun a => truthW a fun b H L => if b = true then Q a H L else y Q H L) := by
  rw [arm_eval_BoolOp]
  show OkAV C (boolOp p .Or [eval l env, eval r env]) _
  unfold boolOp
  refine OkA.bind (y := fun a Q => truthW a fun b H L => if b = true then Q a H L else y Q H L) hl fun a => OkA.stand ?_
  refine OkA.bind (e := fun b : Bool => b) (y := fun b Q H L => if b = true then Q (er a) H L else y Q H L) (OkA.holding <| OkA.mk fun P h => truth_ok a) fun b => ?_
  cases b with
  | true => exact OkA.ret a
  | false => exact hr
noncomputable def negW (a : Value) : W Value := fun Q H L => ∃ i, a = .int i 0 ∧ Q (.int (-i) 0) H L
theorem E_neg {x : Expr} {p : Pos} {w : W Value} (hx : OkAV C (eval x env) w) : OkAV C (eval (.UnaryOp .USub x p) env) (fun Q => w fun a => negW a Q) := by
  rw [arm_eval_UnaryOp]
  refine OkA.bind (y := fun a Q => negW a Q) hx fun a => OkA.stand (OkA.holding <| OkA.mk fun P h => ?_)
  intro s H L Q _ r rr1
  refine by_ng fun ng => ?_
  obtain ⟨i, ea, hq⟩ := rr1
  obtain ⟨t, rfl⟩ := er_int ea
  refine ng ?_
  clear ng
  exact PySem.P.neg_int (Post.tok r hq)
theorem E_named (V : EnvOk C T env) {x : Str} {k : NK} {p p' : Pos} {v : Expr} {w : W Value} (hk : (x, k) ∈ T) (hv : OkAV C (eval v env) w) :
    OkAV C (eval (.NamedExpr (.Name x p) v p') env) (fun Q => w fun a => storeW k a fun _ => Q a) := by
  rw [arm_eval_NamedExpr]
  refine OkA.bind (y := fun a Q => storeW k a fun _ => Q a) hv fun a => ?_
  refine OkA.bind (e := fun b : Unit => b) (y := fun _ Q => Q (er a)) (OkA.holding ?_) fun _ => OkA.ret a
  rw [arm_assign_Name]
  exact OkA.stand <| OkA.mk fun P h => bind_ok (V.at h) hk a

/-! lists of expressions -/
theorem E_nil {p : Pos} : OkAL C (spliced (backTo p (starEach [] env))) (fun Q => Q []) := OkA.ret _
theorem E_cons {p : Pos} {x : Expr} {xs : List Expr} {w : W Value} {ws : W (List Value)} (hx : OkAV C (eval x env) w) (hxs : OkAL C (spliced (backTo p (starEach xs env))) ws)
    (hs : starEach (x :: xs) env = (false, eval x env) :: starEach xs env := by rfl) : OkAL C (spliced (backTo p (starEach (x :: xs) env))) (fun Q => w fun a => ws fun as => Q (a :: as)) := by
  rw [hs]
  show OkAL C (spliced ((false, eval x env) :: backTo p (starEach xs env))) _
  unfold spliced
  refine OkA.bind (y := fun a Q => ws fun as => Q (a :: as)) hx fun a => ?_
  simp only [Bool.false_eq_true, if_false]
  exact OkA.bind (e := fun l : List Value => l) (x := fun Q => Q [a]) (y := fun here Q => ws fun as => Q (here.map er ++ as)) (OkA.ret _) fun here =>
    OkA.bind (y := fun as Q => Q (here.map er ++ as)) hxs.holding fun as => OkA.mk fun P h => OkG.pure fun Q H L q => by simpa using q

theorem newList_ok (vs : List Value) : OkV C (newList vs) (fun Q H L => vs.length ≤ sizeLine ∧ newW (.lst (vs.map er)) Q H L) := by
  intro s H L Q _ r rr2
  obtain ⟨hz, e⟩ := rr2
  refine wpAny_newList (Post.hp0 (r.alloc (ho := .lst (vs.map er)) _ ⟨vs.toArray, _, Heap.get?_push_size _ rfl, by simp⟩) (e _ r.fresh)) hz
theorem newTuple_ok (vs : List Value) : OkV C (newTuple vs) (fun Q H L => vs.length ≤ sizeLine ∧ newW (.tup (vs.map er)) Q H L) := by
  intro s H L Q _ r rr3
  obtain ⟨hz, e⟩ := rr3
  refine wpAny_newTuple (Post.hp0 (r.alloc (ho := .tup (vs.map er)) _ ⟨vs.toArray, _, Heap.get?_push_size _ rfl, by simp⟩) (e _ r.fresh)) hz

theorem E_list {xs : List Expr} {p : Pos} {ws : W (List Value)} (h : OkAL C (spliced (backTo p (starEach xs env))) ws) : OkAV C (eval (.List xs p) env) (fun Q => ws fun as H L => as.length ≤ sizeLine ∧ newW (.lst as) Q H L) := by
  rw [arm_eval_List]
  refine OkA.stand (OkA.bind (y := fun as Q H L => as.length ≤ sizeLine ∧ newW (.lst as) Q H L) h fun as => OkA.mk fun P hP => (newList_ok as).weaken fun Q H L q => by simpa using q)
theorem E_tuple {xs : List Expr} {k : Nat} {p : Pos} {ws : W (List Value)} (h : OkAL C (spliced (backTo p (starEach xs env))) ws) : OkAV C (eval (.Tuple xs k p) env) (fun Q => ws fun as H L => as.length ≤ sizeLine ∧ newW (.tup as) Q H L) := by
  rw [arm_eval_Tuple]
  refine OkA.stand (OkA.bind (y := fun as Q H L => as.length ≤ sizeLine ∧ newW (.tup as) Q H L) h fun as => OkA.mk fun P hP => (newTuple_ok as).weaken fun Q H L q => by simpa using q)

theorem E_sub {o i : Expr} {p : Pos} {x y : W Value} (ho : OkAV C (eval o env) x) (hi : OkAV C (eval i env) y) (hs : ∀ ov iv, subscripted i false ov iv = PySem.operate [ov, iv] (getItem ov iv) := by intro _ _; rfl) :
    OkAV C (eval (.Subscript o i p) env) (fun Q => x fun a => y fun b => itemW a b Q) := by
  rw [arm_eval_Subscript]
  refine OkA.bind (y := fun a Q => y fun b => itemW a b Q) ho fun ov => OkA.bind (y := fun b Q => itemW (er ov) b Q) hi.holding fun iv => OkA.stand <| OkA.mk fun P h => ?_
  intro s H L Q _ r e
  refine by_ng fun ng => ?_
  obtain ⟨⟨T, id, h1, h2⟩, h3⟩ := item_ok r e
  refine ng ?_
  clear ng
  exact tail_any (value := o) (slice := i) h2 h1 h3 (hs ov iv)
end

/-! tests -/
section
variable {C : Ctx} {env : Env} {T : List (Str × NK)}
theorem T_not {x : Expr} {p : Pos} {w : W Bool} {t : Sem Value} (h : OkAU C (isTrue x env (eval x env)) w) : OkAU C (isTrue (.UnaryOp .Not x p) env t) (fun Q => w fun b => Q (!b)) := by
  rw [arm_isTrue_UnaryOp]
  exact OkA.bind (e := fun b : Bool => b) (y := fun b Q => Q (!b)) h fun b => OkA.ret _
theorem T_cmp (S : Stat C) {l r : Expr} {op : CmpOp} {p : Pos} {x y : W Value} {t : Sem Value} (hl : OkAV C (eval l env) x) (hr : OkAV C (eval r env) y) (hm : markedBehindIn op r (eval r env) = eval r env := by rfl) :
    OkAU C (isTrue (.Compare l [op] [r] p) env t) (fun Q => x fun a => y fun b => cmpW op a b fun c => truthW c Q) := by
  rw [arm_isTrue_Compare]
  refine OkA.bind (y := fun a Q => y fun b => cmpW op a b fun c => truthW c Q) hl fun a => ?_
  show OkAU C (testChain p a [op] [markedBehindIn op r (eval r env)]) _
  rw [hm]
  exact OkA.bind (y := fun b Q => cmpW op (er a) b fun c => truthW c Q) hr.holding fun b => OkA.stand (OkA.bind (y := fun c Q => truthW c Q) (OkA.operate <| OkA.mk fun P h => cmp_ok (S.at h) op a b) fun c => OkA.holding <| OkA.mk fun P h => truth_ok c)
theorem T_val {x : Expr} {w : W Value} (h : OkAV C (eval x env) w) (hx : ∀ t, isTrue x env t = (do let v ← t; standAt x.pos; PySem.holding [v] (truthy v)) := by intro _; rfl) :
    OkAU C (isTrue x env (eval x env)) (fun Q => w fun c => truthW c Q) := by
  rw [hx]
  exact OkA.bind (y := fun c Q => truthW c Q) h fun c => OkA.stand (OkA.holding <| OkA.mk fun P h => truth_ok c)
theorem T_and {x y : Expr} {p : Pos} {t : Sem Value} {v w : W Bool} (hx : OkAU C (isTrue x env (eval x env)) v) (hy : OkAU C (isTrue y env (eval y env)) w) :
    OkAU C (isTrue (.BoolOp .And [x, y] p) env t) (fun Q => v fun b H L => if b = true then w Q H L else Q false H L) := by
  rw [arm_isTrue_BoolOp, arm_allTrue_cons]
  refine OkA.bind (e := fun b : Bool => b) (y := fun b Q H L => if b = true then w Q H L else Q false H L) hx fun b => ?_
  cases b with
  | false => exact OkA.ret _
  | true =>
    show OkAU C (allTrue .And [y] env) w
    rw [arm_allTrue_cons]
    refine (OkA.bind (e := fun b : Bool => b) (y := fun b Q H L => Q b H L) hy fun b => ?_)
    cases b with
    | false => exact OkA.ret _
    | true => exact OkA.ret _
theorem T_or {x y : Expr} {p : Pos} {t : Sem Value} {v w : W Bool} (hx : OkAU C (isTrue x env (eval x env)) v) (hy : OkAU C (isTrue y env (eval y env)) w) :
    OkAU C (isTrue (.BoolOp .Or [x, y] p) env t) (fun Q => v fun b H L => if b = true then Q true H L else w Q H L) := by
  rw [arm_isTrue_BoolOp, arm_allTrue_cons]
  refine OkA.bind (e := fun b : Bool => b) (y := fun b Q H L => if b = true then Q true H L else w Q H L) hx fun b => ?_
  cases b with
  | true => exact OkA.ret _
  | false =>
    show OkAU C (allTrue .Or [y] env) w
    rw [arm_allTrue_cons]
    refine (OkA.bind (e := fun b : Bool => b) (y := fun b Q H L => Q b H L) hy fun b => ?_)
    cases b with
    | false => exact OkA.ret _
    | true => exact OkA.ret _
theorem T_or3 {x y z : Expr} {p : Pos} {t : Sem Value} {u v w : W Bool} (hx : OkAU C (isTrue x env (eval x env)) u) (hy : OkAU C (isTrue y env (eval y env)) v) (hz : OkAU C (isTrue z env (eval z env)) w) :
    OkAU C (isTrue (.BoolOp .Or [x, y, z] p) env t) (fun Q => u fun b H L => if b = true then Q true H L else v (fun b H L => if b = true then Q true H L else w Q H L) H L) := by
  rw [arm_isTrue_BoolOp, arm_allTrue_cons]
  refine OkA.bind (e := fun b : Bool => b) (y := fun b Q H L => if b = true then Q true H L else v (fun b H L => if b = true then Q true H L else w Q H L) H L) hx fun b => ?_
  cases b with
  | true => exact OkA.ret _
  | false => exact T_or (p := p) (t := t) hy hz
end


noncomputable def putE (es : List (Str × Value)) (k : Str) (v : Value) : List (Str × Value) :=
  if es.any (fun kv => kv.1 = k) then es.map (fun kv => if kv.1 = k then (kv.1, v) else kv) else es ++ [(k, v)]
theorem putE_stored (kvs : List (Str × Value)) (k : Str) (v : Value) : (stored kvs k v).map (fun kv => (kv.1, er kv.2)) = putE (kvs.map fun kv => (kv.1, er kv.2)) k (er v) := by
  unfold stored putE
  rw [List.any_map]
  have : ((fun kv : Str × Value => decide (kv.1 = k)) ∘ fun kv : Str × Value => (kv.1, er kv.2)) = fun kv => decide (kv.1 = k) := rfl
  rw [this]
  by_cases h : (kvs.any fun kv => decide (kv.1 = k)) = true
  · rw [if_pos h, if_pos h, List.map_map, List.map_map]
    refine List.map_congr_left fun kv _ => ?_
    show (fun kv : Str × Value => (kv.1, er kv.2)) (if kv.1 = k then (kv.1, v) else kv) = if kv.1 = k then (kv.1, er v) else (kv.1, er kv.2)
    by_cases q : kv.1 = k <;> simp [q]
  · rw [if_neg h, if_neg h, List.map_append]; rfl

noncomputable def setW (o i v : Value) : W Unit := fun Q H L => match o, i with
  | .ref a, .int k _ => fits k ∧ 0 ≤ k ∧ ∃ xs, H a = some (.lst xs) ∧ k < xs.length ∧ Q () (upd H a (.lst (xs.set k.toNat v))) L
  | .ref a, .str x _ => ∃ es ep, H a = some (.dct es ep) ∧ es.length ≤ 1048575 ∧ ∀ ep', Q () (upd H a (.dct (putE es x v) ep')) L
  | _, _ => False

section
variable {C : Ctx}
theorem setItem_list_plain {prog : Program} {w : World} {A : Around} {E : Value → Shared → Prop} {s : Shared} {l : Addr} {items : Array Value} {n : Nat} {k : Int} {t : Tok} {v : Value} {Q : Unit → Shared → Prop} (hl : s.heap.get? l = some (listOf items n))
    (h0 : 0 ≤ k) (hfit : k < 2 ^ 63) (hn : k < items.size)
    (hQ : ∀ h' n', h'.get? l = some (listOf (items.setIfInBounds k.toNat v) n') → Heap.SameBut l s.heap h' → Q () { s with heap := h' }) :
    wpAny (model prog w) A (setItem (.ref l) (.int k t) v) Q E s := by
  have hl' := listOf_is hl
  refine by_ng fun ng => ?_
  obtain ⟨o, ho, hc, ne, hd⟩ := id hl'
  refine ng ?_
  clear ng
  unfold setItem
  try with_reducible refine wpAny_holding ?_
  first | refine wpAny_bind (wpAny_pure ?_) | skip
  refine wpAny_bind (wpAny_sequenceKey hl'.typeIs (by decide) ?_)
  refine wpAny_bind (wpAny_callSpecial?_slot (name := Str.ofString "__setitem__") hl'.typeIs slot_list_setitem
    (wpAny_call_entry slot_list_setitem hl'.typeIs entry_list_setitem ?_ (args_list_setitem _ _ _)))
  show wpAny _ _ (Builtin.List.listSubscript? (.int k t) >>= _) _ _ s
  refine wpAny_bind (wpAny_listSubscript_int (fitsIndex_of h0 hfit) ?_)
  clear hfit
  obtain ⟨j, rfl⟩ := Int.eq_ofNat_of_zero_le h0
  have hj : j < items.size := by (first | lia | omega)
  have hx' : items[j]? = some items[j] := Array.getElem?_eq_getElem hj
  show wpAny _ _ ((seqItemAt l j >>= fun r => pure (r.map (j, ·))) >>= _) _ _ s
  refine wpAny_bind (wpAny_bind (wpAny_seqItemAt ho hd (wpAny_pure ?_)))
  rw [hx']
  show wpAny _ _ (setSeqItemAt l j v >>= _) _ _ s
  have hfin : ∃ n', (s.heap.update l (Obj.mapSeq (·.setIfInBounds j v))).get? l = some (listOf (items.setIfInBounds j v) n') := by
    obtain ⟨n', hd'⟩ := Obj.data_mapSeq (o := listOf items n) rfl (·.setIfInBounds j v)
    refine ⟨n', ?_⟩
    rw [Heap.get?_update_self _ hl (Obj.isFreed_of_seq hd')]
    have : Obj.mapSeq (·.setIfInBounds j v) (listOf items n) = { listOf items n with data := (Obj.mapSeq (·.setIfInBounds j v) (listOf items n)).data } := rfl
    rw [this, hd']
  obtain ⟨n', hfin⟩ := hfin
  refine wpAny_bind (wpAny_setSeqItemAt ho hd ?_)
  first
    | exact wpAny_bind (wpAny_pure (wpAny_pure ⟨.none, rfl, wpAny_pure (hQ _ n' hfin (Heap.SameBut.update ..))⟩))
    | exact wpAny_pure ⟨.none, rfl, wpAny_pure (hQ _ n' hfin (Heap.SameBut.update ..))⟩

theorem set_ok (o i v : Value) : Ok C (setItem o i v) (setW (er o) (er i) (er v)) := by
  intro s H L Q _ r e
  unfold setW at e
  split at e
  · rename_i ho hi
    rw [er_ref ho]; obtain ⟨u, rfl⟩ := er_int hi
    refine by_ng fun ng => ?_
    obtain ⟨hf, h0, xs, h1, h2, h3⟩ := e
    refine ng ?_
    clear ng
    unfold fits at hf
    refine by_ng fun ng => ?_
    obtain ⟨_, its, n, hl, hxs⟩ := r.hp _ _ h1
    refine ng ?_
    clear ng
    subst hxs
    refine setItem_list_plain hl h0 (by (first | lia | omega)) (by simpa using h2) fun h' n' hl' hs => Post.hp0 (r.turn (ho' := .lst _) h1 hs ⟨_, _, hl', by rw [Array.toList_setIfInBounds, List.map_set]⟩) h3
  · rename_i ho hi
    rw [er_ref ho]; obtain ⟨u, rfl⟩ := er_str hi
    refine by_ng fun ng => ?_
    obtain ⟨es, ep, h1, h2, h3⟩ := e
    obtain ⟨_, kvs, hd, rfl⟩ := r.hp _ _ h1
    refine ng ?_
    clear ng
    have hz : kvs.length ≤ sizeLine := by
      have : kvs.length ≤ 1048575 := by simpa using h2
      exact Nat.le_trans this (by decide)
    refine wpAny_setItem_pairs (knd := strKind C.prog C.w) (strKind_is _ _ _ u) hd.dictOf (fun h' hd' hs => ?_) hz
    obtain ⟨ep', hd''⟩ := hd'.dictAt
    exact Post.hp (r.turn (ho' := .dct _ ep') h1 hs ⟨_, hd'', putE_stored _ _ _⟩) (h3 ep')
  · exact e.elim
end

/-! stores -/
section
variable {C : Ctx} {env : Env} {T : List (Str × NK)}
/-- a store of a known (erased) value -/
noncomputable def AsgnOk (C : Ctx) (f : Value → Sem Unit) (y : Value → W Unit) : Prop := ∀ v, OkAU C (f v) (y (er v))
theorem A_name (V : EnvOk C T env) {x : Str} {k : NK} {p : Pos} (hk : (x, k) ∈ T) : AsgnOk C (assign (.Name x p) env) (storeW k) := fun v => by
  rw [arm_assign_Name]
  exact OkA.stand <| OkA.mk fun P h => bind_ok (V.at h) hk v
theorem A_sub {o i : Expr} {p : Pos} {x y : W Value} (ho : OkAV C (eval o env) x) (hi : OkAV C (eval i env) y) : AsgnOk C (assign (.Subscript o i p) env) (fun v Q => x fun a => y fun b => setW a b v Q) := fun v => by
  rw [arm_assign_Subscript]
  exact OkA.bind (y := fun a Q => y fun b => setW a b (er v) Q) ho.holding fun ov => OkA.bind (y := fun b Q => setW (er ov) b (er v) Q) hi.holding fun iv => OkA.stand
    (OkA.bind (e := fun u : Unit => u) (y := fun _ Q => Q ()) (OkA.holding <| OkA.mk fun P h => set_ok ov iv v) fun _ => OkA.release')

noncomputable def inOrderW : List (Value → W Unit) → List Value → W Unit
  | y :: ys, x :: xs => fun Q => y x fun _ => inOrderW ys xs Q
  | _, _ => fun Q => Q ()
inductive AsgnsOk (C : Ctx) : List (Bool × (Value → Sem Unit)) → List (Value → W Unit) → Prop
  | nil : AsgnsOk C [] []
  | cons {f : Value → Sem Unit} {y fs ys} : AsgnOk C f y → AsgnsOk C fs ys → AsgnsOk C ((false, f) :: fs) (y :: ys)
theorem AsgnsOk.length {fs ys} (h : AsgnsOk C fs ys) : fs.length = ys.length := by induction h <;> simp_all
theorem AsgnsOk.star {fs ys} (h : AsgnsOk C fs ys) : fs.findIdx? (·.1) = none := by
  induction h with
  | nil => rfl
  | cons a b ih => rw [List.findIdx?_cons, ih]; rfl
theorem AsgnsOk.inOrder {fs ys} (h : AsgnsOk C fs ys) : ∀ vs : List Value, OkAU C (assignInOrder (fs.map (·.2)) vs) (inOrderW ys (vs.map er)) := by
  induction h with
  | nil => intro vs; cases vs <;> exact OkA.ret _
  | cons a b ih =>
    intro vs
    cases vs with
    | nil => exact OkA.ret _
    | cons v vs =>
      simp only [List.map_cons, assignInOrder, inOrderW]
      exact OkA.bind (e := fun u : Unit => u) (y := fun _ Q => inOrderW _ (vs.map er) Q) (OkA.holding (a v)) fun _ => ih vs
noncomputable def unpackW (ys : List (Value → W Unit)) (v : Value) : W Unit := fun Q H L => ∃ a xs, v = .ref a ∧ H a = some (.tup xs) ∧ xs.length = ys.length ∧ inOrderW ys xs Q H L
theorem unpack_ok (hh : C.A.handled = none) {fs ys} (h : AsgnsOk C fs ys) : AsgnOk C (fun v => unpack v fs) (unpackW ys) := fun v => OkA.mk fun P hP => by
  intro s H L Q tk r rr4
  refine by_ng fun ng => ?_
  obtain ⟨a, xs, hv, ha, hn, e⟩ := rr4
  refine ng ?_
  clear ng
  rw [er_ref hv]
  refine by_ng fun ng => ?_
  obtain ⟨_, its, n, ho, hx⟩ := r.hp _ _ ha
  refine ng ?_
  clear ng
  subst hx
  refine wpAny_unpack_tuple (s := s) hh (tupOf_is ho) (by rw [h.length, ← hn]; simp) h.star fun h' hs => ?_
  have r' : Rep (C.at P) h' H L := r.ext hs r.pfresh r.fresh (fun l hl => Nat.ne_of_lt (r.lsize hl)) r.dfresh
  exact wpAny_mono ((h.inOrder its.toList).ok P hP { s with heap := h' } H L Q tk r' e) (fun _ s' p => Post.from ⟨rfl, rfl, rfl⟩ p) fun _ _ q => q
theorem A_tuple (hh : C.A.handled = none) {xs : List Expr} {k : Nat} {p : Pos} {ys} (h : AsgnsOk C (assignEach xs env) ys) : AsgnOk C (assign (.Tuple xs k p) env) (unpackW ys) := fun v => by
  rw [arm_assign_Tuple]
  exact OkA.stand (unpack_ok hh h v)
theorem A_nil : AsgnsOk C (assignEach [] env) [] := .nil
theorem A_cons {x : Expr} {xs : List Expr} {y ys} (hx : AsgnOk C (assign x env) y) (hxs : AsgnsOk C (assignEach xs env) ys) (hs : assignEach (x :: xs) env = (false, assign x env) :: assignEach xs env := by rfl) : AsgnsOk C (assignEach (x :: xs) env) (y :: ys) := by
  rw [hs]; exact .cons hx hxs
end

/-! statements -/
abbrev seqK (y : W Flow) (Q : Flow → HA → Ls → Prop) : Flow → HA → Ls → Prop := fun f H L => match f with
  | .next => y Q H L
  | f => Q f H L
noncomputable def seqW (x y : W Flow) : W Flow := fun Q => x (seqK y Q)
abbrev ifK (x y : W Flow) (Q : Flow → HA → Ls → Prop) : Bool → HA → Ls → Prop := fun c H L => if c = true then x Q H L else y Q H L
section
variable {C : Ctx} {env : Env} {T : List (Str × NK)}
theorem S_nil : OkAF C (execs [] env) (fun Q => Q .next) := OkA.ret _
theorem S_cons {st : Stmt} {rest : List Stmt} {x y : W Flow} (hs : OkAF C (exec st env) x) (hr : OkAF C (execs rest env) y) : OkAF C (execs (st :: rest) env) (seqW x y) := by
  rw [arm_execs_cons]
  refine OkA.bind (y := fun f Q => seqK y Q f) hs fun f => ?_
  cases f with
  | next => exact hr
  | ret v => exact OkA.ret _
  | brk => exact OkA.ret _
  | cont => exact OkA.ret _
theorem S_break {p : Pos} : OkAF C (exec (.Break p) env) (fun Q => Q .brk) := by rw [arm_exec_Break]; exact OkA.stand (OkA.ret _)
theorem S_continue {p : Pos} : OkAF C (exec (.Continue p) env) (fun Q => Q .cont) := by rw [arm_exec_Continue]; exact OkA.stand (OkA.ret _)
noncomputable def retW (v : Value) : W Flow := fun Q => Q (.ret v)
theorem S_ret {x : Expr} {p : Pos} {w : W Value} (h : OkAV C (eval x env) w) : OkAF C (exec (.Return (some x) p) env) (fun Q => w fun v => retW v Q) := by
  rw [arm_exec_Return]
  refine OkA.stand ?_
  show OkAF C (eval x env >>= fun v => pure (.ret v)) _
  exact OkA.bind (y := fun v Q => retW v Q) h fun v => OkA.ret _
theorem S_if {t : Expr} {b o : List Stmt} {p : Pos} {w : W Bool} {x y : W Flow} (ht : OkAU C (isTrue t env (eval t env)) w) (hb : OkAF C (execs b env) x) (ho : OkAF C (execs o env) y) :
    OkAF C (exec (.If t b o p) env) (fun Q => w (ifK x y Q)) := by
  rw [arm_exec_If]
  exact OkA.stand (OkA.if_ ht hb ho)
noncomputable def nextW : W Flow := fun Q => Q .next
theorem drop_ok (x : Expr) (p : Pos) (v : Value) : OkAF C (dropValue x p v) nextW := OkA.mk fun P hP s H L Q tk r e => wpAny_dropValue (Post.here r e)
theorem S_expr {x : Expr} {p : Pos} {w : W Value} (hf : env.scope.kind = .function) (h : OkAV C (eval x env) w) (hs : swapsWith x none p.line env = pure false := by rfl)
    : OkAF C (exec (.Expr x p) env) (fun Q => w fun _ => nextW Q) := by
  rw [arm_exec_Expr]
  refine OkA.stand ?_
  have hi : interactive env = false := by unfold interactive; rw [hf]; rfl
  rw [hi, hs]
  simp only [Bool.false_eq_true, if_false]
  show OkAF C (eval x env >>= fun v => dropValue x p v) _
  exact OkA.bind (y := fun _ Q => nextW Q) h fun v => drop_ok x p v
/-- the stores of one statement -/
noncomputable def allW : List (Value → W Unit) → Value → W Unit
  | [], _ => fun Q => Q ()
  | [y], v => y v
  | y :: z :: ys, v => fun Q => y v fun _ => allW (z :: ys) v Q
theorem AsgnsOk.all {fs ys} (h : AsgnsOk C fs ys) (v : Value) : OkAU C (assignAll v (fs.map (·.2))) (allW ys (er v)) := by
  induction h with
  | nil => exact OkA.ret _
  | cons a b ih =>
    cases b with
    | nil => exact a v
    | cons a' b' =>
      simp only [List.map_cons] at ih ⊢
      unfold assignAll allW
      exact OkA.bind (e := fun u : Unit => u) (y := fun _ Q => allW _ (er v) Q) (OkA.holding (a v)) fun _ => ih
theorem S_assign {ts : List Expr} {x : Expr} {p : Pos} {w : W Value} {ys} (hx : OkAV C (eval x env) w) (ht : AsgnsOk C (assignEach ts env) ys)
    (hs : swapsWithSole ts x p.line env = pure false := by rfl) (hw : swappedStores ts x env = pure none := by rfl) : OkAF C (exec (.Assign ts x p) env) (fun Q => w fun v => allW ys v fun _ => nextW Q) := by
  rw [arm_exec_Assign]
  refine OkA.stand ?_
  rw [hs, hw]
  show OkAF C (eval x env >>= fun v => assignStores env v none ((assignEach ts env).map (·.2))) _
  refine OkA.bind (y := fun v Q => allW ys v fun _ => nextW Q) hx fun v => ?_
  unfold assignStores
  exact OkA.bind (e := fun u : Unit => u) (y := fun _ Q => nextW Q) (ht.all v) fun _ => OkA.ret _
theorem S_aug_name (V : EnvOk C T env) {x : Str} {k : NK} {p p' : Pos} {op : Operator} {v : Expr} {w : W Value} (hk : (x, k) ∈ T) (hv : OkAV C (eval v env) w) :
    OkAF C (exec (.AugAssign (.Name x p) op v p') env) (fun Q => nameW k fun a => w fun b => augW op a b fun c => storeW k c fun _ => nextW Q) := by
  rw [arm_exec_AugAssign]
  refine OkA.stand (OkA.bind (y := fun a Q => w fun b => augW op a b fun c => storeW k c fun _ => nextW Q) (OkA.mk fun P hP => load_ok (V.at hP) hk) fun a => OkA.bind (y := fun b Q => augW op (er a) b fun c => storeW k c fun _ => nextW Q) hv.holding fun b => OkA.stand ?_)
  refine OkA.bind (y := fun c Q => storeW k c fun _ => nextW Q) (OkA.operate <| OkA.mk fun P hP => aug_ok op a b) fun c => OkA.stand ?_
  exact OkA.bind (e := fun u : Unit => u) (y := fun _ Q => nextW Q) (OkA.mk fun P hP => bind_ok (V.at hP) hk c) fun _ => OkA.ret _
theorem S_aug_sub {o i : Expr} {p p' : Pos} {op : Operator} {v : Expr} {x y w : W Value} (ho : OkAV C (eval o env) x) (hi : OkAV C (eval i env) y) (hv : OkAV C (eval v env) w)
    (hs : ∀ ov iv new, augStore i ov iv new = (do PySem.holding [new, ov, iv] (setItem ov iv new); PySem.release [new, ov, iv] []; pure .next) := by intro _ _ _; rfl) :
    OkAF C (exec (.AugAssign (.Subscript o i p) op v p') env) (fun Q => x fun a => y fun b => itemW a b fun c => w fun d => augW op c d fun r => setW a b r fun _ => nextW Q) := by
  rw [arm_exec_AugAssign_3]
  refine OkA.stand (OkA.bind (y := fun a Q => y fun b => itemW a b fun c => w fun d => augW op c d fun r => setW a b r fun _ => nextW Q) ho fun a => OkA.bind (y := fun b Q => itemW (er a) b fun c => w fun d => augW op c d fun r => setW (er a) b r fun _ => nextW Q) hi.holding fun b => ?_)
  refine OkA.bind (e := er) (x := fun Q => itemW (er a) (er b) fun c => w fun d => augW op c d Q) (y := fun r Q => setW (er a) (er b) r fun _ => nextW Q) (OkA.holding (OkA.stand ?_)) fun new => OkA.stand ?_
  · refine OkA.bind (y := fun c Q => w fun d => augW op c d Q) (OkA.mk fun P hP s H L Q tk r e => (item_ok r e).2) fun c => OkA.bind (y := fun d Q => augW op (er c) d Q) hv.holding fun d => OkA.stand (OkA.operate <| OkA.mk fun P hP => aug_ok op c d)
  · rw [hs]
    exact OkA.bind (e := fun u : Unit => u) (y := fun _ Q => nextW Q) (OkA.holding <| OkA.mk fun P hP => set_ok a b new) fun _ => OkA.release (OkA.ret _)
end


noncomputable def turnW (Q : Flow → HA → Ls → Prop) (I : HA → Ls → Prop) : Flow → HA → Ls → Prop := fun f H L => match f with
  | .next => I H L
  | .cont => I H L
  | .brk => Q .next H L
  | .ret v => Q (.ret v) H L
noncomputable def whileW (test : W Bool) (body orelse : W Flow) : W Flow := fun Q H L => ∃ I : Nat → HA → Ls → Prop, (∃ n, I n H L) ∧
  ∀ n H L, I n H L → test (fun b H L => if b = true then body (turnW Q fun H L => ∃ m, m < n ∧ I m H L) H L else orelse Q H L) H L
noncomputable def forW (tgt : Value → W Unit) (body orelse : W Flow) (v : Value) : W Flow := fun Q H L => ∃ k xs, SrcIs H v k xs ∧ ∃ I : Nat → HA → Ls → Prop, I 0 H L ∧
  ∀ i H L, I i H L → SrcIs H v k xs ∧ match xs[i]? with
    | none => orelse Q H L
    | some x => tgt x (fun _ => body (turnW Q (I (i + 1)))) H L

theorem letGo_ok {prog : Program} {w : World} {A : Around} {E : Value → Shared → Prop} {s : Shared} {target : Expr} {it : Addr} {k : SrcK} {n i : Nat} {v : Value} {Q : Unit → Shared → Prop} (I : Itr s.heap it k n i) (h : Q () s) :
    wpAny (model prog w) A (letOwnedTupleGo target (.ref it) v) Q E s := by
  have key : ∃ o N, s.heap.get? it = some o ∧ o.cls = .type N ∧ (["enumerate", "zip", "dict_itemiterator", "dict_reverseitemiterator", "odict_iterator", "itertools.zip_longest", "itertools.pairwise"].contains N) = false := by
    cases k with
    | lst a => obtain ⟨o, ho, hc, _⟩ := I; exact ⟨o, _, ho, hc, by decide⟩
    | tup a => obtain ⟨o, ho, hc, _⟩ := I; exact ⟨o, _, ho, hc, by decide⟩
    | rng lo m => exact ⟨_, _, I.2.2, rfl, by decide⟩
    | keys d ep => obtain ⟨o, ho, hc, _⟩ := I; exact ⟨o, _, ho, hc, by decide⟩
    | vals d ep => obtain ⟨o, ho, hc, _⟩ := I; exact ⟨o, _, ho, hc, by decide⟩
  refine by_ng fun ng => ?_
  obtain ⟨o, N, ho, hc, hN⟩ := key
  refine ng ?_
  clear ng
  have body : ∀ a, wpAny (model prog w) A (load it >>= fun o => match o.cls, o.data with
      | .type n, .fields vs =>
        if (["enumerate", "zip", "dict_itemiterator", "dict_reverseitemiterator", "odict_iterator", "itertools.zip_longest", "itertools.pairwise"].contains n && vs[0]? == some (rawInt a)) = true then do
          rule "for.unpacks-the-owned-tuple"
          updateField it 0 .none
        else pure ()
      | _, _ => pure ()) Q E s := fun a => by
    refine wpAny_bind (wpAny_load ho ?_)
    rw [hc]
    cases o.data <;> first
      | exact wpAny_pure h
      | (simp only [hN, Bool.false_and, Bool.false_eq_true, if_false]; exact wpAny_pure h)
  cases target <;> first | exact wpAny_pure h | (cases v <;> first | exact body _ | exact wpAny_pure h)

section
variable {C : Ctx} {env : Env}
theorem S_while {t : Expr} {b o : List Stmt} {p : Pos} {w : W Bool} {x y : W Flow} (ht : OkAU C (isTrue t env (eval t env)) w) (hb : OkAF C (execs b env) x) (ho : OkAF C (execs o env) y) :
    OkAF C (exec (.While t b o p) env) (whileW w x y) := OkA.mk fun P hP s H L Q tk r ⟨I, ⟨n, hI⟩, step⟩ => by
  refine wpAny_While (codeAny_whileLoop (fun n s' => Oth s s' ∧ 0 ≤ s'.toks ∧ ∃ H L, Rep (C.at P) s'.heap H L ∧ I n H L) ?_ n ⟨Oth.refl s, tk, H, L, r, hI⟩)
  intro n s₁ rr6
  refine by_ng fun ng => ?_
  obtain ⟨o₁, t₁, H₁, L₁, r₁, i₁⟩ := rr6
  refine ng ?_
  clear ng
  refine wpAny_post (ht.ok P hP s₁ H₁ L₁ _ t₁ r₁ (step n H₁ L₁ i₁)) (fun c s₂ H₂ L₂ o₂ r₂ e₂ => ?_)
  have t₂ := Nat.zero_le s₂.toks
  cases c with
  | true =>
    rw [if_pos rfl] at e₂ ⊢
    refine wpAny_post (hb.ok P hP s₂ H₂ L₂ _ t₂ r₂ e₂) (fun f s₃ H₃ L₃ o₃ r₃ e₃ => ?_)
    have t₃ := Nat.zero_le s₃.toks
    cases f with
    | next => obtain ⟨m, hm, i₃⟩ := e₃; exact ⟨m, hm, (o₁.trans o₂).trans o₃, t₃, H₃, L₃, r₃, i₃⟩
    | cont => obtain ⟨m, hm, i₃⟩ := e₃; exact ⟨m, hm, (o₁.trans o₂).trans o₃, t₃, H₃, L₃, r₃, i₃⟩
    | brk => exact ⟨(o₁.trans o₂).trans o₃, H₃, L₃, r₃, e₃⟩
    | ret v => exact ⟨(o₁.trans o₂).trans o₃, H₃, L₃, r₃, e₃⟩
  | false =>
    rw [if_neg (by simp)] at e₂ ⊢
    refine wpAny_mono (ho.ok P hP s₂ H₂ L₂ _ t₂ r₂ e₂) (fun f s₃ rr5 => ?_) fun _ _ q => q.elim
    refine by_ng fun ng => ?_
    obtain ⟨o₃, H₃, L₃, r₃, e₃⟩ := rr5
    refine ng ?_
    clear ng
    exact ⟨(o₁.trans o₂).trans o₃, H₃, L₃, r₃, e₃⟩

theorem SrcIs.ref {H : HA} {v : Value} {k : SrcK} {xs : List Value} (h : SrcIs H v k xs) : ∃ a, v = .ref a := by cases h <;> exact ⟨_, rfl⟩

theorem S_for (hh : C.A.handled = none) (S : Stat C) {tg it : Expr} {b o : List Stmt} {p : Pos} {w : W Value} {tw : Value → W Unit} {x y : W Flow} (hi : OkAV C (eval it env) w) (htg : AsgnOk C (assign tg env) tw) (hb : OkAF C (execs b env) x) (ho : OkAF C (execs o env) y)
    (hf : ∀ v, foldedSetIterable it env v = pure v := by intro _; rfl) : OkAF C (exec (.For tg it b o p) env) (fun Q => w fun v => forW tw x y v Q) := OkA.mk fun P hP s H L Q tk r e => by
  refine wpAny_For (wpAny_post (hi.ok P hP s H L _ tk r e) (fun v s₁ H₁ L₁ o₁ r₁ e₁ => ?_)) hf
  have t₁ := Nat.zero_le s₁.toks
  refine by_ng fun ng => ?_
  obtain ⟨k, xs, hsrc, I, hI, step⟩ := e₁
  obtain ⟨av, hav⟩ := hsrc.ref
  refine ng ?_
  clear ng
  have hv := er_ref hav
  subst hv
  refine iter_ok (C := C.at P) (S.at hP).sys r₁ hsrc fun ob hit => ?_
  have hitP : (C.at P).P.get? s₁.heap.objs.size = none := r₁.pfresh
  have hitL : ∀ l ∈ (C.at P).locs, l.addr ≠ s₁.heap.objs.size := fun l hl => Nat.ne_of_lt (r₁.lsize hl)
  have hitH : H₁ s₁.heap.objs.size = none := r₁.fresh
  have hitD : C.D.get? s₁.heap.objs.size = none := r₁.dfresh
  have r₂ := r₁.push ob
  generalize s₁.heap.objs.size = it at hit hitP hitL hitH hitD ⊢
  refine codeAny_forLoop_any (fun n s' => ∃ i H L, n + i = xs.length + 1 ∧ Oth s s' ∧ 0 ≤ s'.toks ∧ Rep (C.at P) s'.heap H L ∧ Itr s'.heap it k xs.length i ∧ H it = none ∧ I i H L) ?_ (xs.length + 1)
    ⟨0, H₁, L₁, rfl, o₁.trans ⟨rfl, rfl, rfl⟩, t₁, r₂, hit, hitH, hI⟩
  intro n s₃ rr7
  refine by_ng fun ng => ?_
  obtain ⟨i, H₃, L₃, hn, o₃, t₃, r₃, it₃, hit₃, i₃⟩ := rr7
  obtain ⟨src₃, st⟩ := step i H₃ L₃ i₃
  refine ng ?_
  clear ng
  refine wpAny_with_toks (n := 0) t₃ (wpAny_mono (next_ok (C := C.at P) (Q := fun ov s₄ => match ov with
    | some v' => ∃ x, xs[i]? = some x ∧ er v' = x ∧ Itr s₄.heap it k xs.length (i + 1) ∧ Rep (C.at P) s₄.heap H₃ L₃ ∧ Oth s₃ s₄
    | none => xs[i]? = none ∧ Rep (C.at P) s₄.heap H₃ L₃ ∧ Oth s₃ s₄) hh r₃ src₃ it₃
    (fun x v' h' tk' h1 h2 h3 h4 => ⟨x, h1, h2, h3, r₃.turnJunk h4 hitP hit₃ hitL hitD, ⟨rfl, rfl, rfl⟩⟩)
    (fun h1 h' h2 => ⟨h1, r₃.ext h2 hitP hit₃ hitL hitD, ⟨rfl, rfl, rfl⟩⟩)) (fun ov s₄ h₄ t₄ => ?_) fun _ _ q => q.elim)
  cases ov with
  | none =>
    obtain ⟨h1, r₄, o₄⟩ := h₄
    rw [h1] at st
    exact wpAny_mono (ho.ok P hP s₄ H₃ L₃ _ t₄ r₄ st) (fun f s₅ ⟨o₅, H₅, L₅, r₅, e₅⟩ => ⟨(o₃.trans o₄).trans o₅, H₅, L₅, r₅, e₅⟩) fun _ _ q => q.elim
  | some v' =>
    refine by_ng fun ng => ?_
    obtain ⟨xv, h1, h2, it₄, r₄, o₄⟩ := h₄
    refine ng ?_
    clear ng
    rw [h1] at st
    simp only at st
    refine letGo_ok it₄ ?_
    have hle : HLe C.P ((C.at P).fence s₄.heap [it]).P := HLe.trans hP fun b o e => fence_keep r₄ [it] b o e
    have rf : Rep ((C.at P).fence s₄.heap [it]) s₄.heap H₃ L₃ := r₄.fence [it] fun b hb => by rw [List.mem_singleton] at hb; subst hb; exact ⟨hit₃, hitL, hitD⟩
    obtain ⟨oit, hoit⟩ := it₄.some
    have back : ∀ {s' : Shared} {H' L'}, Rep ((C.at P).fence s₄.heap [it]) s'.heap H' L' → Rep (C.at P) s'.heap H' L' ∧ Itr s'.heap it k xs.length (i + 1) ∧ H' it = none := fun {s' H' L'} rr => by
      obtain ⟨u1, u2, u3⟩ := r₄.unfence rr
      refine ⟨u1, it₄.of_keep fun o e => ?_, (u3 it (by simp) ⟨oit, hoit⟩).1⟩
      rcases u2 it (by simp) with q | q
      · rw [q]; exact e
      · rw [q] at e; cases e
    subst h2
    refine wpAny_post ((htg v').ok _ hle s₄ H₃ L₃ _ t₄ rf st) (fun _ s₅ H₅ L₅ o₅ r₅ e₅ => ?_)
    have t₅ := Nat.zero_le s₅.toks
    refine wpAny_post (hb.ok _ hle s₅ H₅ L₅ _ t₅ r₅ e₅) (fun f s₆ H₆ L₆ o₆ r₆ e₆ => ?_)
    have t₆ := Nat.zero_le s₆.toks
    obtain ⟨b1, b2, b3⟩ := back r₆
    have oo : Oth s s₆ := ((o₃.trans o₄).trans o₅).trans o₆
    have hlt : i < xs.length := (List.getElem?_eq_some_iff.mp h1).1
    cases f with
    | next => exact ⟨n - 1, by (first | lia | omega), i + 1, H₆, L₆, by (first | lia | omega), oo, t₆, b1, b2, b3, e₆⟩
    | cont => exact ⟨n - 1, by (first | lia | omega), i + 1, H₆, L₆, by (first | lia | omega), oo, t₆, b1, b2, b3, e₆⟩
    | brk => exact ⟨oo, H₆, L₆, b1, e₆⟩
    | ret v => exact ⟨oo, H₆, L₆, b1, e₆⟩
end


/-! arguments and callees -/
noncomputable def CalleeOk (P : Heap) (f : Value) : Prop := (∃ id, f = .builtin id) ∨ (∃ T, f = .type T) ∨ ∃ a o fd, f = .ref a ∧ P.get? a = some o ∧ o.data = .func fd
noncomputable def CallA (C : Ctx) (f : Value) (cw : List Value → W Value) : Prop := ∀ P, HLe C.P P → ∀ vs, OkG er (C.at P) (call f vs) (cw (vs.map er))

theorem evalArgs_lone {M : Model} {A : Around} {E : Value → Shared → Prop} {s : Shared} {f : Value} {args : List (Bool × Sem Value)} {Q : Args → Shared → Prop} (hp : args.any (·.1) = false)
    (h : wpAny M A (spliced args) (fun vs s' => Q ⟨vs, []⟩ s') E s) : wpAny M A (evalArgs f true args []) Q E s := by
  cases args with
  | nil =>
    unfold evalArgs
    show wpAny M A (spliced [] >>= _) Q E s
    refine wpAny_bind (wpAny_mono h (fun vs s' h' => ?_) fun _ _ x => x)
    first
      | exact wpAny_bind (wpAny_pure (wpAny_holding (wpAny_bind (wpAny_pure (wpAny_bind (wpAny_pure (wpAny_pure h')))))))
      | exact wpAny_holding (wpAny_bind (wpAny_pure (wpAny_bind (wpAny_pure (wpAny_pure h')))))
  | cons p rest =>
    obtain ⟨b, t⟩ := p
    cases b with
    | true => simp at hp
    | false => exact evalArgs_plain h

section
variable {C : Ctx} {env : Env} {T : List (Str × NK)}
theorem callWith_ok {pos : Pos} {f : Value} {first : List Value} {args : List (Bool × Sem Value)} {ws : W (List Value)} {cw : List Value → W Value} (hk : CalleeOk C.P f) (hp : args.any (·.1) = false) (ha : OkAL C (spliced args) ws) (hc : CallA C f cw) :
    OkAV C (callWith pos f first args []) (fun Q => ws fun as => cw (first.map er ++ as) Q) := OkA.mk fun P hP s H L Q tk r e => by
  have go : ∀ (R : Args → Shared → Prop), (∀ vs s', 0 ≤ s'.toks → Post (C.at P) s (fun as => cw (first.map er ++ as) Q) (vs.map er) s' → (∀ b o, C.P.get? b = some o → s'.heap.get? b = some o) → R ⟨vs, []⟩ s') → wpAny (model (C.at P).prog (C.at P).w) (C.at P).A (evalArgs f true args []) R NoE s := fun R hR =>
    evalArgs_lone hp (wpAny_with_toks (n := 0) tk (wpAny_mono (ha.ok P hP s H L _ tk r e) (fun vs s' h' t' => hR vs s' t' h' fun b o q => by obtain ⟨_, H', L', r', _⟩ := h'; exact r'.keep b o (hP b o q)) fun _ _ q => q.elim))
  have fin : ∀ vs s', 0 ≤ s'.toks → Post (C.at P) s (fun as => cw (first.map er ++ as) Q) (vs.map er) s' → wpAny (model (C.at P).prog (C.at P).w) (C.at P).A (call f (first ++ vs)) (fun v => Post (C.at P) s Q (er v)) NoE s' := fun vs s' t' ⟨o', H', L', r', e'⟩ => by
    refine wpAny_mono (hc P hP (first ++ vs) s' H' L' Q t' r' ?_) (fun v s'' h'' => h''.from o') fun _ _ q => q
    rw [List.map_append]; exact e'
  rcases hk with ⟨id, rfl⟩ | ⟨T, rfl⟩ | ⟨a, o, fd, rfl, ho, hd⟩
  · exact callWith_builtin hp (go _ fun vs s' t' h' _ => fin vs s' t' h')
  · exact PyProof.Rows.callWith_type hp (go _ fun vs s' t' h' _ => fin vs s' t' h')
  · exact callWith_function (go _ fun vs s' t' h' k => ⟨⟨k a o ho, hd⟩, fin vs s' t' h'⟩)

theorem E_call (V : EnvOk C T env) {g : Str} {p pos : Pos} {args : List Expr} {f : Value} {ws : W (List Value)} {cw : List Value → W Value} (hg : (g, NK.glob f) ∈ T) (hk : CalleeOk C.P f)
    (ha : OkAL C (spliced (backTo pos (starEach args env))) ws) (hc : CallA C f cw) (hp : (backTo pos (starEach args env)).any (·.1) = false := by rfl) (hf : f = er f := by rfl) (hd : (g == ("__debug__" : Str)) = false := by decide) :
    OkAV C (eval (.Call (.Name g p) args [] pos) env) (fun Q => ws fun as => cw as Q) := by
  show OkAV C (do callWith pos (← eval (.Name g p) env) [] (backTo pos (starEach args env)) (backToKw pos (keywordEach [] env))) _
  have h1 : ∀ P, HLe C.P P → ∀ s H L Q, 0 ≤ s.toks → Rep (C.at P) s.heap H L → (∀ s', Oth s s' → 0 ≤ s'.toks → Rep (C.at P) s'.heap H L → Q f s') → wpAny (model (C.at P).prog (C.at P).w) (C.at P).A (eval (.Name g p) env) Q NoE s := by
    intro P hP s H L Q tk r h
    refine wpAny_Name ?_ hd
    refine by_ng fun ng => ?_
    obtain ⟨hk1, mg, hg, hv⟩ := (V.at hP).nm g _ hg
    refine ng ?_
    clear ng
    unfold loadName
    simp only [Env.blockKind, V.fn, hk1, ScopeKind.isAnnotationScope, Bool.false_and, Bool.false_eq_true, if_false]
    rcases hv with hv | ⟨hv, mb, hb, hv'⟩
    · exact loadGlobal_global (Ns_keep hg fun o => r.keep _ o) hv (h s (Oth.refl s) tk r)
    · exact loadGlobal_builtin (Ns_keep hg fun o => r.keep _ o) hv (Ns_keep hb fun o => r.keep _ o) hv' (h s (Oth.refl s) tk r)
  refine OkA.mk fun P hP s H L Q tk r e => ?_
  refine wpAny_bind (h1 P hP s H L _ tk r fun s' o t' r' => ?_)
  exact wpAny_mono ((callWith_ok (first := []) hk hp ha hc).ok P hP s' H L Q t' r' (by simpa using e)) (fun v s'' h'' => h''.from o) fun _ _ q => q
end

/-! functions of the program -/
noncomputable def slotsOf (sc : Scope) : List (Str × NameKind) := sc.names.filter fun p => p.2 == .local || p.2 == .cell
noncomputable def locOf (env : Env) (p : Str × NameKind) : Loc := if p.2 == .cell then .cell ((env.cells.lookup p.1).getD 0) else .dict env.locals p.1
noncomputable def kof (sc : Scope) (x : Str) : Option NameKind := sc.names.lookup x
noncomputable def iniOf (sc : Scope) (binds : List (Str × Value)) : Ls := (slotsOf sc).map fun p => if p.2 == .cell then bindC (kof sc) binds (fun _ => none) p.1 else bindL (kof sc) binds (fun _ => none) p.1
noncomputable def isG : NK → Bool
  | .glob _ => true
  | _ => false
noncomputable def tabOf (sc : Scope) (base : Nat) : List (Str × NK) := (slotsOf sc).zipIdx.map fun p => (p.1.1, .slot (base + p.2) (p.1.2 == .cell))
noncomputable def gloT (sc : Scope) (g : Str × Value) : Str × NK := (g.1, if sc.names.lookup g.1 = some .globalImplicit then .glob g.2 else .hid g.2)
noncomputable def fnT (sc : Scope) (G : List (Str × Value)) : List (Str × NK) := tabOf sc 0 ++ G.map (gloT sc)
noncomputable def scOk (sc : Scope) (bn : List Str) : Bool :=
  sc.kind == .function && !sc.isCoroutine && !sc.isGenerator && decide ((slotsOf sc).map (·.1)).Nodup && (slotsOf sc).all (fun p => sc.names.lookup p.1 == some p.2 && (p.2 != .cell || ((cellsFrom 0 sc.names []).lookup p.1).isSome))
    && bn.all (fun x => sc.names.lookup x == some .local || (sc.names.lookup x == some .cell && ((cellsFrom 0 sc.names []).lookup x).isSome))
noncomputable def GlobOk (B : Heap) (g b : Addr) (x : Str) (v : Value) : Prop := ∃ mg, B.Ns g mg ∧ (mg x = some v ∨ (mg x = none ∧ ∃ mb, B.Ns b mb ∧ mb x = some v))

theorem bindL_er (k : Str → Option NameKind) : ∀ (bs : List (Str × Value)) (m m' : Str → Option Value), (∀ x, m' x = (m x).map er) → ∀ x, bindL k (bs.map fun p => (p.1, er p.2)) m' x = (bindL k bs m x).map er
  | [], m, m', h, x => h x
  | (n, v) :: r, m, m', h, x => by
    show bindL k (r.map fun p => (p.1, er p.2)) _ x = (bindL k r _ x).map er
    refine bindL_er k r _ _ (fun y => ?_) x
    by_cases q : k n = some .local
    · rw [if_pos q, if_pos q]
      by_cases z : y = n
      · simp [z]
      · simp [z, h y]
    · rw [if_neg q, if_neg q]; exact h y
theorem bindC_er (k : Str → Option NameKind) : ∀ (bs : List (Str × Value)) (m m' : Str → Option Value), (∀ x, m' x = (m x).map er) → ∀ x, bindC k (bs.map fun p => (p.1, er p.2)) m' x = (bindC k bs m x).map er
  | [], m, m', h, x => h x
  | (n, v) :: r, m, m', h, x => by
    show bindC k (r.map fun p => (p.1, er p.2)) _ x = (bindC k r _ x).map er
    refine bindC_er k r _ _ (fun y => ?_) x
    by_cases q : k n = some .local
    · rw [if_pos q, if_pos q]; exact h y
    · rw [if_neg q, if_neg q]
      by_cases z : y = n
      · simp [z]
      · simp [z, h y]
theorem ini_er (sc : Scope) (bs : List (Str × Value)) : iniOf sc (bs.map fun p => (p.1, er p.2)) = (iniOf sc bs).map fun o => o.map er := by
  unfold iniOf
  rw [List.map_map]
  refine List.map_congr_left fun p _ => ?_
  show (if (p.2 == .cell) = true then _ else _) = Option.map er (if (p.2 == .cell) = true then _ else _)
  by_cases q : (p.2 == NameKind.cell) = true
  · rw [if_pos q, if_pos q]; exact bindC_er _ bs (fun _ => none) (fun _ => none) (fun _ => rfl) _
  · rw [if_neg q, if_neg q]; exact bindL_er _ bs (fun _ => none) (fun _ => none) (fun _ => rfl) _
theorem getL_get : ∀ (l : Ls) (i : Nat), getL l i = (l[i]?).join
  | [], i => by simp [getL]
  | v :: r, 0 => by simp [getL]
  | v :: r, i + 1 => by simpa [getL] using getL_get r i

noncomputable def Ctx.inner (C : Ctx) (h : Heap) (A : Around) (locs : List Loc) : Ctx := { C with A := A, D := mask (fun b => (C.D.get? b).isSome || C.locs.any fun l => l.addr == b) h, locs := locs }
section
variable {C : Ctx} {h : Heap} {H : HA} {L : Ls}
theorem inner_le (r : Rep C h H L) (A : Around) (locs : List Loc) : HLe C.P (C.inner h A locs).P := fun b o e => e
theorem inner_dat (A : Around) (locs : List Loc) {b : Addr} (k : (C.D.get? b).isSome = true ∨ ∃ l ∈ C.locs, l.addr = b) {o : Obj} (e : h.get? b = some o) : (C.inner h A locs).D.get? b = some o := by
  show (mask _ h).get? b = _
  rw [mask_get, if_pos]
  · exact e
  · rw [Bool.or_eq_true, List.any_eq_true]
    exact k.imp id fun ⟨l, h1, h2⟩ => ⟨l, h1, by simpa using h2⟩
theorem inner_dat' (A : Around) (locs : List Loc) {b : Addr} {o : Obj} (e : (C.inner h A locs).D.get? b = some o) : h.get? b = some o ∧ ((C.D.get? b).isSome = true ∨ ∃ l ∈ C.locs, l.addr = b) := by
  have e' : (mask _ h).get? b = _ := e
  rw [mask_get] at e'
  split at e'
  · rename_i q
    rw [Bool.or_eq_true, List.any_eq_true] at q
    exact ⟨e', q.imp id fun ⟨l, h1, h2⟩ => ⟨l, h1, by simpa using h2⟩⟩
  · cases e'
theorem LocOk.of_data {h h' : Heap} {l : Loc} {v : Option Value} (x : LocOk h l v) (e : ∀ o, h.get? l.addr = Option.some o → ∃ sl, h'.get? l.addr = Option.some { o with slots := sl }) : LocOk h' l v := by
  cases l with
  | dict d n => obtain ⟨m, ⟨o, es, ep, g, r⟩, q⟩ := x; obtain ⟨sl, g'⟩ := e _ g; exact ⟨m, ⟨_, es, ep, g', r⟩, q⟩
  | cell c => obtain ⟨o, cv, g, r⟩ := x; obtain ⟨sl, g'⟩ := e _ g; exact ⟨_, cv, g', r⟩
theorem Rep.inner (r : Rep C h H L) {h' : Heap} (hk : ∀ b o, h.get? b = some o → h'.get? b = some o) {A : Around} {locs : List Loc} {L' : Ls} (hl : ∀ i l, locs[i]? = some l → LocOk h' l (getL L' i)) (hf : ∀ l ∈ locs, h.get? l.addr = none) :
    Rep (C.inner h A locs) h' H L' := by
  refine ⟨fun b o e => hk b o (r.keep b o e), fun a ho e => ⟨(r.hp a ho e).1, (r.hp a ho e).2.of_keep (hk a)⟩, hl, fun l q => ⟨?_, ?_⟩, fun b o e => ?_⟩
  · cases y : C.P.get? l.addr with
    | none => exact y
    | some o => have := r.keep _ o y; rw [hf l q] at this; cases this
  · cases y : H l.addr with
    | none => rfl
    | some ho =>
      obtain ⟨o, g⟩ := (r.hp _ _ y).2.some
      rw [hf l q] at g; cases g
  · obtain ⟨e, k⟩ := inner_dat' A locs e
    have key : C.P.get? b = none ∧ H b = none := by
      rcases k with k | ⟨l, hl, rfl⟩
      · refine by_ng fun ng => ?_
        obtain ⟨o', e'⟩ := Option.isSome_iff_exists.mp k
        obtain ⟨_, p, q, _⟩ := r.dat b o' e'
        refine ng ?_
        clear ng
        exact ⟨p, q⟩
      · exact r.lfree l hl
    refine ⟨⟨o.slots, hk b o e⟩, key.1, key.2, fun l hl z => ?_⟩
    have := hf l hl
    rw [z, e] at this; cases this
theorem Rep.outer (r : Rep C h H L) {A : Around} {locs : List Loc} {h' : Heap} {H' : HA} {L' : Ls} (x : Rep (C.inner h A locs) h' H' L') : Rep C h' H' L := by
  have inD : ∀ l ∈ C.locs, ∀ o, h.get? l.addr = some o → (C.inner h A locs).D.get? l.addr = some o := fun l hl o e => inner_dat A locs (.inr ⟨l, hl, rfl⟩) e
  refine ⟨x.keep, x.hp, fun i l e => (r.loc i l e).of_data fun o q => (x.dat _ o (inD l (List.mem_of_getElem? e) o q)).1, fun l hl => ⟨(r.lfree l hl).1, ?_⟩, fun b o e => ?_⟩
  · obtain ⟨i, hi⟩ := List.getElem?_of_mem hl
    obtain ⟨o, g⟩ := (r.loc i l hi).some
    exact (x.dat _ o (inD l hl o g)).2.2.1
  · refine by_ng fun ng => ?_
    obtain ⟨⟨sl, g⟩, p, q, w⟩ := r.dat b o e
    refine ng ?_
    clear ng
    obtain ⟨⟨sl', g'⟩, p', q', w'⟩ := x.dat b _ (inner_dat A locs (.inl (by rw [e]; rfl)) g)
    exact ⟨⟨sl', g'⟩, p, q', w⟩
end


structure Bas (B : Heap) : Prop where
  sys : ∃ o, B.get? sysModules = some o
  lim : B.NoLimit
structure Room (A : Around) (n : Nat) : Prop where
  handled : A.handled = none
  depth : A.depth + n < recursionLimit
  units : A.units + 70 + 3 * n < cLine
theorem Bas.stat {B : Heap} (b : Bas B) {C : Ctx} (h : HLe B C.P) {n : Nat} (R : Room C.A n) : Stat C :=
  ⟨let ⟨o, ho⟩ := b.sys; ⟨o, h _ _ ho⟩, let ⟨mc, hm, hx⟩ := b.lim; ⟨mc, Ns_keep hm (h _), hx⟩, by have := R.units; (first | lia | omega)⟩
structure FnIn0 (B : Heap) (f : Addr) (fd : FuncData) (body : List Stmt) : Prop where
  get : ∃ o, B.get? f = some o ∧ o.data = .func fd
  code : B.CodeRec fd.code fd.qualname
  body : fd.body = .stmts body
  clo : fd.closure = []
structure FnIn (B : Heap) (f : Addr) (fd : FuncData) (body : List Stmt) : Prop extends FnIn0 B f fd body where
  dfl : fd.defaults = .none
  kwd : fd.kwdefaults = .none
noncomputable def FnA (B : Heap) (n : Nat) (f : Addr) (cw : List Value → W Value) : Prop := ∀ C : Ctx, HLe B C.P → Room C.A n → CallA C (.ref f) cw
noncomputable def erB (bs : List (Str × Value)) : List (Str × Value) := bs.map fun p => (p.1, er p.2)
noncomputable def retV : Flow → Value
  | .ret v => v
  | _ => .none
noncomputable def fnW (sc : Scope) (bn : List Str) (bnd : List Value → W (List Value)) (bw : W Flow) (vs : List Value) : W Value := fun Q =>
  bnd vs fun vals H L => bw (fun fl H' _ => Q (retV fl) H' L) H (iniOf sc (bn.zip vals))

theorem retV_er (fl : Flow) : er (match fl with | .ret v => v | _ => .none) = retV (erF fl) := by cases fl <;> rfl

theorem cellsFrom_lookup (names : List (Str × NameKind)) (x : Str) (n : Nat) (h : ((cellsFrom 0 names []).lookup x).isSome = true) : ∃ c, (cellsFrom n names []).lookup x = some c := by
  have e : (cellsFrom n names []).map (·.1) = (cellsFrom 0 names []).map (·.1) := cellsFrom_names names n 0 [] [] rfl
  obtain ⟨c, hc⟩ := Option.isSome_iff_exists.mp h
  have hm : x ∈ (cellsFrom 0 names []).map (·.1) := List.mem_map.mpr ⟨_, mem_of_lookup hc, rfl⟩
  rw [← e] at hm
  generalize cellsFrom n names [] = l at hm
  clear e hc h
  induction l with
  | nil => cases hm
  | cons p r ih =>
    rw [List.lookup_cons]
    by_cases q : x = p.1
    · subst q; simp
    · have : (x == p.1) = false := by simp [q]
      rw [this]
      rw [List.map_cons, List.mem_cons] at hm
      exact ih (hm.resolve_left q)

theorem slots_nodup {sc : Scope} {env : Env} (hn : ((slotsOf sc).map (·.1)).Nodup) (hc : ∀ p ∈ slotsOf sc, p.2 = .cell → ∃ c, env.cells.lookup p.1 = some c) (ap : ∀ p ∈ slotsOf sc, ∀ q ∈ slotsOf sc, p.2 = .cell → q.2 = .cell → ∀ c, env.cells.lookup p.1 = some c → env.cells.lookup q.1 = some c → p.1 = q.1) : ((slotsOf sc).map (locOf env)).Nodup := by
  generalize slotsOf sc = l at hn hc ap
  induction l with
  | nil => exact List.nodup_nil
  | cons p r ih =>
    rw [List.map_cons, List.nodup_cons] at hn ⊢
    refine ⟨fun hm => ?_, ih hn.2 (fun q hq => hc q (List.mem_cons_of_mem _ hq)) fun p hp q hq => ap p (List.mem_cons_of_mem _ hp) q (List.mem_cons_of_mem _ hq)⟩
    obtain ⟨q, hq, e⟩ := List.mem_map.mp hm
    have hne : q.1 ≠ p.1 := fun z => hn.1 (z ▸ List.mem_map.mpr ⟨q, hq, rfl⟩)
    unfold locOf at e
    by_cases z1 : (q.2 == NameKind.cell) = true <;> by_cases z2 : (p.2 == NameKind.cell) = true
    · rw [if_pos z1, if_pos z2] at e
      obtain ⟨c1, h1⟩ := hc q (List.mem_cons_of_mem _ hq) (by simpa using z1)
      obtain ⟨c2, h2⟩ := hc p (List.mem_cons_self ..) (by simpa using z2)
      rw [h1, h2] at e
      simp only [Option.getD_some, Loc.cell.injEq] at e
      subst e
      exact hne (ap q (List.mem_cons_of_mem _ hq) p (List.mem_cons_self ..) (by simpa using z1) (by simpa using z2) c1 h1 h2)
    · rw [if_pos z1, if_neg z2] at e; cases e
    · rw [if_neg z1, if_pos z2] at e; cases e
    · rw [if_neg z1, if_neg z2] at e
      simp only [Loc.dict.injEq] at e
      exact hne e.2

/-- the frames around are functions' and their locals are told -/
noncomputable def FrOk (C : Ctx) : Prop := ∃ l, C.A.frames = some l ∧ ∀ env ∈ l, env.scope.kind = .function ∧ ∃ d, env.frame = some d ∧ ((∃ o es ep, C.D.get? d = some o ∧ o.data = .dict es ep) ∨ ∃ x, Loc.dict d x ∈ C.locs)
noncomputable def FrEnv (C : Ctx) (env : Env) : Prop := FrOk C ∧ (∃ outer, C.A.frames = some (env :: outer)) ∧ env.frame = some env.locals
noncomputable def FnF (B : Heap) (fr : Bool) (n : Nat) (f : Addr) (cw : List Value → W Value) : Prop := ∀ C : Ctx, HLe B C.P → Room C.A n → (fr = true → FrOk C) → CallA C (.ref f) cw
/-- the same of the code of a call -/
noncomputable def CodeA (C : Ctx) (f : Value) (cw : List Value → W Value) : Prop := ∀ P, HLe C.P P → ∀ (vs : List Value) (s : Shared) (H : HA) (L : Ls) (Q : Value → HA → Ls → Prop), 0 ≤ s.toks → Rep (C.at P) s.heap H L → cw (vs.map er) Q H L →
  codeAny (model (C.at P).prog (C.at P).w) (C.at P).A (.call f ⟨vs, []⟩) (fun r s' => match r with | .ok (.ret v) => Post (C.at P) s Q (er v) s' | .ok _ => False | .error e => NoE e s') s
noncomputable def FnK (B : Heap) (fr : Bool) (n : Nat) (f : Addr) (cw : List Value → W Value) : Prop := ∀ C : Ctx, HLe B C.P → Room C.A n → (fr = true → FrOk C) → CodeA C (.ref f) cw
theorem FnK.fn {B : Heap} {fr : Bool} {n : Nat} {f : Addr} {cw : List Value → W Value} (h : FnK B fr n f cw) : FnF B fr n f cw := fun C h1 h2 h3 P hP vs s H L Q tk r e => wpAny_call (h C h1 h2 h3 P hP vs s H L Q tk r e)
theorem FnF.fn {B : Heap} {n : Nat} {f : Addr} {cw : List Value → W Value} (h : FnF B false n f cw) : FnA B n f cw := fun C h1 h2 => h C h1 h2 fun z => nomatch z
theorem FrOk.inner {C : Ctx} {h : Heap} {H : HA} {L : Ls} (F : FrOk C) (r : Rep C h H L) {env : Env} {locs : List Loc} (hk : env.scope.kind = .function) (hf : env.frame = some env.locals) {x : Str} (hl : Loc.dict env.locals x ∈ locs) : FrOk (C.inner h (C.A.deeper env) locs) := by
  obtain ⟨l, e, k⟩ := F
  refine ⟨env :: l, Around.frames_deeper e, fun v hv => ?_⟩
  rcases List.mem_cons.mp hv with rfl | hv
  · exact ⟨hk, _, hf, .inr ⟨x, hl⟩⟩
  · refine by_ng fun ng => ?_
    obtain ⟨a, d, b, c⟩ := k v hv
    refine ng ?_
    clear ng
    refine ⟨a, d, b, .inl ?_⟩
    rcases c with ⟨o, es, ep, c1, c2⟩ | ⟨x, c⟩
    · obtain ⟨⟨sl, g⟩, _⟩ := r.dat d o c1
      exact ⟨_, es, ep, inner_dat _ _ (.inl (by rw [c1]; rfl)) g, c2⟩
    · refine by_ng fun ng => ?_
      obtain ⟨i, hi⟩ := List.getElem?_of_mem c
      obtain ⟨m, ⟨o, es, ep, g, hd, _⟩, _⟩ := r.loc i _ hi
      refine ng ?_
      clear ng
      exact ⟨o, es, ep, inner_dat _ _ (.inr ⟨_, c, rfl⟩) g, hd⟩
theorem fn_okK {B : Heap} (hB : Bas B) {n : Nat} {f : Addr} {fd : FuncData} {body : List Stmt} {bn : List Str} {G : List (Str × Value)} {bnd : List Value → W (List Value)} {bw : W Flow} {fr : Bool} (F : FnIn0 B f fd body) (hs : scOk fd.scope bn = true) (hfr : fr = true → (slotsOf fd.scope).any (fun p => p.2 == .local) = true)
    (hg : ∀ g ∈ G, GlobOk B fd.globals fd.builtins g.1 g.2)
    (hb : ∀ C : Ctx, HLe B C.P → ∀ vs, OkG erB C (bindArgs fd ⟨vs, []⟩) (fun Q => bnd (vs.map er) fun vals => Q (bn.zip vals)))
    (hbody : ∀ (C : Ctx) (env : Env), HLe B C.P → Room C.A n → EnvOk C (fnT fd.scope G) env → C.locs.length = (slotsOf fd.scope).length → (fr = true → FrEnv C env) → OkAF C (execs body env) bw) : FnK B fr (n + 1) f (fnW fd.scope bn bnd bw) := by
  intro C hC hR hF P hP vs s H L Q tk r e
  unfold scOk at hs
  simp only [Bool.and_eq_true, beq_iff_eq, Bool.not_eq_true', decide_eq_true_eq, List.all_eq_true] at hs
  refine by_ng fun ng => ?_
  obtain ⟨⟨⟨⟨⟨hk, hco⟩, hgen⟩, hnd⟩, hsl⟩, hbn⟩ := hs
  obtain ⟨o, ho, hd⟩ := F.get
  refine ng ?_
  clear ng
  have hBP : HLe B P := hC.trans hP
  have up : ∀ b o, B.get? b = some o → s.heap.get? b = some o := fun b o q => r.keep b o (hBP b o q)
  refine codeAny_call_function (by show C.A.depth < _; have := hR.depth; (first | lia | omega)) (up _ _ ho) hd hco hgen F.body (F.code.keeps up) ?_
  have e1 := hb { C.at P with A := C.A.in1 } hBP vs s H L (fun bs H₁ L₁ => (∀ x ∈ bs, x.1 ∈ bn) ∧ bw (fun fl H' _ => Q (retV fl) H' L₁) H₁ (iniOf fd.scope bs)) tk ⟨r.keep, r.hp, r.loc, r.lfree, r.dat⟩ (by
    unfold fnW at e
    have : (fun (vals : List Value) (H₁ : HA) (L₁ : Ls) => (∀ x ∈ bn.zip vals, x.1 ∈ bn) ∧ bw (fun fl H' _ => Q (retV fl) H' L₁) H₁ (iniOf fd.scope (bn.zip vals))) = fun vals H L => bw (fun fl H' _ => Q (retV fl) H' L) H (iniOf fd.scope (bn.zip vals)) := by
      funext vals H₁ L₁
      have : ∀ x ∈ bn.zip vals, x.1 ∈ bn := fun x hx => (List.of_mem_zip hx).1
      simp only [eq_iff_iff, and_iff_right_iff_imp]
      exact fun _ => this
    exact (congrArg (fun z => bnd (vs.map er) z H L) this).mpr e)
  refine wpAny_with_toks (n := 0) tk (wpAny_mono e1 (fun bs s₁ rr8 t₁ => ?_) fun _ _ q => q.elim)
  refine by_ng fun ng => ?_
  obtain ⟨o₁, H₁, L₁, r₁, hbs, k₁⟩ := rr8
  refine ng ?_
  clear ng
  have r₁ : Rep (C.at P) s₁.heap H₁ L₁ := ⟨r₁.keep, r₁.hp, r₁.loc, r₁.lfree, r₁.dat⟩
  rw [F.clo]
  have hbs' : ∀ x ∈ bs, x.1 ∈ bn := fun x hx => hbs (x.1, er x.2) (List.mem_map.mpr ⟨x, hx, rfl⟩)
  refine wpAny_with_toks (n := 0) t₁ (wpAny_newFunctionEnv_cells hk (fun x hx => ?_) fun env he s₂ x t₂ => ?_)
  · have := hbn x.1 (hbs' x hx)
    simp only [Bool.or_eq_true, Bool.and_eq_true, beq_iff_eq] at this
    rcases this with h | ⟨h, h'⟩
    · exact .inl h
    · obtain ⟨c, hc⟩ := cellsFrom_lookup fd.scope.names x.1 (s₁.heap.objs.size + 1) h'
      exact .inr ⟨h, by rw [hc]; rfl⟩
  · have hcells : env.cells = cellsFrom (s₁.heap.objs.size + 1) fd.scope.names [] := by rw [he]; rfl
    have hloc : env.locals = s₁.heap.objs.size := by rw [he]; rfl
    have hsc : env.scope = fd.scope := by rw [he]; rfl
    have hgl : env.globals = fd.globals := by rw [he]; rfl
    have hbu : env.builtins = fd.builtins := by rw [he]; rfl
    have keep₂ := x.toInCall.keep
    refine ⟨hB.lim.keeps fun b o q => keep₂ b o (r₁.keep b o (hBP b o q)), codeAny_func ?_⟩
    have hcl : ∀ p ∈ slotsOf fd.scope, p.2 = .cell → ∃ c, env.cells.lookup p.1 = some c := fun p hp q => by
      rw [hcells]
      have := (hsl p hp).2
      simp only [Bool.or_eq_true, bne_iff_ne, ne_eq, q, not_true_eq_false, false_or] at this
      exact cellsFrom_lookup _ _ _ this
    have hkd : ∀ p ∈ slotsOf fd.scope, p.2 = .local ∨ p.2 = .cell := fun p hp => by
      have := (List.mem_filter.mp hp).2
      simpa using this
    have hlk : ∀ p ∈ slotsOf fd.scope, fd.scope.names.lookup p.1 = some p.2 := fun p hp => by
      have := (hsl p hp).1
      simpa using this
    have V : EnvOk ((C.at P).inner s₁.heap (C.A.deeper env) ((slotsOf fd.scope).map (locOf env))) (fnT fd.scope G) env := by
      refine ⟨by rw [hsc]; exact hk, slots_nodup hnd hcl (fun p _ q _ _ _ c h1 h2 => name_of_addr x.apart (mem_of_lookup h1) (mem_of_lookup h2)), fun y k hy => ?_⟩
      have le : HLe B ((C.at P).inner s₁.heap (C.A.deeper env) ((slotsOf fd.scope).map (locOf env))).P := hBP.trans (inner_le r₁ _ _)
      rcases List.mem_append.mp hy with hy | hy
      · obtain ⟨p, hp, e⟩ := List.mem_map.mp hy
        cases e
        obtain ⟨q, i⟩ := p
        have hq : (slotsOf fd.scope)[i]? = some q := by
          have := List.mem_zipIdx_iff_getElem?.mp hp
          simpa using this
        have hmem := List.mem_of_getElem? hq
        have hli : ((slotsOf fd.scope).map (locOf env))[0 + i]? = some (locOf env q) := by rw [Nat.zero_add, List.getElem?_map, hq]; rfl
        rcases hkd q hmem with z | z
        · have zc : (q.2 == NameKind.cell) = false := by rw [z]; decide
          show NameOk _ env q.1 (.slot (0 + i) (q.2 == .cell))
          rw [zc]
          refine ⟨?_, ?_⟩
          · show env.scope.names.lookup q.1 = _
            rw [hsc, hlk q hmem, z]
          · show ((slotsOf fd.scope).map (locOf env))[0 + i]? = _
            rw [hli]; unfold locOf; rw [z]; rfl
        · have zc : (q.2 == NameKind.cell) = true := by rw [z]; decide
          show NameOk _ env q.1 (.slot (0 + i) (q.2 == .cell))
          rw [zc]
          obtain ⟨c, hc⟩ := hcl q hmem z
          refine ⟨c, .inl ?_, hc, ?_⟩
          · show env.scope.names.lookup q.1 = _
            rw [hsc, hlk q hmem, z]
          · show ((slotsOf fd.scope).map (locOf env))[0 + i]? = _
            rw [hli]; unfold locOf; rw [z, hc]; rfl
      · obtain ⟨g, hgm, e⟩ := List.mem_map.mp hy
        cases e
        obtain ⟨mg, h1, h2⟩ := hg g hgm
        have base : ∃ mg, ((C.at P).inner s₁.heap (C.A.deeper env) ((slotsOf fd.scope).map (locOf env))).P.Ns env.globals mg ∧ (mg g.1 = some g.2 ∨ (mg g.1 = none ∧ ∃ mb, ((C.at P).inner s₁.heap (C.A.deeper env) ((slotsOf fd.scope).map (locOf env))).P.Ns env.builtins mb ∧ mb g.1 = some g.2)) :=
          ⟨mg, by rw [hgl]; exact Ns_keep h1 (le _), h2.imp id fun ⟨h3, mb, h4, h5⟩ => ⟨h3, mb, by rw [hbu]; exact Ns_keep h4 (le _), h5⟩⟩
        by_cases z : fd.scope.names.lookup g.1 = some .globalImplicit
        · show NameOk _ env g.1 (if fd.scope.names.lookup g.1 = some .globalImplicit then .glob g.2 else .hid g.2)
          rw [if_pos z]
          exact ⟨by show env.scope.names.lookup g.1 = _; rw [hsc]; exact z, base⟩
        · show NameOk _ env g.1 (if fd.scope.names.lookup g.1 = some .globalImplicit then .glob g.2 else .hid g.2)
          rw [if_neg z]
          exact base
    have R₂ : Rep ((C.at P).inner s₁.heap (C.A.deeper env) ((slotsOf fd.scope).map (locOf env))) s₂.heap H₁ (iniOf fd.scope (erB bs)) := by
      refine r₁.inner keep₂ (fun i l hl => ?_) fun l hl => ?_
      · rw [List.getElem?_map] at hl
        obtain ⟨q, hq, rfl⟩ := Option.map_eq_some_iff.mp hl
        have hmem := List.mem_of_getElem? hq
        have hv : getL (iniOf fd.scope (erB bs)) i = (if (q.2 == .cell) = true then bindC (kof fd.scope) bs (fun _ => none) q.1 else bindL (kof fd.scope) bs (fun _ => none) q.1).map er := by
          rw [getL_get]
          unfold erB
          rw [ini_er]
          unfold iniOf
          rw [List.map_map, List.getElem?_map, hq]; rfl
        rw [hv]
        have hko : env.kindOf = kof fd.scope := by funext y; show env.scope.names.lookup y = _; rw [hsc]; rfl
        rcases hkd q hmem with z | z
        · rw [if_neg (by rw [z]; decide)]
          unfold locOf
          rw [if_neg (by rw [z]; decide)]
          refine ⟨_, x.toInCall.ns, fun v hv => ?_⟩
          rw [hko]
          obtain ⟨cv, h1, h2⟩ := Option.map_eq_some_iff.mp hv
          exact ⟨cv, h1, h2⟩
        · rw [if_pos (by rw [z]; decide)]
          unfold locOf
          rw [if_pos (by rw [z]; decide)]
          obtain ⟨c, hc⟩ := hcl q hmem z
          rw [hc]
          obtain ⟨oc, h1, h2⟩ := x.cell _ c hc
          refine ⟨oc, _, h1, h2, fun v hv => ?_⟩
          rw [hko]
          obtain ⟨cv, h1, h2⟩ := Option.map_eq_some_iff.mp hv
          exact ⟨cv, h1, h2⟩
      · obtain ⟨q, hq, rfl⟩ := List.mem_map.mp hl
        refine Heap.get?_none_of_le ?_
        unfold locOf
        by_cases z : (q.2 == NameKind.cell) = true
        · rw [if_pos z]
          obtain ⟨c, hc⟩ := hcl q hq (by simpa using z)
          rw [hc]
          have := x.above _ c (mem_of_lookup hc)
          rw [hloc] at this
          exact Nat.le_of_lt this
        · rw [if_neg z]; exact Nat.le_of_eq hloc.symm
    have le : HLe B ((C.at P).inner s₁.heap (C.A.deeper env) ((slotsOf fd.scope).map (locOf env))).P := hBP.trans (inner_le r₁ _ _)
    have room : Room (C.A.deeper env) n := ⟨hR.handled, by show C.A.depth + 1 + n < _; have := hR.depth; (first | lia | omega), by show C.A.units + 3 + 70 + 3 * n < _; have := hR.units; (first | lia | omega)⟩
    have hFr : fr = true → FrEnv ((C.at P).inner s₁.heap (C.A.deeper env) ((slotsOf fd.scope).map (locOf env))) env := fun z => by
      refine ⟨?_, let ⟨l, e, _⟩ := hF z; ⟨l, Around.frames_deeper e⟩, by rw [he]; rfl⟩
      obtain ⟨p, hp, hp2⟩ := List.any_eq_true.mp (hfr z)
      have hp2 : p.2 = .local := by simpa using hp2
      refine FrOk.inner (C := C.at P) (hF z) r₁ (by rw [hsc]; exact hk) (by rw [he]; rfl) (x := p.1) (List.mem_map.mpr ⟨p, hp, ?_⟩)
      unfold locOf
      rw [if_neg (by rw [hp2]; decide)]
    have key := (hbody _ env le room V (List.length_map ..) hFr).ok _ (fun _ _ q => q) s₂ H₁ (iniOf fd.scope (erB bs)) _ t₂ R₂ k₁
    refine wpAny_mono key (fun fl s₃ rr9 => ?_) fun _ _ q => q.elim
    refine by_ng fun ng => ?_
    obtain ⟨o₃, H₃, L₃, r₃, k₃⟩ := rr9
    obtain ⟨h', tk', hs₂⟩ := x.toInCall.same
    refine ng ?_
    clear ng
    have o₂ : Oth s₁ s₂ := by rw [hs₂]; exact ⟨rfl, rfl, rfl⟩
    refine ⟨(o₁.trans o₂).trans o₃, H₃, L₁, r₁.outer r₃, ?_⟩
    exact (congrArg (fun z => Q z H₃ L₁) (retV_er fl)).mpr k₃
theorem fn_ok {B : Heap} (hB : Bas B) {n : Nat} {f : Addr} {fd : FuncData} {body : List Stmt} {bn : List Str} {G : List (Str × Value)} {bnd : List Value → W (List Value)} {bw : W Flow} (F : FnIn B f fd body) (hs : scOk fd.scope bn = true)
    (hg : ∀ g ∈ G, GlobOk B fd.globals fd.builtins g.1 g.2)
    (hb : ∀ C : Ctx, HLe B C.P → ∀ vs, OkG erB C (bindArgs fd ⟨vs, []⟩) (fun Q => bnd (vs.map er) fun vals => Q (bn.zip vals)))
    (hbody : ∀ (C : Ctx) (env : Env), HLe B C.P → Room C.A n → EnvOk C (fnT fd.scope G) env → C.locs.length = (slotsOf fd.scope).length → OkAF C (execs body env) bw) : FnA B (n + 1) f (fnW fd.scope bn bnd bw) := fun C h1 h2 =>
  (fn_okK (fr := false) hB F.toFnIn0 hs (fun z => nomatch z) hg hb (fun C env a b c d _ => hbody C env a b c d)).fn.fn C h1 h2

open PySem.Builtin.Str (occurrences partsBetween)

abbrev BW := List Value → W Value
noncomputable def findW : BW := fun vs Q H L => (∃ x t y u, vs = [.str x t, .str y u] ∧ Q (.int (Txt.find x y) 0) H L) ∨ ∃ x t y u i w, vs = [.str x t, .str y u, .int i w] ∧ Q (.int (Txt.find3 x y i) 0) H L
noncomputable def rfindB (x : Str) (y : Str) (Q : Value → HA → Ls → Prop) (H : HA) (L : Ls) : Prop :=
  Q (.int (Txt.rfind x y) 0) H L
noncomputable def rfindW : BW := fun vs Q H L => mS (fun x => mS (fun y => mN (rfindB x y Q H L))) vs
noncomputable def startsB (x : Str) (y : Str) (Q : Value → HA → Ls → Prop) (H : HA) (L : Ls) : Prop :=
  Q (.bool (Txt.startswith x y)) H L
noncomputable def startsW : BW := fun vs Q H L => mS (fun x => mS (fun y => mN (startsB x y Q H L))) vs
noncomputable def endsB (x : Str) (y : Str) (Q : Value → HA → Ls → Prop) (H : HA) (L : Ls) : Prop :=
  Q (.bool (Txt.endswith x y)) H L
noncomputable def endsW : BW := fun vs Q H L => mS (fun x => mS (fun y => mN (endsB x y Q H L))) vs
noncomputable def rstripB (x : Str) (y : Str) (Q : Value → HA → Ls → Prop) (H : HA) (L : Ls) : Prop :=
  x.length ≤ 4096 ∧ Q (.str (Txt.rstripChars x y) 0) H L
noncomputable def rstripW : BW := fun vs Q H L => mS (fun x => mS (fun y => mN (rstripB x y Q H L))) vs
noncomputable def splitB (x : Str) (y : Str) (Q : Value → HA → Ls → Prop) (H : HA) (L : Ls) : Prop :=
  (y.length ≠ 0 ∧ x.length ≤ 4096) ∧ (partsBetween x (occurrences x y 0 x.length (x.length + 1)) y.length).length ≤ sizeLine ∧ newW (.lst ((Txt.split x y).map (Value.str · 0))) Q H L
noncomputable def splitW : BW := fun vs Q H L => mS (fun x => mS (fun y => mN (splitB x y Q H L))) vs
noncomputable def joinB (x : Str) (a : Addr) (Q : Value → HA → Ls → Prop) (H : HA) (L : Ls) : Prop :=
  ∃ ts : List Str, H a = some (.lst (ts.map (Value.str · 0))) ∧ JoinOk x ts = true ∧ Q (.str (Txt.join x ts) 0) H L
noncomputable def joinW : BW := fun vs Q H L => mS (fun x => mR (fun a => mN (joinB x a Q H L))) vs
noncomputable def strB (i : Int) (Q : Value → HA → Ls → Prop) (H : HA) (L : Ls) : Prop :=
  i.natAbs < 1000000 ∧ Q (.str (toString i) 0) H L
noncomputable def strW : BW := fun vs Q H L => mI (fun i => mN (strB i Q H L)) vs
noncomputable def intB (x : Str) (Q : Value → HA → Ls → Prop) (H : HA) (L : Ls) : Prop :=
  ∃ n, PySem.intText? x = some n ∧ x.length ≤ 640 ∧ Q (.int n 0) H L
noncomputable def intW : BW := fun vs Q H L => mS (fun x => mN (intB x Q H L)) vs
noncomputable def lenW : BW := fun vs Q H L => (∃ x t, vs = [.str x t] ∧ x.length ≤ 1048576 ∧ Q (.int x.length 0) H L) ∨
  ∃ a xs, vs = [.ref a] ∧ (H a = some (.lst xs) ∨ H a = some (.tup xs) ∨ ∃ its n, H a = some (.raw (PySem.W.listOf its n)) ∧ its.toList.map er = xs) ∧ xs.length ≤ 1048576 ∧ Q (.int xs.length 0) H L
noncomputable def rangeW : BW := fun vs Q H L => (∃ n t, vs = [.int n t] ∧ (0 ≤ n ∧ n ≤ 1048576) ∧ newW (.rng 0 n.toNat) Q H L) ∨
  ∃ a t b u, vs = [.int a t, .int b u] ∧ (0 ≤ a ∧ a ≤ 1048576 ∧ a ≤ b ∧ b - a ≤ 1048576) ∧ newW (.rng a (b - a).toNat) Q H L
noncomputable def isBytesW : BW := fun vs Q H L => ∃ x t, vs = [.str x t, .type "bytes"] ∧ Q (.bool false) H L
noncomputable def typeB (w0 : Str) (Q : Value → HA → Ls → Prop) (H : HA) (L : Ls) : Prop :=
  Q (.type "str") H L
noncomputable def typeW : BW := fun vs Q H L => mS (fun w0 => mN (typeB w0 Q H L)) vs
noncomputable def appendB (a : Addr) (v : Value) (Q : Value → HA → Ls → Prop) (H : HA) (L : Ls) : Prop :=
  ∃ xs, H a = some (.lst xs) ∧ xs.length ≤ 1048575 ∧ Q .none (upd H a (.lst (xs ++ [v]))) L
noncomputable def appendW : BW := fun vs Q H L => mR (fun a => mV (fun v => mN (appendB a v Q H L))) vs
noncomputable def popB (a : Addr) (Q : Value → HA → Ls → Prop) (H : HA) (L : Ls) : Prop :=
  ∃ xs v, H a = some (.lst (xs ++ [v])) ∧ xs.length ≤ 1048574 ∧ Q v (upd H a (.lst xs)) L
noncomputable def popW : BW := fun vs Q H L => mR (fun a => mN (popB a Q H L)) vs
noncomputable def extendB (a : Addr) (b : Addr) (Q : Value → HA → Ls → Prop) (H : HA) (L : Ls) : Prop :=
  ∃ xs ys, H a = some (.lst xs) ∧ H b = some (.tup ys) ∧ xs.length + ys.length ≤ 1048575 ∧ Q .none (upd H a (.lst (xs ++ ys))) L
noncomputable def extendW : BW := fun vs Q H L => mR (fun a => mR (fun b => mN (extendB a b Q H L))) vs
noncomputable def clearB (a : Addr) (Q : Value → HA → Ls → Prop) (H : HA) (L : Ls) : Prop :=
  ∃ xs, H a = some (.lst xs) ∧ xs.length ≤ 1048575 ∧ Q .none (upd H a (.lst [])) L
noncomputable def clearW : BW := fun vs Q H L => mR (fun a => mN (clearB a Q H L)) vs
noncomputable def dgetB (a : Addr) (k : Str) (Q : Value → HA → Ls → Prop) (H : HA) (L : Ls) : Prop :=
  ∃ es ep, H a = some (.dct es ep) ∧ Q ((es.lookup k).getD .none) H L
noncomputable def dgetW : BW := fun vs Q H L => mR (fun a => mS (fun k => mN (dgetB a k Q H L))) vs
noncomputable def valuesB (a : Addr) (Q : Value → HA → Ls → Prop) (H : HA) (L : Ls) : Prop :=
  ∃ es ep, H a = some (.dct es ep) ∧ newW (.vals a) Q H L
noncomputable def valuesW : BW := fun vs Q H L => mR (fun a => mN (valuesB a Q H L)) vs
noncomputable def maxB (a : Addr) (Q : Value → HA → Ls → Prop) (H : HA) (L : Ls) : Prop :=
  ∃ ns : List Int, H a = some (.lst (ns.map (Value.int · 0))) ∧ ns ≠ [] ∧ ∀ M, M ∈ ns → (∀ n ∈ ns, n ≤ M) → Q (.int M 0) H L
noncomputable def maxW : BW := fun vs Q H L => mR (fun a => mN (maxB a Q H L)) vs
noncomputable def minB (a : Addr) (Q : Value → HA → Ls → Prop) (H : HA) (L : Ls) : Prop :=
  ∃ ns : List Int, H a = some (.lst (ns.map (Value.int · 0))) ∧ ns ≠ [] ∧ ∀ M, M ∈ ns → (∀ n ∈ ns, M ≤ n) → Q (.int M 0) H L
noncomputable def minW : BW := fun vs Q H L => mR (fun a => mN (minB a Q H L)) vs

theorem map_cons_inv {f : Value → Value} {vs : List Value} {a : Value} {r : List Value} (h : vs.map f = a :: r) : ∃ v vs', vs = v :: vs' ∧ f v = a ∧ vs'.map f = r := by
  cases vs with
  | nil => cases h
  | cons v vs' => rw [List.map_cons, List.cons.injEq] at h; exact ⟨v, vs', rfl, h.1, h.2⟩
theorem map_nil_inv {f : Value → Value} {vs : List Value} (h : vs.map f = []) : vs = [] := by simpa using h

section
variable {C : Ctx}
theorem b_find : CallA C (.builtin "str.find") findW := fun P hP vs s H L Q tk r e => by
  rcases e with ⟨x, t0, y, t1, h, e⟩ | ⟨x, t0, y, t1, i, t2, h, e⟩
  · skip
    obtain ⟨v, vs', rfl, h1, h⟩ := map_cons_inv h; obtain ⟨u, vs'', rfl, h2, h⟩ := map_cons_inv h; cases map_nil_inv h
    obtain ⟨t, rfl⟩ := er_str h1; obtain ⟨t', rfl⟩ := er_str h2
    exact SC.find (Post.tok r e)
  · skip
    obtain ⟨v, vs', rfl, h1, h⟩ := map_cons_inv h; obtain ⟨u, vs'', rfl, h2, h⟩ := map_cons_inv h; obtain ⟨z, vs'', rfl, h3, h⟩ := map_cons_inv h; cases map_nil_inv h
    obtain ⟨t, rfl⟩ := er_str h1; obtain ⟨t', rfl⟩ := er_str h2; obtain ⟨t'', rfl⟩ := er_int h3
    exact SC.find3 (Post.tok r e)
theorem b_rfind : CallA C (.builtin "str.rfind") rfindW := fun P hP vs s H L Q tk r e => by
  refine by_ng fun ng => ?_
  obtain ⟨w1, w2, r0, h, hq0⟩ := mS_inv e
  obtain ⟨w3, w4, r1, rfl, hq1⟩ := mS_inv hq0
  obtain ⟨rfl, hq2⟩ := mN_inv hq1
  refine ng ?_
  clear ng
  replace e := hq2
  · skip
    obtain ⟨v, vs', rfl, h1, h⟩ := map_cons_inv h; obtain ⟨u, vs'', rfl, h2, h⟩ := map_cons_inv h; cases map_nil_inv h
    obtain ⟨t, rfl⟩ := er_str h1; obtain ⟨t', rfl⟩ := er_str h2
    exact SC.rfind (Post.tok r e)
theorem b_starts : CallA C (.builtin "str.startswith") startsW := fun P hP vs s H L Q tk r e => by
  refine by_ng fun ng => ?_
  obtain ⟨w1, w2, r0, h, hq0⟩ := mS_inv e
  obtain ⟨w3, w4, r1, rfl, hq1⟩ := mS_inv hq0
  obtain ⟨rfl, hq2⟩ := mN_inv hq1
  refine ng ?_
  clear ng
  replace e := hq2
  · skip
    obtain ⟨v, vs', rfl, h1, h⟩ := map_cons_inv h; obtain ⟨u, vs'', rfl, h2, h⟩ := map_cons_inv h; cases map_nil_inv h
    obtain ⟨t, rfl⟩ := er_str h1; obtain ⟨t', rfl⟩ := er_str h2
    exact SC.startswith (Post.here r e)
theorem b_ends : CallA C (.builtin "str.endswith") endsW := fun P hP vs s H L Q tk r e => by
  refine by_ng fun ng => ?_
  obtain ⟨w1, w2, r0, h, hq0⟩ := mS_inv e
  obtain ⟨w3, w4, r1, rfl, hq1⟩ := mS_inv hq0
  obtain ⟨rfl, hq2⟩ := mN_inv hq1
  refine ng ?_
  clear ng
  replace e := hq2
  · skip
    obtain ⟨v, vs', rfl, h1, h⟩ := map_cons_inv h; obtain ⟨u, vs'', rfl, h2, h⟩ := map_cons_inv h; cases map_nil_inv h
    obtain ⟨t, rfl⟩ := er_str h1; obtain ⟨t', rfl⟩ := er_str h2
    exact SC.endswith (Post.here r e)
theorem b_rstrip : CallA C (.builtin "str.rstrip") rstripW := fun P hP vs s H L Q tk r e => by
  refine by_ng fun ng => ?_
  obtain ⟨w1, w2, r0, h, hq0⟩ := mS_inv e
  obtain ⟨w3, w4, r1, rfl, hq1⟩ := mS_inv hq0
  obtain ⟨rfl, hq2⟩ := mN_inv hq1
  refine ng ?_
  clear ng
  replace e := hq2
  · skip
    obtain ⟨v, vs', rfl, h1, h⟩ := map_cons_inv h; obtain ⟨u, vs'', rfl, h2, h⟩ := map_cons_inv h; cases map_nil_inv h
    obtain ⟨t, rfl⟩ := er_str h1; obtain ⟨t', rfl⟩ := er_str h2
    exact SC.rstripChars (fun t' k => Post.tok r e.2) (Nat.le_trans e.1 (by decide))
theorem b_split : CallA C (.builtin "str.split") splitW := fun P hP vs s H L Q tk r e => by
  refine by_ng fun ng => ?_
  obtain ⟨x, w1, r0, h, hq0⟩ := mS_inv e
  obtain ⟨y, w2, r1, rfl, hq1⟩ := mS_inv hq0
  obtain ⟨rfl, hq2⟩ := mN_inv hq1
  refine ng ?_
  clear ng
  replace e := hq2
  · skip
    obtain ⟨v, vs', rfl, h1, h⟩ := map_cons_inv h; obtain ⟨u, vs'', rfl, h2, h⟩ := map_cons_inv h; cases map_nil_inv h
    obtain ⟨t, rfl⟩ := er_str h1; obtain ⟨u, rfl⟩ := er_str h2
    refine by_ng fun ng => ?_
    obtain ⟨⟨hy', hx⟩, hsz2, e⟩ := e
    refine ng ?_
    clear ng
    have hsz : x.length ≤ sizeLine := Nat.le_trans hx (by decide)
    have hy : (y.length == 0) = false := by simpa using hy'
    have fin : ∀ (l : List (Str × Tok)) (k : Nat), l.map (·.1) = Txt.split x y → Post (C.at P) s Q (.ref s.heap.objs.size) { s with heap := s.heap.push { cls := .type "list", data := .seq (strValues l).toArray }, toks := k } := fun l k hl => by
      refine Post.hp (r.alloc (ho := .lst ((Txt.split x y).map (Value.str · 0))) _ ⟨(strValues l).toArray, _, Heap.get?_push_size _ rfl, ?_⟩) (e _ r.fresh)
      rw [← hl]
      show (strValues l).toArray.toList.map er = _
      rw [List.toList_toArray]
      unfold strValues
      rw [List.map_map, List.map_map]; rfl
    cases h1 : (decide (x.length < y.length) || decide (PySem.Builtin.Str.strKind x < PySem.Builtin.Str.strKind y))
    · cases hf : (occurrences x y 0 x.length (x.length + 1)).isEmpty
      · refine call_meets F.slot_str_split (typeIs_str _ _ _) F.entry_str_split (F.args_str_split_2 _ _) (meets_str_split_sep x y t u h1 hy hf hsz hsz2) ?_
        show wants _ _ _ { s with toks := _, heap := s.heap.push { cls := .type "list", data := .seq (strsFrom s.toks (partsBetween x (occurrences x y 0 x.length (x.length + 1)) y.length)).toArray } }
        rw [strsFrom_eq]
        exact fin (numbered s.toks _) _ ((numbered_texts _ _).trans ((if_neg (ne_true_of_eq_false h1)).trans (if_neg (ne_true_of_eq_false hf))).symm)
      · exact call_meets F.slot_str_split (typeIs_str _ _ _) F.entry_str_split (F.args_str_split_2 _ _) (meets_str_split_not_found x y t u h1 hy hf)
          (fin [(x, t)] s.toks ((if_neg (ne_true_of_eq_false h1)).trans (if_pos hf)).symm)
    · exact call_meets F.slot_str_split (typeIs_str _ _ _) F.entry_str_split (F.args_str_split_2 _ _) (meets_str_split_cannot_occur x y t u h1)
        (fin [(x, t)] s.toks (if_pos h1).symm)
theorem strs_of : ∀ {vs : List Value} {ts : List Str}, vs.map er = ts.map (Value.str · 0) → ∃ l : List (Str × Tok), vs = strValues l ∧ l.map (·.1) = ts
  | [], [], _ => ⟨[], rfl, rfl⟩
  | [], _ :: _, h => by cases h
  | _ :: _, [], h => by cases h
  | v :: vs, t :: ts, h => by
    rw [List.map_cons, List.map_cons, List.cons.injEq] at h
    refine by_ng fun ng => ?_
    obtain ⟨k, rfl⟩ := er_str h.1
    obtain ⟨l, rfl, rfl⟩ := strs_of h.2
    refine ng ?_
    clear ng
    exact ⟨(t, k) :: l, rfl, rfl⟩
theorem b_join : CallA C (.builtin "str.join") joinW := fun P hP vs s H L Q tk r e => by
  refine by_ng fun ng => ?_
  obtain ⟨w1, w2, r0, h, hq0⟩ := mS_inv e
  obtain ⟨w3, r1, rfl, hq1⟩ := mR_inv hq0
  obtain ⟨rfl, hq2⟩ := mN_inv hq1
  refine ng ?_
  clear ng
  replace e := hq2
  · skip
    obtain ⟨v, vs', rfl, h1, h⟩ := map_cons_inv h; obtain ⟨u, vs'', rfl, h2, h⟩ := map_cons_inv h; cases map_nil_inv h
    obtain ⟨t, rfl⟩ := er_str h1; cases er_ref h2
    refine by_ng fun ng => ?_
    obtain ⟨ts, ha, hok, e⟩ := e
    obtain ⟨_, its, n, ho, hx⟩ := r.hp _ _ ha
    obtain ⟨l, hl, ht⟩ := strs_of hx
    refine ng ?_
    clear ng
    have hi := listOf_is ho
    have hi' : its = (strValues l).toArray := by rw [← hl]
    rw [hi'] at hi
    exact SC.join hi ht hok fun t' k => Post.tok r e
theorem b_str : CallA C (.type "str") strW := fun P hP vs s H L Q tk r e => by
  refine by_ng fun ng => ?_
  obtain ⟨i, w1, r0, h, hq0⟩ := mI_inv e
  obtain ⟨rfl, hq1⟩ := mN_inv hq0
  refine ng ?_
  clear ng
  replace e := hq1
  · skip
    obtain ⟨v, vs', rfl, h1, h⟩ := map_cons_inv h; cases map_nil_inv h
    obtain ⟨t, rfl⟩ := er_int h1
    refine PySem.P.str_of_int ?_ (Post.tok r e.2)
    have : i.natAbs.log2 ≤ 20 := by
      by_cases z : i.natAbs = 0
      · rw [z]; decide
      · have h1 := Nat.log2_lt z (k := 21) |>.mpr (by have := e.1; (first | lia | omega))
        (first | lia | omega)
    (first | lia | omega)
theorem b_int : CallA C (.type "int") intW := fun P hP vs s H L Q tk r e => by
  refine by_ng fun ng => ?_
  obtain ⟨i, w1, r0, h, hq0⟩ := mS_inv e
  obtain ⟨rfl, hq1⟩ := mN_inv hq0
  refine ng ?_
  clear ng
  replace e := hq1
  · skip
    obtain ⟨v, vs', rfl, h1, h⟩ := map_cons_inv h; cases map_nil_inv h
    refine by_ng fun ng => ?_
    obtain ⟨t, rfl⟩ := er_str h1
    obtain ⟨n, h1, h2, h3⟩ := e
    refine ng ?_
    clear ng
    exact KIN.call_text h1 h2 (Post.tok r h3)
theorem b_len : CallA C (.builtin "len") lenW := fun P hP vs s H L Q tk r e => by
  rcases e with ⟨i, t0, h, e⟩ | ⟨a, xs, h, h1', h2, h3⟩
  · skip
    obtain ⟨v, vs', rfl, h1, h⟩ := map_cons_inv h; cases map_nil_inv h
    obtain ⟨t, rfl⟩ := er_str h1
    exact PySem.P.len_str (by have := e.1; (first | lia | omega)) (Post.tok r e.2)
  · skip
    obtain ⟨v, vs', rfl, h1, h⟩ := map_cons_inv h; cases map_nil_inv h
    cases er_ref h1
    have h1 := h1'
    rcases h1 with h1 | h1 | ⟨its, n, h1, hx⟩
    rotate_left 2
    · have ho := (r.hp _ _ h1).2
      have hl : its.size = xs.length := by rw [← hx]; simp
      exact call_len_list (listOf_is ho) (by (first | lia | omega)) (Post.tok r (by rw [hl]; exact h3))
    · refine by_ng fun ng => ?_
      obtain ⟨_, its, n, ho, hx⟩ := r.hp _ _ h1
      refine ng ?_
      clear ng
      have hl : its.size = xs.length := by rw [← hx]; simp
      exact call_len_list (listOf_is ho) (by (first | lia | omega)) (Post.tok r (by rw [hl]; exact h3))
    · refine by_ng fun ng => ?_
      obtain ⟨_, its, n, ho, hx⟩ := r.hp _ _ h1
      refine ng ?_
      clear ng
      have hl : its.size = xs.length := by rw [← hx]; simp
      exact len_tuple (IsTup_of ho) (by (first | lia | omega)) (Post.tok r (by rw [hl]; exact h3))
theorem b_range : CallA C (.type "range") rangeW := fun P hP vs s H L Q tk r e => by
  rcases e with ⟨n, t0, h, e⟩ | ⟨a, t0, b, t1, h, e⟩
  · skip
    obtain ⟨v, vs', rfl, h1, h⟩ := map_cons_inv h; cases map_nil_inv h
    obtain ⟨t, rfl⟩ := er_int h1
    obtain ⟨hb, e⟩ := e
    refine call_range_1 (Post.hp (r.alloc (ho := .rng 0 n.toNat) _ ⟨by (first | lia | omega), s.toks, t, s.toks + 1, ?_⟩) (e _ r.fresh))
    have : (0 : Int) + (n.toNat : Int) = n := by (first | lia | omega)
    show Heap.get? _ _ = _
    rw [this]
    exact Heap.get?_push_size _ rfl
  · skip
    obtain ⟨v, vs', rfl, h1, h⟩ := map_cons_inv h; obtain ⟨u, vs'', rfl, h2, h⟩ := map_cons_inv h; cases map_nil_inv h
    obtain ⟨t, rfl⟩ := er_int h1; obtain ⟨t', rfl⟩ := er_int h2
    obtain ⟨hb, e⟩ := e
    refine call_range_2 (Post.hp (r.alloc (ho := .rng a (b - a).toNat) _ ⟨by (first | lia | omega), t, t', s.toks, ?_⟩) (e _ r.fresh))
    have : a + ((b - a).toNat : Int) = b := by (first | lia | omega)
    show Heap.get? _ _ = _
    rw [this]
    exact Heap.get?_push_size _ rfl
theorem b_isBytes : CallA C (.builtin "isinstance") isBytesW := fun P hP vs s H L Q tk r e => by
  refine by_ng fun ng => ?_
  obtain ⟨x, t0, h, e⟩ := e
  refine ng ?_
  clear ng
  · skip
    obtain ⟨v, vs', rfl, h1, h⟩ := map_cons_inv h; obtain ⟨u, vs'', rfl, h2, h⟩ := map_cons_inv h; cases map_nil_inv h
    obtain ⟨t, rfl⟩ := er_str h1; cases er_type h2
    exact IsiPair.str_bytes (Post.tok r e)
theorem b_type : CallA C (.type "type") typeW := fun P hP vs s H L Q tk r e => by
  refine by_ng fun ng => ?_
  obtain ⟨w1, w2, r0, h, hq0⟩ := mS_inv e
  obtain ⟨rfl, hq1⟩ := mN_inv hq0
  refine ng ?_
  clear ng
  replace e := hq1
  · skip
    obtain ⟨v, vs', rfl, h1, h⟩ := map_cons_inv h; cases map_nil_inv h
    obtain ⟨t, rfl⟩ := er_str h1
    exact call_type_of (typeIs_str _ _ _) (by decide) (Post.here r e)

theorem turn_seq {h : Heap} {a : Addr} {its : Array Value} {n : Nat} (g : h.get? a = some (listOf its n)) (f : Array Value → Array Value) : ∃ n', (h.update a (Obj.mapSeq f)).get? a = some (listOf (f its) n') := by
  obtain ⟨n', hd'⟩ := Obj.data_mapSeq (o := listOf its n) rfl f
  refine ⟨n', ?_⟩
  rw [Heap.get?_update_self _ g (Obj.isFreed_of_seq hd')]
  have : Obj.mapSeq f (listOf its n) = { listOf its n with data := (Obj.mapSeq f (listOf its n)).data } := rfl
  rw [this, hd']
theorem b_append : CallA C (.builtin "list.append") appendW := fun P hP vs s H L Q tk r e => by
  refine by_ng fun ng => ?_
  obtain ⟨a, r0, h, hq0⟩ := mR_inv e
  obtain ⟨x, r1, rfl, hq1⟩ := mV_inv hq0
  obtain ⟨rfl, hq2⟩ := mN_inv hq1
  refine ng ?_
  clear ng
  replace e := hq2
  · skip
    obtain ⟨v, vs', rfl, h1, h⟩ := map_cons_inv h; obtain ⟨u, vs'', rfl, h2, h⟩ := map_cons_inv h; cases map_nil_inv h
    cases er_ref h1
    refine by_ng fun ng => ?_
    obtain ⟨xs, h1, hz, e⟩ := e
    obtain ⟨_, its, n, ho, hx⟩ := r.hp _ _ h1
    refine ng ?_
    clear ng
    have hl : its.size = xs.length := by rw [← hx]; simp
    refine wpAny_list_append_plain (items := its) ⟨n, ho⟩ (fun h' ⟨n', hl'⟩ hs => Post.hp0 (r.turn (ho' := .lst (xs ++ [x])) h1 hs ⟨_, _, hl', ?_⟩) e) (by rw [hl]; exact Nat.le_trans hz (by decide))
    rw [← hx, ← h2]; simp
theorem b_pop : CallA C (.builtin "list.pop") popW := fun P hP vs s H L Q tk r e => by
  refine by_ng fun ng => ?_
  obtain ⟨a, r0, h, hq0⟩ := mR_inv e
  obtain ⟨rfl, hq1⟩ := mN_inv hq0
  refine ng ?_
  clear ng
  replace e := hq1
  · skip
    obtain ⟨v, vs', rfl, h1, h⟩ := map_cons_inv h; cases map_nil_inv h
    cases er_ref h1
    refine by_ng fun ng => ?_
    obtain ⟨xs, y, h1, hz, e⟩ := e
    obtain ⟨_, its, n, ho, hx⟩ := r.hp _ _ h1
    refine ng ?_
    clear ng
    have hl : its.size = xs.length + 1 := by
      have : its.toList.length = (xs ++ [y]).length := by rw [← hx]; simp
      simpa using this
    have hy : (its.toList.map er)[xs.length]? = some y := by rw [hx]; simp
    obtain ⟨y', hy', ey⟩ := getElem_er its _ y hy
    refine call_meets F.slot_list_pop (listOf_is ho).typeIs F.entry_list_pop (F.args_list_pop_1 _) (MeetsSeq.list_pop_last a its n y' (by rw [hl]; exact hy') (by rw [hl]; exact Nat.le_trans (Nat.succ_le_succ hz) (by decide))) ⟨ho, ?_⟩
    obtain ⟨n', g'⟩ := turn_seq ho fun xs => xs.eraseIdxIfInBounds (its.size - 1)
    refine Post.hp0 (r.turn (ho' := .lst xs) h1 (Heap.SameBut.update ..) ⟨_, _, g', ?_⟩) (by rw [ey]; exact e)
    rw [hl]
    have : (its.eraseIdxIfInBounds (xs.length + 1 - 1)).toList = its.toList.eraseIdx xs.length := by simp
    show ((its.eraseIdxIfInBounds (xs.length + 1 - 1)).toList).map er = xs
    rw [this, List.eraseIdx_eq_take_drop_succ, List.map_append, List.map_take, List.map_drop, hx]
    simp
theorem b_extend : CallA C (.builtin "list.extend") extendW := fun P hP vs s H L Q tk r e => by
  refine by_ng fun ng => ?_
  obtain ⟨a, r0, h, hq0⟩ := mR_inv e
  obtain ⟨b, r1, rfl, hq1⟩ := mR_inv hq0
  obtain ⟨rfl, hq2⟩ := mN_inv hq1
  refine ng ?_
  clear ng
  replace e := hq2
  · skip
    obtain ⟨v, vs', rfl, h1, h⟩ := map_cons_inv h; obtain ⟨u, vs'', rfl, h2, h⟩ := map_cons_inv h; cases map_nil_inv h
    cases er_ref h1; cases er_ref h2
    refine by_ng fun ng => ?_
    obtain ⟨xs, ys, h1, h2, hz, e⟩ := e
    obtain ⟨_, its, n, ho, hx⟩ := r.hp _ _ h1
    obtain ⟨_, its2, n2, ho2, hx2⟩ := r.hp _ _ h2
    refine ng ?_
    clear ng
    have hl : its.size = xs.length := by rw [← hx]; simp
    have hl2 : its2.size = ys.length := by rw [← hx2]; simp
    have hline : 1048575 ≤ sizeLine := by decide
    refine call_meets F.slot_list_extend (listOf_is ho).typeIs F.entry_list_extend (F.args_list_extend_2 _ _) (AutoSeq1.list_extend_list_tuple_0 a its n b its2 n2 ?_ (by (first | lia | omega)) (by (first | lia | omega))) ⟨ho, ho2, ?_⟩
    · have : Builtin.List.listTooLong (its.size + its2.size) = false := by
        unfold Builtin.List.listTooLong
        simp; (first | lia | omega)
      simp [this]
    · obtain ⟨n', g'⟩ := turn_seq ho fun x => x ++ its2
      exact Post.hp (k := s.toks) (r.turn (ho' := .lst (xs ++ ys)) h1 (Heap.SameBut.update ..) ⟨_, _, g', by rw [← hx, ← hx2]; simp⟩) e
theorem b_clear : CallA C (.builtin "list.clear") clearW := fun P hP vs s H L Q tk r e => by
  refine by_ng fun ng => ?_
  obtain ⟨a, r0, h, hq0⟩ := mR_inv e
  obtain ⟨rfl, hq1⟩ := mN_inv hq0
  refine ng ?_
  clear ng
  replace e := hq1
  · skip
    obtain ⟨v, vs', rfl, h1, h⟩ := map_cons_inv h; cases map_nil_inv h
    cases er_ref h1
    refine by_ng fun ng => ?_
    obtain ⟨xs, h1, hz, e⟩ := e
    obtain ⟨_, its, n, ho, hx⟩ := r.hp _ _ h1
    refine ng ?_
    clear ng
    have hl : its.size = xs.length := by rw [← hx]; simp
    have hline : 1048575 ≤ sizeLine := by decide
    refine call_meets F.slot_list_clear (listOf_is ho).typeIs F.entry_list_clear (F.args_list_clear_1 _) (AutoSeq1.list_clear_list_0 a its n (by (first | lia | omega))) ⟨ho, ?_⟩
    obtain ⟨n', g'⟩ := turn_seq ho fun _ => #[]
    exact Post.hp (k := s.toks) (r.turn (ho' := .lst []) h1 (Heap.SameBut.update ..) ⟨_, _, g', rfl⟩) e
theorem b_dget (S : Stat C) : CallA C (.builtin "dict.get") dgetW := fun P hP vs s H L Q tk r e => by
  refine by_ng fun ng => ?_
  obtain ⟨a, r0, h, hq0⟩ := mR_inv e
  obtain ⟨k, w1, r1, rfl, hq1⟩ := mS_inv hq0
  obtain ⟨rfl, hq2⟩ := mN_inv hq1
  refine ng ?_
  clear ng
  replace e := hq2
  · skip
    obtain ⟨v, vs', rfl, h1, h⟩ := map_cons_inv h; obtain ⟨u, vs'', rfl, h2, h⟩ := map_cons_inv h; cases map_nil_inv h
    cases er_ref h1; obtain ⟨t, rfl⟩ := er_str h2
    refine by_ng fun ng => ?_
    obtain ⟨es, ep, h1, e⟩ := e
    refine ng ?_
    clear ng
    have hs := not_sys (S.at hP).sys r h1
    refine by_ng fun ng => ?_
    obtain ⟨_, kvs, hd, rfl⟩ := r.hp _ _ h1
    refine ng ?_
    clear ng
    refine call_meetsIn F.slot_dict_get hd.dictOf.mapOf.typeIs F.entry_dict_get (F.args_dict_get_2 _ _) (meets_dict_get (PySem.strKind C.prog C.w) a (strKind_is _ _ k t) hs) ⟨_, hd.dictOf.mapOf, ?_⟩
    rw [lookup_valueAt] at e
    refine Post.tok r ?_
    cases q : valueAt kvs k with
    | none => rw [q] at e; exact e
    | some v => rw [q] at e; exact e
theorem b_values (S : Stat C) : CallA C (.builtin "dict.values") valuesW := fun P hP vs s H L Q tk r e => by
  refine by_ng fun ng => ?_
  obtain ⟨a, r0, h, hq0⟩ := mR_inv e
  obtain ⟨rfl, hq1⟩ := mN_inv hq0
  refine ng ?_
  clear ng
  replace e := hq1
  · skip
    obtain ⟨v, vs', rfl, h1, h⟩ := map_cons_inv h; cases map_nil_inv h
    cases er_ref h1
    refine by_ng fun ng => ?_
    obtain ⟨es, ep, h1, e⟩ := e
    refine ng ?_
    clear ng
    have hs := not_sys (S.at hP).sys r h1
    refine by_ng fun ng => ?_
    obtain ⟨_, kvs, hd, rfl⟩ := r.hp _ _ h1
    refine ng ?_
    clear ng
    refine call_meetsIn F.slot_dict_values hd.dictOf.mapOf.typeIs F.entry_dict_values (F.args_dict_values_1 _) (meets_dict_values (PySem.strKind C.prog C.w) a hs) ⟨⟨_, hd.dictOf⟩, ?_⟩
    exact Post.hp0 (r.alloc (ho := .vals a) _ ⟨_, Heap.get?_push_size _ rfl, rfl, rfl⟩) (e _ r.fresh)
theorem ints_of : ∀ {vs : List Value} {ns : List Int}, vs.map er = ns.map (Value.int · 0) → ∃ l : List (Int × Tok), vs = l.map (fun p => Value.int p.1 p.2) ∧ l.map (·.1) = ns
  | [], [], _ => ⟨[], rfl, rfl⟩
  | [], _ :: _, h => by cases h
  | _ :: _, [], h => by cases h
  | v :: vs, t :: ts, h => by
    rw [List.map_cons, List.map_cons, List.cons.injEq] at h
    refine by_ng fun ng => ?_
    obtain ⟨k, rfl⟩ := er_int h.1
    obtain ⟨l, rfl, rfl⟩ := ints_of h.2
    refine ng ?_
    clear ng
    exact ⟨(t, k) :: l, rfl, rfl⟩
theorem b_max (hh : C.A.handled = none) : CallA C (.builtin "max") maxW := fun P hP vs s H L Q tk r e => by
  refine by_ng fun ng => ?_
  obtain ⟨a, r0, h, hq0⟩ := mR_inv e
  obtain ⟨rfl, hq1⟩ := mN_inv hq0
  refine ng ?_
  clear ng
  replace e := hq1
  · skip
    obtain ⟨v, vs', rfl, h1, h⟩ := map_cons_inv h; cases map_nil_inv h
    cases er_ref h1
    refine by_ng fun ng => ?_
    obtain ⟨ns, h1, hne, e⟩ := e
    obtain ⟨_, its, n, ho, hx⟩ := r.hp _ _ h1
    obtain ⟨l, hl, hn⟩ := ints_of hx
    refine ng ?_
    clear ng
    have hi : its = intItems l.toArray := by
      have : its.toList = (intItems l.toArray).toList := by rw [hl]; simp [intItems]
      exact Array.toList_inj.mp this
    have hlen : 0 < l.length := by
      cases l with
      | nil => exact absurd hn.symm hne
      | cons a b => simp
    refine max_intList (xs := l.toArray) hh (by rw [← hi]; exact listOf_is ho) (by simpa using hlen) fun v h' tk' hv hk => ?_
    obtain ⟨t, rfl⟩ := intItems_at hv
    obtain ⟨h1, h2⟩ := argBest_gt (numAt l.toArray) (l.toArray.size - 1)
    refine Post.hp ⟨fun b o q => hk b o (r.keep b o q), fun b ho q => ⟨(r.hp b ho q).1, (r.hp b ho q).2.of_keep (hk b)⟩, fun i l q => (r.loc i l q).of_keep (hk _), r.lfree, r.dat.of (fun b _ _ x y => hk b x y) fun _ _ _ q => q⟩ (e _ ?_ fun m hm => ?_)
    · rw [numAt_eq]
      have hh : argBest (fun i j => decide (numAt l.toArray i > numAt l.toArray j)) (l.toArray.size - 1) < (l.map (·.1)).length := by simp at h1 ⊢; (first | lia | omega)
      rw [← hn]
      simp only [List.getD_eq_getElem?_getD, List.getElem?_eq_getElem hh, Option.getD_some]
      exact List.getElem_mem _
    · rw [← hn] at hm
      obtain ⟨j, hj, rfl⟩ := List.getElem_of_mem hm
      have := h2 j (by simp at hj ⊢; (first | lia | omega))
      rw [numAt_eq l.toArray j] at this
      simpa [List.getD_eq_getElem?_getD, List.getElem?_eq_getElem hj] using this
theorem b_min (hh : C.A.handled = none) : CallA C (.builtin "min") minW := fun P hP vs s H L Q tk r e => by
  refine by_ng fun ng => ?_
  obtain ⟨a, r0, h, hq0⟩ := mR_inv e
  obtain ⟨rfl, hq1⟩ := mN_inv hq0
  refine ng ?_
  clear ng
  replace e := hq1
  · skip
    obtain ⟨v, vs', rfl, h1, h⟩ := map_cons_inv h; cases map_nil_inv h
    cases er_ref h1
    refine by_ng fun ng => ?_
    obtain ⟨ns, h1, hne, e⟩ := e
    obtain ⟨_, its, n, ho, hx⟩ := r.hp _ _ h1
    obtain ⟨l, hl, hn⟩ := ints_of hx
    refine ng ?_
    clear ng
    have hi : its = intItems l.toArray := by
      have : its.toList = (intItems l.toArray).toList := by rw [hl]; simp [intItems]
      exact Array.toList_inj.mp this
    have hlen : 0 < l.length := by
      cases l with
      | nil => exact absurd hn.symm hne
      | cons a b => simp
    refine min_intList (xs := l.toArray) hh (by rw [← hi]; exact listOf_is ho) (by simpa using hlen) fun v h' tk' hv hk => ?_
    obtain ⟨t, rfl⟩ := intItems_at hv
    obtain ⟨h1, h2⟩ := argBest_lt (numAt l.toArray) (l.toArray.size - 1)
    refine Post.hp ⟨fun b o q => hk b o (r.keep b o q), fun b ho q => ⟨(r.hp b ho q).1, (r.hp b ho q).2.of_keep (hk b)⟩, fun i l q => (r.loc i l q).of_keep (hk _), r.lfree, r.dat.of (fun b _ _ x y => hk b x y) fun _ _ _ q => q⟩ (e _ ?_ fun m hm => ?_)
    · rw [numAt_eq]
      have hh : argBest (fun i j => decide (numAt l.toArray i < numAt l.toArray j)) (l.toArray.size - 1) < (l.map (·.1)).length := by simp at h1 ⊢; (first | lia | omega)
      rw [← hn]
      simp only [List.getD_eq_getElem?_getD, List.getElem?_eq_getElem hh, Option.getD_some]
      exact List.getElem_mem _
    · rw [← hn] at hm
      obtain ⟨j, hj, rfl⟩ := List.getElem_of_mem hm
      have := h2 j (by simp at hj ⊢; (first | lia | omega))
      rw [numAt_eq l.toArray j] at this
      simpa [List.getD_eq_getElem?_getD, List.getElem?_eq_getElem hj] using this
end

section
variable {prog : Program} {w : World} {A : Around} {E : Value → Shared → Prop} {s : Shared}
theorem sub_str_self : isSubtype (.type "str") (.type "str") = pure true := by rw [isSubtype_type]; kernel_rfl
theorem issub_in {k : Value} {dep : Int} {tk : Tok} {Q : Fin → Shared → Prop} (hk : k = .int dep tk) (hq : Q (.done (.ret (.bool true))) s) :
    wpAny (model prog w) A (Builtin.«issubclass.nested» ⟨[.type "str", .type "str", k], []⟩) Q E s := by
  subst hk
  have hself := sub_str_self
  have hm : ((Value.type "type") == Value.type "type") = true := by decide
  repeat (any_goals (first | assumption | (rw [if_pos hm]) | (rw [hself]) | wp_step))
theorem issub_args (a b c : Value) : argsOk "issubclass.nested" ⟨[a, b, c], []⟩ := by unfold argsOk; kernel_rfl
theorem issub_kind : builtinKind "issubclass.nested" = none := by decide +kernel
theorem issub_plain : plainId "issubclass.nested" = true := by decide +kernel
theorem issub_call {k : Value} {dep : Int} {tk : Tok} {Q : Value → Shared → Prop} (hk : k = .int dep tk) (hq : Q (.bool true) s) :
    wpAny (model prog w) A (call (.builtin "issubclass.nested") [.type "str", .type "str", k]) Q E s :=
  call_function_entry issub_kind issub_plain F.entry_issubclass_nested (issub_args _ _ _) (issub_in hk ⟨_, rfl, hq⟩)
theorem issub_tup {G : Code → Shared → Prop} {t : Addr} {n : Nat} {R : Result → Shared → Prop} (ht : s.heap.get? t = some (tupOf #[.type "str", .type "bytes"] n)) (hq : R (.ok (.ret (.bool true))) s) :
    wpAny (model prog w) A (Builtin.«issubclass.nested» ⟨[.type "str", .ref t, rawInt 0], []⟩)
      (fun fin s' => match fin with | .done f => R (.ok f) s' | .again c' => G c' s') (fun e s' => R (.error e) s') s := by
  have hT : s.TypeIs (.ref t) "tuple" := ⟨_, ht, rfl⟩
  have hsub := sub_tuple_self
  unfold Builtin.«issubclass.nested»
  refine wpAny_bind (wpAny_typeOf hT ?_)
  rw [if_neg (by decide)]
  unfold Builtin.Builtins.unionMembers
  refine wpAny_bind (wpAny_bind (wpAny_typeOf hT ?_))
  rw [if_neg (by decide)]
  refine wpAny_pure ?_
  refine wpAny_bind (wpAny_isInstance hT hsub ?_)
  rw [if_pos rfl]
  rw [if_neg (by decide)]
  show wpAny _ _ (seqItems? (.ref t) >>= _) _ _ s
  refine wpAny_bind (wpAny_seqItems ht rfl ?_)
  refine wpAny_bind ?_
  rw [← Array.forIn_toList]
  show wpAny _ _ (forIn (m := Sem) [Value.type "str", Value.type "bytes"] _ _) _ _ s
  rw [List.forIn_cons]
  refine wpAny_bind (wpAny_bind (issub_call rfl ?_))
  refine wpAny_bind (wpAny_truthy_bool ?_)
  rw [if_pos rfl]
  refine wpAny_bind ?_
  refine wpAny_pure ?_
  refine wpAny_pure ?_
  refine wpAny_pure ?_
  refine wpAny_pure ?_
  exact hq
theorem issub_meets (t : Addr) (n : Nat) : Meets (Builtin.«issubclass» ⟨[.type "str", .ref t], []⟩) (fun _ R s => s.heap.get? t = some (tupOf #[.type "str", .type "bytes"] n) ∧ R (.ok (.ret (.bool true))) s) :=
  fun _ _ _ _ _ hs => issubclass_outer (issub_tup (G := fun c' s' => c'.quiet = true ∧ codeAny _ _ c' _ s') hs.1 hs.2)
noncomputable def issubW : BW := fun vs Q H L => ∃ a, vs = [.type "str", .ref a] ∧ H a = some (.tup [.type "str", .type "bytes"]) ∧ Q (.bool true) H L
theorem b_issub {C : Ctx} : CallA C (.builtin "issubclass") issubW := fun P hP vs s H L Q tk r e => by
  obtain ⟨a, h, e⟩ := e
  · skip
    obtain ⟨v, vs', rfl, h1, h⟩ := map_cons_inv h; obtain ⟨u, vs'', rfl, h2, h⟩ := map_cons_inv h; cases map_nil_inv h
    cases er_type h1; cases er_ref h2
    refine by_ng fun ng => ?_
    obtain ⟨h1, e⟩ := e
    obtain ⟨_, its, n, ho, hx⟩ := r.hp _ _ h1
    refine ng ?_
    clear ng
    have : its = #[.type "str", .type "bytes"] := by
      have hx' := hx
      refine by_ng fun ng => ?_
      obtain ⟨a, l, e1, ha, hx⟩ := map_cons_inv hx
      obtain ⟨b, l, rfl, hb, hx⟩ := map_cons_inv hx
      refine ng ?_
      clear ng
      cases map_nil_inv hx
      cases er_type ha; cases er_type hb
      exact Array.toList_inj.mp e1
    subst this
    exact call_issubclass (issub_meets _ n) ⟨ho, Post.here r e⟩
end

noncomputable def TyIs (T : String) (v : Value) (H : HA) : Prop :=
  (T = "str" ∧ ∃ x t, v = .str x t) ∨ (T = "list" ∧ ∃ a xs, v = .ref a ∧ H a = some (.lst xs)) ∨ (T = "dict" ∧ ∃ a es ep, v = .ref a ∧ H a = some (.dct es ep)) ∨ (T = "set" ∧ ∃ a S n, v = .ref a ∧ H a = some (.st S n))
section
variable {C : Ctx} {env : Env} {T : List (Str × NK)}
theorem tyIs_of {s : Shared} {H : HA} {L : Ls} (r : Rep C s.heap H L) {T : String} {v : Value} (h : TyIs T (er v) H) : s.TypeIs v T ∧ ∀ a, v = .ref a → ∃ ob, s.heap.get? a = some ob ∧ ob.dict = none := by
  rcases h with ⟨rfl, x, tt, h⟩ | ⟨rfl, a, xs, h, g⟩ | ⟨rfl, a, es, ep, h, g⟩ | ⟨rfl, a, S, n, h, g⟩
  · obtain ⟨t, rfl⟩ := er_str h
    exact ⟨typeIs_str _ _ _, fun _ z => nomatch z⟩
  · cases er_ref h
    refine by_ng fun ng => ?_
    obtain ⟨_, its, n, ho, hx⟩ := r.hp _ _ g
    refine ng ?_
    clear ng
    exact ⟨(listOf_is ho).typeIs, fun b z => by cases z; exact ⟨_, ho, rfl⟩⟩
  · cases er_ref h
    refine by_ng fun ng => ?_
    obtain ⟨_, kvs, hd, hx⟩ := r.hp _ _ g
    refine ng ?_
    clear ng
    exact ⟨hd.dictOf.mapOf.typeIs, hd.dictOf.mapOf.noDict⟩
  · cases er_ref h
    exact ⟨Heap.SetOf.typeIs (r.hp _ _ g).2, Heap.SetOf.noDict (r.hp _ _ g).2⟩
noncomputable def methW (T : String) (ws : W (List Value)) (cw : BW) (v : Value) : W Value := fun Q H L => TyIs T v H ∧ ws (fun as => cw (v :: as) Q) H L
theorem E_meth {o : Expr} {name : Str} {apos pos : Pos} {args : List Expr} {T id : String} {w : W Value} {ws : W (List Value)} {cw : BW} (ho : OkAV C (eval o env) w) (pa : PlainAttrs T) (slot : Slot T name id)
    (hty : typeOf (.builtin id) = pure (.type "method_descriptor")) (ha : OkAL C (spliced (backTo pos (starEach args env))) ws) (hc : CallA C (.builtin id) cw)
    (hbase : attributeBase o name env (eval o env) = eval o env := by rfl)
    (hfew : ((backTo pos (starEach args env)).all (fun x => !x.1) && (backToKw pos (keywordEach [] env)).all (fun x => x.1.isSome)
      && decide (args.length + ([] : List Keyword).length + (if ([] : List Keyword).isEmpty then 0 else 1) < 30)) = true := by rfl)
    (hline : (apos.endLine == pos.line) = true := by rfl) (hp : (backTo pos (starEach args env)).any (·.1) = false := by rfl) :
    OkAV C (eval (.Call (.Attribute o name apos) args [] pos) env) (fun Q => w fun v => methW T ws cw v Q) := OkA.mk fun P hP s H L Q tk r e => by
  refine PySem.wpAny_Call_method hbase hfew hline pa slot hty (wpAny_post (ho.ok P hP s H L _ tk r e) (fun v s₁ H₁ L₁ o₁ r₁ rr10 => ?_))
  obtain ⟨hT, e₁⟩ := rr10
  have t₁ := Nat.zero_le s₁.toks
  obtain ⟨h1, h2⟩ := tyIs_of r₁ hT
  refine ⟨h1, h2, ?_⟩
  exact wpAny_mono ((callWith_ok (first := [v]) (.inl ⟨id, rfl⟩) hp ha hc).ok P hP s₁ H₁ L₁ Q t₁ r₁ e₁) (fun v s'' h'' => h''.from o₁) fun _ _ q => q

/-! slices -/
noncomputable def PartOk (C : Ctx) (env : Env) (x : Option Expr) (w : W Value) : Prop := OkAV C (evalPart x env) w
theorem P_none : PartOk C env none (fun Q => Q .none) := OkA.ret _
theorem P_some {x : Expr} {w : W Value} (h : OkAV C (eval x env) w) : PartOk C env (some x) w := h
noncomputable def sliceS (x : Str) (lo hi : Option Int) : Str :=
  if ((PySem.Builtin.Str.strSliceIndices lo hi 1 x.length).length == x.length) = true then x else ⟨((PySem.Builtin.Str.strSliceIndices lo hi 1 x.length).filterMap (x.cps[·]?)).toArray⟩
noncomputable def partI : Value → Option (Option Int)
  | .none => some none
  | .int i _ => some (some i)
  | _ => none
noncomputable def sliceW (a l u : Value) : W Value := fun Q H L => match a with
  | .str x _ => x.length ≤ 1048576 ∧ ∃ lo hi, partI l = some lo ∧ partI u = some hi ∧ Q (.str (sliceS x lo hi) 0) H L
  | _ => False
theorem partI_of {v : Value} {o : Option Int} (h : partI (er v) = some o) : ∃ p, v = partValue p ∧ p.map (·.1) = o := by
  cases v <;> simp [er, partI] at h
  · exact ⟨none, rfl, h⟩
  · rename_i i t; exact ⟨some (i, t), rfl, h⟩
theorem E_slice {o : Expr} {lo hi : Option Expr} {p p' : Pos} {x y z : W Value} (ho : OkAV C (eval o env) x) (hl : PartOk C env lo y) (hu : PartOk C env hi z) :
    OkAV C (eval (.Subscript o (.Slice lo hi none p') p) env) (fun Q => x fun a => y fun l => z fun u => sliceW a l u Q) := OkA.mk fun P hP s H L Q tk r e => by
  refine Subscript_ (wpAny_post (ho.ok P hP s H L _ tk r e) (fun ov s₁ H₁ L₁ o₁ r₁ e₁ => wpAny_Slice ?_))
  have t₁ := Nat.zero_le s₁.toks
  refine wpAny_post (hl.ok P hP s₁ H₁ L₁ _ t₁ r₁ e₁) (fun lv s₂ H₂ L₂ o₂ r₂ e₂ => ?_)
  have t₂ := Nat.zero_le s₂.toks
  refine wpAny_post (hu.ok P hP s₂ H₂ L₂ _ t₂ r₂ e₂) (fun uv s₃ H₃ L₃ o₃ r₃ e₃ => ?_)
  have t₃ := Nat.zero_le s₃.toks
  rw [evalPart_none]
  refine wpAny_pure ?_
  unfold sliceW at e₃
  split at e₃
  · rename_i xs _ hx
    refine by_ng fun ng => ?_
    obtain ⟨t, rfl⟩ := er_str hx
    obtain ⟨hz, lo', hi', h1, h2, h3⟩ := e₃
    obtain ⟨p1, rfl, q1⟩ := partI_of h1
    obtain ⟨p2, rfl, q2⟩ := partI_of h2
    refine ng ?_
    clear ng
    have rr := r₃.push { cls := .type "slice", data := .fields #[partValue p1, partValue p2, .none] }
    have oo := (o₁.trans o₂).trans o₃
    have hsl : (s₃.heap.push { cls := .type "slice", data := .fields #[partValue p1, partValue p2, .none] }).IsSlice s₃.heap.objs.size p1 p2 none := ⟨_, Heap.get?_push_size _ rfl, rfl, rfl⟩
    refine tail_any (typeIs_str _ _ _) slot_str_getitem.lookup (ops := [.ref s₃.heap.objs.size, .str xs t]) ?_ rfl
    refine wpAny_getItem_str_slice hsl rfl ?_
    unfold sliceS at h3
    unfold sliceMade
    have hk : slicePicked xs p1 p2 none = PySem.Builtin.Str.strSliceIndices lo' hi' 1 xs.length := by rw [← q1, ← q2]; rfl
    rw [hk]
    have h1' : ((none : Option (Int × Tok)).map (·.1)).getD 1 = 1 := rfl
    rw [h1']
    by_cases z : ((PySem.Builtin.Str.strSliceIndices lo' hi' 1 xs.length).length == xs.length) = true
    · rw [if_pos (by simpa using z)]
      rw [if_pos z] at h3
      exact ⟨oo.trans ⟨rfl, rfl, rfl⟩, _, _, rr, h3⟩
    · rw [if_neg (by simpa using z)]
      rw [if_neg z] at h3
      refine ⟨?_, ⟨oo.trans ⟨rfl, rfl, rfl⟩, _, _, rr, h3⟩⟩
      show (List.filterMap (fun x => xs.cps[x]?) (PySem.Builtin.Str.strSliceIndices lo' hi' 1 xs.length)).toArray.size ≤ sizeLine
      rw [List.size_toArray]
      refine Nat.le_trans (List.length_filterMap_le _ _) (Nat.le_trans (sliceIndices_le lo' hi' xs.length) (Nat.le_trans hz (by decide)))
  · exact e₃.elim
theorem E_rev {o e : Expr} {p p' : Pos} {x y : W Value} (ho : OkAV C (eval o env) x) (hst : OkAV C (eval e env) y)
    (hs : ∀ ov iv, subscripted (.Slice none none (some e) p') false ov iv = PySem.operate [ov, iv] (getItem ov iv) := by intro _ _; rfl) :
    OkAV C (eval (.Subscript o (.Slice none none (some e) p') p) env) (fun Q => x fun a => y fun st H L => st = .int (-1) 0 ∧ ∃ b xs, a = .ref b ∧ H b = some (.lst xs) ∧ xs.length ≤ 1048576 ∧ newW (.lst xs.reverse) Q H L) := OkA.mk fun P hP s H L Q tk r k => by
  refine Subscript_ (wpAny_post (ho.ok P hP s H L _ tk r k) (fun ov s₁ H₁ L₁ o₁ r₁ e₁ => wpAny_Slice ?_))
  have t₁ := Nat.zero_le s₁.toks
  rw [evalPart_none]
  refine wpAny_pure (wpAny_pure ?_)
  refine wpAny_post (hst.ok P hP s₁ H₁ L₁ _ t₁ r₁ e₁) (fun sv s₂ H₂ L₂ o₂ r₂ rr11 => ?_)
  refine by_ng fun ng => ?_
  obtain ⟨hv, b, xs, hb, hH, hz, hn⟩ := rr11
  refine ng ?_
  clear ng
  have t₂ := Nat.zero_le s₂.toks
  cases er_ref hb
  obtain ⟨t, rfl⟩ := er_int hv
  have rr := r₂.push { cls := .type "slice", data := .fields #[.none, .none, .int (-1) t] }
  refine by_ng fun ng => ?_
  obtain ⟨_, its, n, ho', hx⟩ := rr.hp _ _ hH
  refine ng ?_
  clear ng
  have hl : its.size = xs.length := by rw [← hx]; simp
  refine tail_any (listOf_is ho').typeIs list_getitem_lookup ?_ (hs _ _)
  refine wpAny_getItem_list_slice (listOf_is ho') (Heap.IsSliceOf.new _ _ _ _) .none .none (.int (-1) t) (by decide) ?_ (by rw [hl]; exact Nat.le_trans hz (by decide))
  refine Post.from (o₁.trans o₂) (Post.hp (k := s₂.toks) (rr.alloc (ho := .lst xs.reverse) _ ⟨_, _, Heap.get?_push_size _ rfl, ?_⟩) (hn _ ?_))
  · rw [krv_pick, ← hx]; simp
  · exact rr.fresh
end


theorem Itr.self {prog : Program} {w : World} {A : Around} {E : Value → Shared → Prop} {s : Shared} {it : Addr} {k : SrcK} {n i : Nat} {Q : Value → Shared → Prop} (I : Itr s.heap it k n i) (h : Q (.ref it) s) : wpAny (model prog w) A (pyIter (.ref it)) Q E s := by
  cases k with
  | lst a => exact wpAny_pyIter_listiter I h
  | tup a => exact wpAny_pyIter_tupleiter I h
  | rng lo m => exact wpAny_pyIter_rangeiter I.2.2 h
  | keys d ep => exact wpAny_pyIter_keyiter I h
  | vals d ep => exact wpAny_pyIter_valiter I h

noncomputable def testsT (ifs : List Expr) (env : Env) : Sem Bool := forIn ifs true fun c r => if r = true then do let ok ← isTrue c env (eval c env); pure (ForInStep.yield ok) else pure (ForInStep.yield r)
section
variable {C : Ctx} {env : Env}
theorem C_nil : OkAU C (testsT [] env) (fun Q => Q true) := OkA.ret _
theorem C_one {c : Expr} {w : W Bool} (h : OkAU C (isTrue c env (eval c env)) w) : OkAU C (testsT [c] env) w := by
  unfold testsT
  rw [List.forIn_cons]
  simp only [if_true]
  refine OkA.weaken (OkA.bind (e := fun x : ForInStep Bool => x) (x := fun Q => w fun b => Q (ForInStep.yield b)) (y := fun x Q => match x with | .yield b => Q b | .done b => Q b) (OkA.bind (e := fun b : Bool => b) (e' := fun x : ForInStep Bool => x) (y := fun b Q => Q (ForInStep.yield b)) h fun b => OkA.ret _) fun x => ?_) fun Q H L q => q
  cases x with
  | done b => exact OkA.ret _
  | yield b => exact OkA.ret b
end

section
variable {prog : Program} {w : World} {A : Around} {R : Result → Shared → Prop} {s : Shared}
theorem compLoop_own {elt target iter : Expr} {ifs : List Expr} {scope : Scope} {pos : Pos} {it acc : Value} {env : Env} (I : Nat → Shared → Prop)
    (turn : ∀ n s, I n s → wpAny (model prog w) A (pyNext it) (fun r s₁ => match r with
      | none => R (.ok .next) s₁
      | some v => wpAny (model prog w) A (letOwnedTupleGo target it v) (fun _ s₁' => wpAny (model prog w) A (assign target env v) (fun _ s₂ =>
          wpAny (model prog w) A (testsT ifs env) (fun ok s₃ =>
            if ok = true then wpAny (model prog w) A (eval elt env) (fun x s₄ =>
              wpAny (model prog w) A (call (.builtin "list.append") [acc, x]) (fun _ s₅ => ∃ m, m < n ∧ I m s₅) NoE s₄) NoE s₃
            else ∃ m, m < n ∧ I m s₃) NoE s₂) NoE s₁') NoE s₁) NoE s)
    (n : Nat) (h : I n s) :
    codeAny (model prog w) A (.compLoop (.ListComp elt [⟨target, iter, ifs, 0⟩] scope pos) 0 it acc env) R s := by
  refine codeAny_loop rfl I (fun n s hI => ?_) n h
  show wpAny _ A ((compTurn (.ListComp elt [⟨target, iter, ifs, 0⟩] scope pos) 0 it acc env).onRaise (fun x => do noteFrame x env; theTreesLotGoes x)) _ _ s
  refine wpAny_noted ?_
  rw [compTurn_list]
  refine wpAny_bind (wpAny_standAt (wpAny_bind (wpAny_mono (turn n s hI) (fun r s₁ h₁ => ?_) fun _ _ h' => h'.elim)))
  cases r with
  | none => exact wpAny_pure h₁
  | some v =>
    refine wpAny_bind (wpAny_mono h₁ (fun _ s₁' h₁' => ?_) fun _ _ h' => h'.elim)
    refine wpAny_bind (wpAny_mono h₁' (fun _ s₂ h₂ => ?_) fun _ _ h' => h'.elim)
    unfold testsT at h₂
    refine wpAny_bind (wpAny_mono h₂ (fun ok s₃ h₃ => ?_) fun _ _ h' => h'.elim)
    cases ok with
    | false => exact wpAny_pure ⟨rfl, h₃⟩
    | true =>
      exact wpAny_bind (wpAny_bind (wpAny_mono h₃ (fun x s₄ h₄ => wpAny_bind (wpAny_mono h₄ (fun _ s₅ h₅ => wpAny_pure (wpAny_pure ⟨rfl, h₅⟩)) fun _ _ h' => h'.elim)) fun _ _ h' => h'.elim))

theorem newCompEnv {M : Model} {E : Value → Shared → Prop} {scope : Scope} {globals : Addr} {cl : List (Str × Addr)} {qual : Str} {outer : Env} {bi : Addr} {Q : Env → Shared → Prop}
    (h : Q { scope, locals := s.heap.objs.size, globals, cells := cellsFrom (s.heap.objs.size + 1) scope.names cl, qual, func := none, code := outer.code, frame := outer.frame, builtins := outer.builtins }
      { s with heap := pushCells (s.heap.push { cls := .type "dict", data := .dict #[] }) scope.names }) :
    wpAny M A (newFunctionEnv scope globals cl [] qual none .none (some outer) bi) Q E s := by
  simp only [newFunctionEnv, Option.isSome_some, if_true]
  refine wpAny_bind (wpAny_alloc ?_)
  refine wpAny_bind (wpAny_layCells _ (fun name kind cells => by cases hkc : kind == NameKind.cell <;> simp [hkc]) _ _ _ _ ?_)
  rw [show ({ s with heap := s.heap.push { cls := .type "dict", data := .dict #[] } } : Shared).heap.objs.size = s.heap.objs.size + 1 from Heap.size_push ..]
  rw [List.forIn_nil]
  exact wpAny_bind (wpAny_pure (wpAny_pure h))
end

theorem cellsFrom_acc : ∀ (names : List (Str × NameKind)) (n : Nat) (acc : List (Str × Addr)), cellsFrom n names acc = cellsFrom n names [] ++ acc
  | [], n, acc => rfl
  | (x, k) :: r, n, acc => by
    unfold cellsFrom
    split
    · rw [cellsFrom_acc r (n + 1) ((x, n) :: acc), cellsFrom_acc r (n + 1) [(x, n)]]; simp
    · exact cellsFrom_acc r n acc
theorem lookup_append {α : Type} : ∀ (a b : List (Str × α)) (x : Str), (a ++ b).lookup x = (a.lookup x).or (b.lookup x)
  | [], b, x => rfl
  | (n, v) :: r, b, x => by
    rw [List.cons_append, List.lookup_cons, List.lookup_cons]
    cases h : x == n with
    | true => rfl
    | false => exact lookup_append r b x

noncomputable def rl (env : Env) (n : Str) (k : NameKind) : NameKind := if (k == .free && env.scope.kind == .function && env.kindOf n == some .cell) = true then .cell else k
theorem relabel_lookup (scope : Scope) (env : Env) (x : Str) : (relabel scope env).names.lookup x = (scope.names.lookup x).map (rl env x) := by
  unfold relabel
  generalize scope.names = names
  induction names with
  | nil => rfl
  | cons p r ih =>
    obtain ⟨n, k⟩ := p
    rw [List.map_cons]
    show List.lookup x ((if (k == NameKind.free && env.scope.kind == .function && env.kindOf n == some .cell) = true then (n, NameKind.cell) else (n, k)) :: _) = _
    have e : (if (k == NameKind.free && env.scope.kind == .function && env.kindOf n == some .cell) = true then (n, NameKind.cell) else (n, k)) = (n, rl env n k) := by
      unfold rl; split <;> rfl
    rw [e, List.lookup_cons, List.lookup_cons]
    by_cases h : x = n
    · subst h; simp
    · have : (x == n) = false := by simp [h]
      rw [this]; exact ih

/-- the cells a comprehension takes along -/
noncomputable def freesOf (sc : Scope) (env : Env) : List (Str × Addr) := ((sc.names.filter fun p => p.2 == .free).map fun p => (p.1, (env.cells.lookup p.1).getD 0)).reverse
theorem closure_go (env : Env) (f : Str × NameKind → List (Str × Addr) → Sem (ForInStep (List (Str × Addr))))
    (hf : ∀ name k cs, f (name, k) cs = if (k == .free) = true then (cellOf env name >>= fun a => pure (ForInStep.yield ((name, a) :: cs))) else pure (ForInStep.yield cs)) :
    ∀ (names : List (Str × NameKind)) (acc : List (Str × Addr)), (∀ p ∈ names, p.2 = .free → ∃ c, env.cells.lookup p.1 = some c) →
    forIn names acc f = pure (((names.filter fun p => p.2 == .free).map fun p => (p.1, (env.cells.lookup p.1).getD 0)).reverse ++ acc)
  | [], acc, _ => rfl
  | (n, k) :: r, acc, h => by
    rw [List.forIn_cons, hf]
    have ih := fun acc => closure_go env f hf r acc fun p hp => h p (List.mem_cons_of_mem _ hp)
    by_cases q : (k == NameKind.free) = true
    · obtain ⟨c, hc⟩ := h (n, k) (List.mem_cons_self ..) (by simpa using q)
      have hc' : cellOf env n = pure c := by unfold cellOf; rw [hc]
      rw [if_pos q, hc', pure_bind, pure_bind]
      show forIn r ((n, c) :: acc) f = _
      rw [ih, List.filter_cons, if_pos q]
      simp [hc]
    · rw [if_neg q, pure_bind]
      show forIn r acc f = _
      rw [ih, List.filter_cons, if_neg q]
theorem closure_of {sc : Scope} {env : Env} (h : ∀ p ∈ sc.names, p.2 = .free → ∃ c, env.cells.lookup p.1 = some c) : closureFor sc env = pure (freesOf sc env) := by
  unfold closureFor
  unfold freesOf
  rw [← List.append_nil (List.reverse _)]
  first
    | (rw [bind_pure]; exact closure_go env _ (fun name k cs => by cases hk : k == NameKind.free <;> simp [hk]) sc.names [] h)
    | exact closure_go env _ (fun name k cs => by cases hk : k == NameKind.free <;> simp [hk]) sc.names [] h


section
variable {C : Ctx} {h : Heap} {H : HA} {L : Ls}
theorem Rep.grow (r : Rep C h H L) {h' : Heap} (k : ∀ b o, h.get? b = some o → h'.get? b = some o) : Rep C h' H L :=
  ⟨fun b o e => k b o (r.keep b o e), fun a ho e => ⟨(r.hp a ho e).1, (r.hp a ho e).2.of_keep (k a)⟩, fun i l e => (r.loc i l e).of_keep (k _), r.lfree, r.dat.of (fun b _ _ x y => k b x y) fun _ _ _ q => q⟩
theorem LocOk.less {h : Heap} {l : Loc} {v : Option Value} (x : LocOk h l v) : LocOk h l none := by
  cases l with
  | dict d y => obtain ⟨m, hm, _⟩ := x; exact ⟨m, hm, fun v e => nomatch e⟩
  | cell c => obtain ⟨o, cv, h1, h2, _⟩ := x; exact ⟨o, cv, h1, h2, fun v e => nomatch e⟩
theorem getL_take : ∀ (L : Ls) (n i : Nat), getL (L.take n) i = if i < n then getL L i else none
  | L, 0, i => by simp [getL]
  | [], n + 1, i => by simp [getL]
  | v :: r, n + 1, 0 => by simp [getL]
  | v :: r, n + 1, i + 1 => by
    have := getL_take r n i
    simp only [List.take_succ_cons, getL, this]
    simp
theorem Rep.trim (r : Rep C h H L) (n : Nat) : Rep C h H (L.take n) := ⟨r.keep, r.hp, fun i l e => by
  rw [getL_take]
  by_cases q : i < n
  · rw [if_pos q]; exact r.loc i l e
  · rw [if_neg q]; exact (r.loc i l e).less, r.lfree, r.dat⟩
theorem Rep.drop {own : List Loc} (r : Rep { C with locs := C.locs ++ own } h H L) : Rep C h H L :=
  ⟨r.keep, r.hp, fun i l e => r.loc i l (by
    show (C.locs ++ own)[i]? = _
    rw [List.getElem?_append_left (List.getElem?_eq_some_iff.mp e).1]; exact e), fun l hl => r.lfree l (List.mem_append_left _ hl), fun b o e => let ⟨x, y, z, w⟩ := r.dat b o e; ⟨x, y, z, fun l hl => w l (List.mem_append_left _ hl)⟩⟩
theorem Rep.more {own : List Loc} (r : Rep C h H L) (ho : ∀ l ∈ own, LocOk h l none ∧ C.P.get? l.addr = none ∧ H l.addr = none ∧ C.D.get? l.addr = none) : Rep { C with locs := C.locs ++ own } h H (L.take C.locs.length) := by
  refine ⟨r.keep, r.hp, fun i l e => ?_, fun l hl => ?_, fun b o e => let ⟨x, y, z, w⟩ := r.dat b o e; ⟨x, y, z, fun l hl q => ?_⟩⟩
  rotate_left 2
  · rcases List.mem_append.mp hl with hl | hl
    · exact w l hl q
    · have := (ho l hl).2.2.2
      rw [q] at this
      exact absurd (this.symm.trans e) (by simp)
  · have e' : (C.locs ++ own)[i]? = some l := e
    rw [getL_take]
    by_cases q : i < C.locs.length
    · rw [List.getElem?_append_left q] at e'
      rw [if_pos q]; exact r.loc i l e'
    · rw [List.getElem?_append_right (by (first | lia | omega))] at e'
      rw [if_neg q]; exact (ho l (List.mem_of_getElem? e')).1
  · rcases List.mem_append.mp hl with hl | hl
    · exact r.lfree l hl
    · exact ⟨(ho l hl).2.1, (ho l hl).2.2.1⟩
theorem Rep.adopt (r : Rep C h H L) {D : Addr} {ho : HO} (k : HOk C.prog C.w h D ho) (hP : C.P.get? D = none) (hl : ∀ l ∈ C.locs, l.addr ≠ D) (hD : C.D.get? D = none) : Rep C h (upd H D ho) L := by
  refine ⟨r.keep, fun a ho' e => ?_, r.loc, fun l hm => ⟨(r.lfree l hm).1, ?_⟩, r.dat.of (fun _ _ _ _ y => y) fun b o e q => (upd_ne _ _ fun z => by rw [z, hD] at e; cases e).trans q⟩
  · by_cases q : a = D
    · subst q; rw [upd_same] at e; cases e; exact ⟨hP, k⟩
    · rw [upd_ne _ _ q] at e; exact r.hp a ho' e
  · rw [upd_ne _ _ (hl l hm)]; exact (r.lfree l hm).2
end

noncomputable def compT (sc : Scope) (T : List (Str × NK)) (base : Nat) : List (Str × NK) := tabOf sc base ++ T.filterMap fun t => match t.2 with
  | .slot i true => if sc.names.lookup t.1 = some .free then some (t.1, .slot i true) else none
  | .slot _ false => none
  | .glob v => some (gloT sc (t.1, v))
  | .hid v => some (gloT sc (t.1, v))
noncomputable def isSlotC : NK → Bool
  | .slot _ true => true
  | _ => false
noncomputable def compChk (sc : Scope) (T : List (Str × NK)) : Bool :=
  sc.kind == .function && decide ((slotsOf sc).map (·.1)).Nodup && (slotsOf sc).all (fun p => sc.names.lookup p.1 == some p.2 && (p.2 != .cell || ((cellsFrom 0 sc.names []).lookup p.1).isSome) && p.1 != Str.empty)
    && sc.names.all (fun p => p.2 != .free || (T.any fun t => t.1 == p.1 && isSlotC t.2) && !((cellsFrom 0 sc.names []).lookup p.1).isSome && sc.names.lookup p.1 == some .free && p.1 != ("__classdict__" : Str))

noncomputable def compW (base : Nat) (tw : Value → W Unit) (wt : W Bool) (we : W Value) (v : Value) : W Value := fun Q H L => ∃ k xs, SrcIs H v k xs ∧ xs.length ≤ 1048575 ∧ ∃ I : Nat → List Value → HA → Ls → Prop, I 0 [] H (L.take base) ∧
  ∀ i acc H L, I i acc H L → SrcIs H v k xs ∧ match xs[i]? with
    | none => newW (.lst acc) Q H L
    | some x => tw x (fun _ => wt fun b H L => if b = true then we (fun y H L => I (i + 1) (acc ++ [y]) H (L.take base)) H L else I (i + 1) acc H (L.take base)) H L

theorem cells_isNone {names : List (Str × NameKind)} {x : Str} {n : Nat} (h : (!((cellsFrom 0 names []).lookup x).isSome) = true) : (cellsFrom n names []).lookup x = none := by
  cases e : (cellsFrom n names []).lookup x with
  | none => rfl
  | some c =>
    have hm : x ∈ (cellsFrom n names []).map (·.1) := List.mem_map.mpr ⟨_, mem_of_lookup e, rfl⟩
    have e' : (cellsFrom n names []).map (·.1) = (cellsFrom 0 names []).map (·.1) := cellsFrom_names names n 0 [] [] rfl
    rw [e'] at hm
    generalize cellsFrom 0 names [] = l at hm h
    clear e e'
    induction l with
    | nil => cases hm
    | cons p r ih =>
      rw [List.lookup_cons] at h
      by_cases q : x = p.1
      · subst q; simp at h
      · have : (x == p.1) = false := by simp [q]
        rw [this] at h
        rw [List.map_cons, List.mem_cons] at hm
        exact ih (hm.resolve_left q) h

/-- the environment of a comprehension -/
noncomputable def cEnv (sc : Scope) (env : Env) (D : Addr) : Env := { scope := relabel sc env, locals := D, globals := env.globals, cells := cellsFrom (D + 1) sc.names (freesOf sc env), qual := env.qual, func := none, code := env.code, frame := env.frame, builtins := env.builtins }
noncomputable def ownL (sc : Scope) (env : Env) (D : Addr) : List Loc := (slotsOf sc).map (locOf (cEnv sc env D)) ++ [.dict D Str.empty]

theorem freesOf_lookup (sc : Scope) (env : Env) (x : Str) (c : Addr) (hx : (x, NameKind.free) ∈ sc.names) (hc : env.cells.lookup x = some c) : (freesOf sc env).lookup x = some c := by
  unfold freesOf
  have hm : (x, c) ∈ ((sc.names.filter fun p => p.2 == .free).map fun p => (p.1, (env.cells.lookup p.1).getD 0)).reverse := by
    refine List.mem_reverse.mpr (List.mem_map.mpr ⟨(x, .free), List.mem_filter.mpr ⟨hx, rfl⟩, ?_⟩)
    simp [hc]
  have hall : ∀ p ∈ ((sc.names.filter fun p => p.2 == .free).map fun p => (p.1, (env.cells.lookup p.1).getD 0)).reverse, p.1 = x → p.2 = c := by
    intro p hp e
    obtain ⟨q, _, rfl⟩ := List.mem_map.mp (List.mem_reverse.mp hp)
    have e' : q.1 = x := e
    show (env.cells.lookup q.1).getD 0 = c
    rw [e', hc]; rfl
  generalize ((sc.names.filter fun p => p.2 == .free).map fun p => (p.1, (env.cells.lookup p.1).getD 0)).reverse = l at hm hall
  induction l with
  | nil => cases hm
  | cons p r ih =>
    rw [List.lookup_cons]
    by_cases q : x = p.1
    · subst q
      simp [hall p (List.mem_cons_self ..) rfl]
    · have : (x == p.1) = false := by simp [q]
      rw [this]
      refine ih ?_ fun p' hp' => hall p' (List.mem_cons_of_mem _ hp')
      rcases List.mem_cons.mp hm with e | e
      · exact absurd (by rw [← e]) q
      · exact e

section
variable {K : Ctx} {env : Env} {T : List (Str × NK)} {sc : Scope}
theorem compChk_of (hc : compChk sc T = true) : sc.kind = .function ∧ ((slotsOf sc).map (·.1)).Nodup ∧
    (∀ p ∈ slotsOf sc, sc.names.lookup p.1 = some p.2 ∧ (p.2 = .cell → ((cellsFrom 0 sc.names []).lookup p.1).isSome = true) ∧ p.1 ≠ Str.empty) ∧
    (∀ p ∈ sc.names, p.2 = .free → (∃ i, (p.1, NK.slot i true) ∈ T) ∧ (!((cellsFrom 0 sc.names []).lookup p.1).isSome) = true ∧ sc.names.lookup p.1 = some .free ∧ (p.1 == ("__classdict__" : Str)) = false) := by
  unfold compChk at hc
  simp only [Bool.and_eq_true, beq_iff_eq, decide_eq_true_eq, List.all_eq_true] at hc
  refine by_ng fun ng => ?_
  obtain ⟨⟨⟨h1, h2⟩, h3⟩, h4⟩ := hc
  refine ng ?_
  clear ng
  refine ⟨h1, h2, fun p hp => ?_, fun p hp hf => ?_⟩
  · obtain ⟨⟨a, b⟩, c⟩ := h3 p hp
    refine ⟨a, fun q => ?_, by simpa using c⟩
    simp only [Bool.or_eq_true, bne_iff_ne, ne_eq, q, not_true_eq_false, false_or] at b
    exact b
  · have := h4 p hp
    simp only [hf, Bool.or_eq_true, Bool.and_eq_true] at this
    rcases this with this | ⟨⟨⟨a, b⟩, c⟩, d⟩
    · simp at this
    · refine ⟨?_, b, by simpa using c, by simpa using d⟩
      obtain ⟨t, ht, e⟩ := List.any_eq_true.mp a
      simp only [Bool.and_eq_true, beq_iff_eq] at e
      obtain ⟨e1, e2⟩ := e
      obtain ⟨n, k⟩ := t
      cases k with
      | slot i b => cases b with
        | true => exact ⟨i, by rw [← e1]; exact ht⟩
        | false => simp [isSlotC] at e2
      | glob v => simp [isSlotC] at e2
      | hid v => simp [isSlotC] at e2

theorem hkd_of {p : Str × NameKind} (hp : p ∈ slotsOf sc) : p.2 = .local ∨ p.2 = .cell := by
  have := (List.mem_filter.mp hp).2
  simpa using this

theorem cEnv_cell (hc : compChk sc T = true) (D : Addr) {p : Str × NameKind} (hp : p ∈ slotsOf sc) (z : p.2 = .cell) : ∃ c, (cellsFrom (D + 1) sc.names []).lookup p.1 = some c ∧ (cEnv sc env D).cells.lookup p.1 = some c := by
  obtain ⟨c, h⟩ := cellsFrom_lookup sc.names p.1 (D + 1) (((compChk_of hc).2.2.1 p hp).2.1 z)
  refine ⟨c, h, ?_⟩
  show (cellsFrom (D + 1) sc.names (freesOf sc env)).lookup p.1 = some c
  rw [cellsFrom_acc, lookup_append, h]; rfl

theorem comp_env (V : EnvOk K T env) (hc : compChk sc T = true) (D : Addr) (hD : ∀ l ∈ K.locs, l.addr < D) (h : Heap) (hcl : CellsOk h (D + 1) (cellsFrom (D + 1) sc.names [])) {P : Heap} (hP : HLe K.P P) :
    EnvOk { K with P := P, locs := K.locs ++ ownL sc env D } (compT sc T K.locs.length) (cEnv sc env D) := by
  refine by_ng fun ng => ?_
  obtain ⟨h1, h2, h3, h4⟩ := compChk_of hc
  refine ng ?_
  clear ng
  have cellAt := fun p hp z => cEnv_cell (env := env) hc D (p := p) hp z
  have inj : ∀ p ∈ slotsOf sc, ∀ q ∈ slotsOf sc, p.2 = .cell → q.2 = .cell → ∀ c, (cEnv sc env D).cells.lookup p.1 = some c → (cEnv sc env D).cells.lookup q.1 = some c → p.1 = q.1 := by
    intro p hp q hq zp zq c e1 e2
    refine by_ng fun ng => ?_
    obtain ⟨c1, a1, b1⟩ := cellAt p hp zp
    obtain ⟨c2, a2, b2⟩ := cellAt q hq zq
    refine ng ?_
    clear ng
    rw [b1] at e1; cases e1
    rw [b2] at e2; cases e2
    exact name_of_addr hcl.apart (mem_of_lookup a1) (mem_of_lookup a2)
  have own : ∀ l ∈ ownL sc env D, D ≤ l.addr := by
    intro l hl
    rcases List.mem_append.mp hl with hl | hl
    · obtain ⟨p, hp, rfl⟩ := List.mem_map.mp hl
      unfold locOf
      by_cases z : (p.2 == NameKind.cell) = true
      · rw [if_pos z]
        obtain ⟨c, a, b⟩ := cellAt p hp (by simpa using z)
        rw [b]
        exact Nat.le_of_succ_le (hcl.empty _ c (mem_of_lookup a)).2
      · rw [if_neg z]; exact Nat.le_refl _
    · rw [List.mem_singleton] at hl; subst hl; exact Nat.le_refl _
  refine ⟨by show (relabel sc env).kind = _; exact h1, ?_, fun x k hx => ?_⟩
  · show (K.locs ++ ownL sc env D).Nodup
    refine List.nodup_append.mpr ⟨V.nd, ?_, fun a ha b hb e => ?_⟩
    · refine List.nodup_append.mpr ⟨slots_nodup h2 (fun p hp z => let ⟨c, _, b⟩ := cellAt p hp z; ⟨c, b⟩) inj, by simp, fun a ha b hb e => ?_⟩
      rw [List.mem_singleton] at hb
      subst hb
      obtain ⟨p, hp, rfl⟩ := List.mem_map.mp ha
      unfold locOf at e
      by_cases z : (p.2 == NameKind.cell) = true
      · rw [if_pos z] at e; cases e
      · rw [if_neg z] at e
        simp only [Loc.dict.injEq] at e
        exact (h3 p hp).2.2 e.2
    · have q1 := hD a ha
      have q2 := own a (e ▸ hb)
      exact absurd q1 (Nat.not_lt.mpr q2)
  · rcases List.mem_append.mp hx with hx | hx
    · obtain ⟨p, hp, e⟩ := List.mem_map.mp hx
      cases e
      obtain ⟨q, i⟩ := p
      have hq : (slotsOf sc)[i]? = some q := by
        have := List.mem_zipIdx_iff_getElem?.mp hp
        simpa using this
      have hmem := List.mem_of_getElem? hq
      have hlen : i < (slotsOf sc).length := (List.getElem?_eq_some_iff.mp hq).1
      have hli : (K.locs ++ ownL sc env D)[K.locs.length + i]? = some (locOf (cEnv sc env D) q) := by
        rw [List.getElem?_append_right (by (first | lia | omega))]
        unfold ownL
        rw [Nat.add_sub_cancel_left, List.getElem?_append_left (by simpa using hlen), List.getElem?_map, hq]; rfl
      have hkind : (cEnv sc env D).kindOf q.1 = some q.2 := by
        show (relabel sc env).names.lookup q.1 = _
        rw [relabel_lookup, (h3 q hmem).1]
        unfold rl
        rcases hkd_of hmem with z | z <;> simp [z]
      rcases hkd_of hmem with z | z
      · have zc : (q.2 == NameKind.cell) = false := by rw [z]; decide
        show NameOk _ _ q.1 (.slot (K.locs.length + i) (q.2 == .cell))
        rw [zc]
        refine ⟨by rw [hkind, z], ?_⟩
        show (K.locs ++ ownL sc env D)[K.locs.length + i]? = _
        rw [hli]; unfold locOf; rw [z]; rfl
      · have zc : (q.2 == NameKind.cell) = true := by rw [z]; decide
        show NameOk _ _ q.1 (.slot (K.locs.length + i) (q.2 == .cell))
        rw [zc]
        obtain ⟨c, a, b⟩ := cellAt q hmem z
        refine ⟨c, .inl (by rw [hkind, z]), b, ?_⟩
        show (K.locs ++ ownL sc env D)[K.locs.length + i]? = _
        rw [hli]; unfold locOf; rw [z, b]; rfl
    · refine by_ng fun ng => ?_
      obtain ⟨t, ht, e⟩ := List.mem_filterMap.mp hx
      obtain ⟨n, nk⟩ := t
      refine ng ?_
      clear ng
      have N := V.nm n nk ht
      have glo : ∀ v, (∃ mg, K.P.Ns env.globals mg ∧ (mg n = some v ∨ (mg n = none ∧ ∃ mb, K.P.Ns env.builtins mb ∧ mb n = some v))) → some (gloT sc (n, v)) = some (x, k) → NameOk { K with P := P, locs := K.locs ++ ownL sc env D } (cEnv sc env D) x k := by
        intro v rr12 e
        obtain ⟨mg, g1, g2⟩ := rr12
        unfold gloT at e
        simp only [Option.some.injEq, Prod.mk.injEq] at e
        obtain ⟨rfl, rfl⟩ := e
        have base : ∃ mg, P.Ns env.globals mg ∧ (mg n = some v ∨ (mg n = none ∧ ∃ mb, P.Ns env.builtins mb ∧ mb n = some v)) := ⟨mg, Ns_keep g1 (hP _), g2.imp id fun ⟨a, mb, b, c⟩ => ⟨a, mb, Ns_keep b (hP _), c⟩⟩
        by_cases z : sc.names.lookup n = some .globalImplicit
        · rw [if_pos z]
          refine ⟨?_, base⟩
          show (relabel sc env).names.lookup n = _
          rw [relabel_lookup, z]; rfl
        · rw [if_neg z]; exact base
      cases nk with
      | slot i b =>
        cases b with
        | false => cases e
        | true =>
          simp only at e
          split at e
          · rename_i hfree
            simp only [Option.some.injEq, Prod.mk.injEq] at e
            refine by_ng fun ng => ?_
            obtain ⟨rfl, rfl⟩ := e
            obtain ⟨c, k1, k2, k3⟩ := N
            refine ng ?_
            clear ng
            have hm := mem_of_lookup hfree
            refine by_ng fun ng => ?_
            obtain ⟨_, f2, f3, f4⟩ := h4 _ hm rfl
            refine ng ?_
            clear ng
            have hcells : (cEnv sc env D).cells.lookup n = some c := by
              show (cellsFrom (D + 1) sc.names (freesOf sc env)).lookup n = some c
              rw [cellsFrom_acc, lookup_append, cells_isNone f2, freesOf_lookup sc env n c hm k2]; rfl
            refine ⟨c, ?_, hcells, ?_⟩
            · have e1 : (cEnv sc env D).kindOf n = some (rl env n .free) := by
                show (relabel sc env).names.lookup n = _
                rw [relabel_lookup, hfree]; rfl
              rw [e1]
              unfold rl
              split
              · exact .inl rfl
              · exact .inr ⟨rfl, f4⟩
            · show (K.locs ++ ownL sc env D)[i]? = _
              rw [List.getElem?_append_left (List.getElem?_eq_some_iff.mp k3).1]; exact k3
          · cases e
      | glob v => exact glo v N.2 e
      | hid v => exact glo v N e
end


section
variable {K : Ctx} {env : Env} {T : List (Str × NK)} {sc : Scope}

noncomputable def CompIn (K : Ctx) (env : Env) (sc : Scope) (T : List (Str × NK)) (tg elt : Expr) (ifs : List Expr) (tw : Value → W Unit) (wt : W Bool) (we : W Value) : Prop :=
  ∀ (P : Heap) (locs : List Loc) (env' : Env), HLe K.P P → EnvOk { K with P := P, locs := locs } (compT sc T K.locs.length) env' → locs.length = K.locs.length + (slotsOf sc).length + 1 →
    AsgnOk { K with P := P, locs := locs } (assign tg env') tw ∧ OkAU { K with P := P, locs := locs } (testsT ifs env') wt ∧ OkAV { K with P := P, locs := locs } (eval elt env') we

theorem comp_core {s₂ : Shared} {H : HA} {L : Ls} {v : Value} {k : SrcK} {xs : List Value} {it : Addr} {tg iter elt : Expr} {ifs : List Expr} {pos : Pos} {tw : Value → W Unit} {wt : W Bool} {we : W Value} {RR : Value → Addr → Result → Shared → Prop}
    (hh : K.A.handled = none) (V : EnvOk K T env) (hc : compChk sc T = true) (r : Rep K s₂.heap H L) (tk : 0 ≤ s₂.toks) (src : SrcIs H v k xs) (hit : Itr s₂.heap it k xs.length 0) (itP : K.P.get? it = none) (itH : H it = none) (itL : ∀ l ∈ K.locs, l.addr ≠ it) (itD : K.D.get? it = none)
    (hin : CompIn K env sc T tg elt ifs tw wt we) (hsz : xs.length ≤ 1048575)
    (I : Nat → List Value → HA → Ls → Prop) (I0 : I 0 [] H (L.take K.locs.length))
    (step : ∀ i acc H L, I i acc H L → SrcIs H v k xs ∧ match xs[i]? with
      | none => True
      | some x => tw x (fun _ => wt fun b H L => if b = true then we (fun y H L => I (i + 1) (acc ++ [y]) H (L.take K.locs.length)) H L else I (i + 1) acc H (L.take K.locs.length)) H L)
    (hRR : ∀ D Cd s' acc i H' L' ys nn m, Oth s₂ s' → 0 ≤ s'.toks → Rep K s'.heap H' L' → s'.heap.get? D = some (listOf ys nn) → ys.toList.map er = acc → H' D = none → K.P.get? D = none → (∀ l ∈ K.locs, l.addr ≠ D) → K.D.get? D = none →
      s'.heap.Ns Cd m → H' Cd = none → K.P.get? Cd = none → (∀ l ∈ K.locs, l.addr ≠ Cd) → K.D.get? Cd = none → Cd ≠ D → xs[i]? = none → I i acc H' L' → RR (.ref D) Cd (.ok .next) s') :
    wpAny (model K.prog K.w) K.A (newList []) (fun acc s₃ => wpAny (model K.prog K.w) K.A (newFunctionEnv sc env.globals (freesOf sc env) [] env.qual none .none (some env)) (fun cenv s₄ =>
      codeAny (model K.prog K.w) K.A (.compStart (.ListComp elt [⟨tg, iter, ifs, 0⟩] sc pos) 0 (.ref it) acc { cenv with scope := relabel sc env }) (RR acc cenv.locals) s₄) NoE s₃) NoE s₂ := by
  refine wpAny_newList ?_
  refine newCompEnv ?_
  simp only
  have hC : (s₂.heap.push { cls := .type "list", data := .seq ([] : List Value).toArray }).objs.size = s₂.heap.objs.size + 1 := Heap.size_push ..
  have old : ∀ b o, s₂.heap.get? b = some o → (pushCells ((s₂.heap.push { cls := .type "list", data := .seq ([] : List Value).toArray }).push { cls := .type "dict", data := .dict #[] }) sc.names).get? b = some o :=
    fun b o e => pushCells_keeps _ _ b o (Heap.get?_push_of_some _ (Heap.get?_push_of_some _ e))
  have hD₀ : (pushCells ((s₂.heap.push { cls := .type "list", data := .seq ([] : List Value).toArray }).push { cls := .type "dict", data := .dict #[] }) sc.names).get? s₂.heap.objs.size = some (listOf #[] 0) :=
    pushCells_keeps _ _ _ _ (Heap.get?_push_of_some _ (Heap.get?_push_size _ rfl))
  have hNs₀ : ∃ m, (pushCells ((s₂.heap.push { cls := .type "list", data := .seq ([] : List Value).toArray }).push { cls := .type "dict", data := .dict #[] }) sc.names).Ns (s₂.heap.objs.size + 1) m :=
    ⟨_, (hC ▸ Heap.Ns.new (s₂.heap.push { cls := .type "list", data := .seq ([] : List Value).toArray }) (.type "dict")).keeps (pushCells_keeps _ _)⟩
  have hcl : CellsOk (pushCells ((s₂.heap.push { cls := .type "list", data := .seq ([] : List Value).toArray }).push { cls := .type "dict", data := .dict #[] }) sc.names) (s₂.heap.objs.size + 1 + 1) (cellsFrom (s₂.heap.objs.size + 1 + 1) sc.names []) := by
    have ok := cellsFrom_ok sc.names ((s₂.heap.push { cls := .type "list", data := .seq ([] : List Value).toArray }).push { cls := .type "dict", data := .dict #[] }) (s₂.heap.objs.size + 1 + 1) [] ⟨fun _ _ hm => (nomatch hm), List.Pairwise.nil⟩ (by rw [Heap.size_push, hC]; exact Nat.le_refl _)
    rw [Heap.size_push, hC] at ok
    exact ok
  rw [hC]
  have fr : ∀ a, s₂.heap.objs.size ≤ a → s₂.heap.get? a = none := fun a ha => Heap.get?_none_of_le ha
  have frP : ∀ a, s₂.heap.objs.size ≤ a → K.P.get? a = none := fun a ha => by
    cases q : K.P.get? a with
    | none => rfl
    | some o => have := r.keep a o q; rw [fr a ha] at this; cases this
  have frH : ∀ a, s₂.heap.objs.size ≤ a → H a = none := fun a ha => by
    cases q : H a with
    | none => rfl
    | some ho => exact absurd (r.size q) (Nat.not_lt.mpr ha)
  have frD : ∀ a, s₂.heap.objs.size ≤ a → K.D.get? a = none := fun a ha => by
    cases q : K.D.get? a with
    | none => rfl
    | some o =>
      obtain ⟨⟨sl, g⟩, _⟩ := r.dat a o q
      rw [fr a ha] at g; cases g
  have frL : ∀ a, s₂.heap.objs.size ≤ a → ∀ l ∈ K.locs, l.addr ≠ a := fun a ha l hl e => absurd (r.lsize hl) (by rw [e]; exact Nat.not_lt.mpr ha)
  have itlt : it < s₂.heap.objs.size := let ⟨o, ho⟩ := hit.some; Heap.lt_size ho
  generalize pushCells ((s₂.heap.push { cls := .type "list", data := .seq ([] : List Value).toArray }).push { cls := .type "dict", data := .dict #[] }) sc.names = h₄ at old hD₀ hNs₀ hcl
  have own0 : ∀ l ∈ ownL sc env (s₂.heap.objs.size + 1), LocOk h₄ l none ∧ s₂.heap.objs.size < l.addr := by
    intro l hl
    rcases List.mem_append.mp hl with hl | hl
    · obtain ⟨p, hp, rfl⟩ := List.mem_map.mp hl
      unfold locOf
      by_cases z : (p.2 == NameKind.cell) = true
      · rw [if_pos z]
        obtain ⟨c, a, b⟩ := cEnv_cell (env := env) hc (s₂.heap.objs.size + 1) hp (by simpa using z)
        rw [b]
        refine by_ng fun ng => ?_
        obtain ⟨⟨o, ho, hd⟩, hle⟩ := hcl.empty _ c (mem_of_lookup a)
        refine ng ?_
        clear ng
        exact ⟨⟨o, none, ho, hd, fun v e => nomatch e⟩, by show s₂.heap.objs.size < c; (first | lia | omega)⟩
      · rw [if_neg z]
        obtain ⟨m, hm⟩ := hNs₀
        exact ⟨⟨m, hm, fun v e => nomatch e⟩, by show s₂.heap.objs.size < s₂.heap.objs.size + 1; (first | lia | omega)⟩
    · rw [List.mem_singleton] at hl; subst hl
      obtain ⟨m, hm⟩ := hNs₀
      exact ⟨⟨m, hm, fun v e => nomatch e⟩, by show s₂.heap.objs.size < s₂.heap.objs.size + 1; (first | lia | omega)⟩
  have r₄ : Rep { K with locs := K.locs ++ ownL sc env (s₂.heap.objs.size + 1) } h₄ H (L.take K.locs.length) := (r.grow old).more fun l hl => ⟨(own0 l hl).1, frP _ (Nat.le_of_lt (own0 l hl).2), frH _ (Nat.le_of_lt (own0 l hl).2), frD _ (Nat.le_of_lt (own0 l hl).2)⟩
  have hmemD : Loc.dict (s₂.heap.objs.size + 1) Str.empty ∈ K.locs ++ ownL sc env (s₂.heap.objs.size + 1) := List.mem_append_right _ (List.mem_append_right _ (List.mem_singleton.mpr rfl))
  have allL : ∀ b, b = it ∨ b = s₂.heap.objs.size → ∀ l ∈ K.locs ++ ownL sc env (s₂.heap.objs.size + 1), l.addr ≠ b := by
    intro b hb l hl
    rcases List.mem_append.mp hl with hl | hl
    · rcases hb with rfl | rfl
      · exact itL l hl
      · exact frL _ (Nat.le_refl _) l hl
    · have := (own0 l hl).2
      intro e
      rw [e] at this
      rcases hb with q | q
      · rw [q] at this; exact absurd this (Nat.not_lt.mpr (Nat.le_of_lt itlt))
      · rw [q] at this; exact Nat.lt_irrefl _ this
  have Vin : ∀ P, HLe K.P P → EnvOk { K with P := P, locs := K.locs ++ ownL sc env (s₂.heap.objs.size + 1) } (compT sc T K.locs.length) (cEnv sc env (s₂.heap.objs.size + 1)) := fun P hP =>
    comp_env V hc (s₂.heap.objs.size + 1) (fun l hl => Nat.lt_succ_of_lt (r.lsize hl)) h₄ hcl hP
  have lenIn : (K.locs ++ ownL sc env (s₂.heap.objs.size + 1)).length = K.locs.length + (slotsOf sc).length + 1 := by
    rw [List.length_append]; unfold ownL; rw [List.length_append, List.length_map]; rfl
  have hitD : it ≠ s₂.heap.objs.size := Nat.ne_of_lt itlt
  have hit₄ : Itr h₄ it k xs.length 0 := hit.of_keep (old it)
  have hDP := frP _ (Nat.le_refl s₂.heap.objs.size)
  have hDH := frH _ (Nat.le_refl s₂.heap.objs.size)
  have hDL := frL _ (Nat.le_refl s₂.heap.objs.size)
  have hDD := frD _ (Nat.le_refl s₂.heap.objs.size)
  have hCDD := frD (s₂.heap.objs.size + 1) (Nat.le_succ _)
  have hCP := frP (s₂.heap.objs.size + 1) (Nat.le_succ _)
  have hCL := frL (s₂.heap.objs.size + 1) (Nat.le_succ _)
  have hCD : s₂.heap.objs.size + 1 ≠ s₂.heap.objs.size := by (first | lia | omega)
  generalize s₂.heap.objs.size = D at hD₀ r₄ hmemD allL Vin lenIn hitD hDP hDH hDL hDD hCDD hCP hCL hCD
  have loop : codeAny (model K.prog K.w) K.A (.compLoop (.ListComp elt [⟨tg, iter, ifs, 0⟩] sc pos) 0 (.ref it) (.ref D) (cEnv sc env (D + 1))) (RR (.ref D) (D + 1)) { s₂ with heap := h₄ } := by
    refine compLoop_own (fun n s' => ∃ i acc H L ys nn, n + i = xs.length + 1 ∧ acc.length ≤ i ∧ Oth s₂ s' ∧ 0 ≤ s'.toks ∧ Rep { K with locs := K.locs ++ ownL sc env (D + 1) } s'.heap H (L.take K.locs.length) ∧ s'.heap.get? D = some (listOf ys nn) ∧ ys.toList.map er = acc ∧
      Itr s'.heap it k xs.length i ∧ H it = none ∧ H D = none ∧ I i acc H (L.take K.locs.length)) ?_ (xs.length + 1) ⟨0, [], H, L, #[], 0, rfl, Nat.le_refl _, ⟨rfl, rfl, rfl⟩, tk, r₄, hD₀, rfl, hit₄, itH, hDH, I0⟩
    intro n s₃ rr14
    refine by_ng fun ng => ?_
    obtain ⟨i, acc, H₃, L₃, ys, nn, hn, hal, o₃, t₃, r₃, d₃, hys, it₃, hit₃, hD₃, i₃⟩ := rr14
    obtain ⟨src₃, st⟩ := step i acc H₃ _ i₃
    refine ng ?_
    clear ng
    refine wpAny_with_toks (n := 0) t₃ (wpAny_mono (next_ok (C := { K with locs := K.locs ++ ownL sc env (D + 1) }) (Q := fun ov s₄ => match ov with
      | some v' => ∃ x, xs[i]? = some x ∧ er v' = x ∧ Itr s₄.heap it k xs.length (i + 1) ∧ Rep { K with locs := K.locs ++ ownL sc env (D + 1) } s₄.heap H₃ (L₃.take K.locs.length) ∧ s₄.heap.get? D = some (listOf ys nn) ∧ Oth s₃ s₄
      | none => xs[i]? = none ∧ Rep { K with locs := K.locs ++ ownL sc env (D + 1) } s₄.heap H₃ (L₃.take K.locs.length) ∧ s₄.heap.get? D = some (listOf ys nn) ∧ Oth s₃ s₄) hh r₃ src₃ it₃
      (fun x v' h' tk' h1 h2 h3 h4 => ⟨x, h1, h2, h3, r₃.turnJunk h4 itP hit₃ (allL it (.inl rfl)) itD, (h4.2 D (Ne.symm hitD)).trans d₃, ⟨rfl, rfl, rfl⟩⟩)
      (fun h1 h' h2 => ⟨h1, r₃.ext h2 itP hit₃ (allL it (.inl rfl)) itD, h2 D _ (Ne.symm hitD) d₃, ⟨rfl, rfl, rfl⟩⟩)) (fun ov s₄ h₄ t₄ => ?_) fun _ _ q => q.elim)
    cases ov with
    | none =>
      refine by_ng fun ng => ?_
      obtain ⟨h1, r₄, d₄, o₄⟩ := h₄
      refine ng ?_
      clear ng
      obtain ⟨m, hm, _⟩ : LocOk s₄.heap (.dict (D + 1) Str.empty) none := by
        obtain ⟨j, hj⟩ := List.getElem?_of_mem hmemD
        exact (r₄.loc j _ hj).less
      exact hRR D (D + 1) s₄ acc i H₃ _ ys nn m (o₃.trans o₄) t₄ r₄.drop d₄ hys hD₃ hDP hDL hDD hm (r₄.lfree _ hmemD).2 hCP hCL hCDD hCD h1 i₃
    | some v' =>
      refine by_ng fun ng => ?_
      obtain ⟨xv, h1, h2, it₄, r₄, d₄, o₄⟩ := h₄
      refine ng ?_
      clear ng
      rw [h1] at st
      simp only at st
      refine letGo_ok it₄ ?_
      have hle : HLe K.P (Ctx.fence { K with locs := K.locs ++ ownL sc env (D + 1) } s₄.heap [it, D]).P := fun b o e => fence_keep r₄ [it, D] b o e
      have rf : Rep (Ctx.fence { K with locs := K.locs ++ ownL sc env (D + 1) } s₄.heap [it, D]) s₄.heap H₃ (L₃.take K.locs.length) := r₄.fence [it, D] fun b hb => by
        rcases List.mem_cons.mp hb with hb | hb
        · exact ⟨by rw [hb]; exact hit₃, allL b (.inl hb), by rw [hb]; exact itD⟩
        · rw [List.mem_singleton] at hb; exact ⟨by rw [hb]; exact hD₃, allL b (.inr hb), by rw [hb]; exact hDD⟩
      obtain ⟨oit, hoit⟩ := it₄.some
      have back : ∀ {s' : Shared} {H' L'}, Rep (Ctx.fence { K with locs := K.locs ++ ownL sc env (D + 1) } s₄.heap [it, D]) s'.heap H' L' →
          Rep { K with locs := K.locs ++ ownL sc env (D + 1) } s'.heap H' L' ∧ Itr s'.heap it k xs.length (i + 1) ∧ H' it = none ∧ s'.heap.get? D = some (listOf ys nn) ∧ H' D = none := fun {s' H' L'} rr => by
        obtain ⟨u1, u2, u3⟩ := r₄.unfence rr
        refine ⟨u1, it₄.of_keep fun o e => ?_, (u3 it (by simp) ⟨oit, hoit⟩).1, ?_, (u3 D (by simp) ⟨_, d₄⟩).1⟩
        · rcases u2 it (by simp) with q | q
          · rw [q]; exact e
          · rw [q] at e; cases e
        · rcases u2 D (by simp) with q | q
          · rw [q]; exact d₄
          · rw [q] at d₄; cases d₄
      subst h2
      obtain ⟨ok1, ok2, ok3⟩ := hin _ _ _ hle (Vin _ hle) lenIn
      have self : HLe (Ctx.fence { K with locs := K.locs ++ ownL sc env (D + 1) } s₄.heap [it, D]).P (Ctx.fence { K with locs := K.locs ++ ownL sc env (D + 1) } s₄.heap [it, D]).P := fun _ _ e => e
      refine wpAny_post ((ok1 v').ok _ self s₄ H₃ _ _ t₄ rf st) (fun _ s₅ H₅ L₅ o₅ r₅ e₅ => ?_)
      have t₅ := Nat.zero_le s₅.toks
      refine wpAny_post (ok2.ok _ self s₅ H₅ L₅ _ t₅ r₅ e₅) (fun b s₆ H₆ L₆ o₆ r₆ e₆ => ?_)
      have t₆ := Nat.zero_le s₆.toks
      have hlt : i < xs.length := (List.getElem?_eq_some_iff.mp h1).1
      cases b with
      | false =>
        rw [if_neg (by simp)] at e₆ ⊢
        refine by_ng fun ng => ?_
        obtain ⟨b1, b2, b3, b4, b5⟩ := back r₆
        refine ng ?_
        clear ng
        exact ⟨n - 1, by (first | lia | omega), i + 1, acc, H₆, L₆, ys, nn, by (first | lia | omega), by (first | lia | omega), (((o₃.trans o₄).trans o₅).trans o₆), t₆, b1.trim _, b4, hys, b2, b3, b5, e₆⟩
      | true =>
        rw [if_pos rfl] at e₆ ⊢
        refine wpAny_post (ok3.ok _ self s₆ H₆ L₆ _ t₆ r₆ e₆) (fun y s₇ H₇ L₇ o₇ r₇ e₇ => ?_)
        have t₇ := Nat.zero_le s₇.toks
        refine by_ng fun ng => ?_
        obtain ⟨b1, b2, b3, b4, b5⟩ := back r₇
        refine ng ?_
        clear ng
        have hyl : ys.size = acc.length := by rw [← hys]; simp
        refine wpAny_list_append_plain (items := ys) ⟨nn, b4⟩ (fun h' ⟨n', hl'⟩ hs => ?_) (Nat.le_trans (by (first | lia | omega) : ys.size ≤ 1048575) (by decide))
        refine ⟨n - 1, by (first | lia | omega), i + 1, acc ++ [er y], H₇, L₇, ys.push y, n', by (first | lia | omega), by simp; (first | lia | omega), ((((o₃.trans o₄).trans o₅).trans o₆).trans o₇).trans ⟨rfl, rfl, rfl⟩, t₇, (b1.turnJunk hs hDP b5 (allL D (.inr rfl)) hDD).trim _, hl', ?_, b2.of_keep fun o e => (hs.2 it hitD).trans e, b3, b5, e₇⟩
        rw [← hys]; simp
  exact codeAny_compStart_list loop (hit₄.self loop)

noncomputable def CompA (C : Ctx) (env : Env) (sc : Scope) (T : List (Str × NK)) (tg elt : Expr) (ifs : List Expr) (tw : Value → W Unit) (wt : W Bool) (we : W Value) : Prop :=
  ∀ (C' : Ctx) (env' : Env), C'.A = C.A → HLe C.P C'.P → EnvOk C' (compT sc T C.locs.length) env' → C'.locs.length = C.locs.length + (slotsOf sc).length + 1 →
    AsgnOk C' (assign tg env') tw ∧ OkAU C' (testsT ifs env') wt ∧ OkAV C' (eval elt env') we

theorem frees_ok {C : Ctx} (V : EnvOk C T env) (hc : compChk sc T = true) : closureFor sc env = pure (freesOf sc env) := closure_of fun p hp hf => by
  refine by_ng fun ng => ?_
  obtain ⟨⟨i, hi⟩, _⟩ := (compChk_of hc).2.2.2 p hp hf
  obtain ⟨c, _, h, _⟩ := V.nm _ _ hi
  refine ng ?_
  clear ng
  exact ⟨c, h⟩
theorem local_names (hc : compChk sc T = true) : ∀ x ∈ sc.names, x.2 = .local → sc.names.lookup x.1 = some .local := fun x hx hl => by
  have := ((compChk_of hc).2.2.1 x (List.mem_filter.mpr ⟨hx, by rw [hl]; rfl⟩)).1
  rw [hl] at this; exact this

theorem comp_run {C : Ctx} {tg iter elt : Expr} {ifs : List Expr} {pos : Pos} {w : W Value} {tw : Value → W Unit} {wt : W Bool} {we : W Value} {use : Option (Value → Sem Unit)} {y : Value → W Value}
    (hh : C.A.handled = none) (S : Stat C) (V : EnvOk C T env) (hc : compChk sc T = true) (hi : OkAV C (eval iter env) w) (hin : CompA C env sc T tg elt ifs tw wt we)
    (hu : match use with
      | none => ∀ v, y v = fun Q => Q v
      | some u => ∃ z : Value → W Unit, AsgnOk C u z ∧ ∀ v, y v = fun Q => z v fun _ => Q .none)
    (hs : ∀ x, foldedSetIterable iter env x = pure x) : OkAV C (comprehension (.ListComp elt [⟨tg, iter, ifs, 0⟩] sc pos) sc env (firstIterPos [⟨tg, iter, ifs, 0⟩] pos) (newList []) false (eval iter env) use)
      (fun Q => w fun v => compW C.locs.length tw wt we v fun a => y a Q) := OkA.mk fun P hP s H L Q tk r e => by
  refine wpAny_comprehension_free (g := ⟨tg, iter, ifs, 0⟩) (gs := []) (cl := freesOf sc env) rfl hs (frees_ok V hc) (compChk_of hc).1 (local_names hc) ?_
  refine wpAny_post (hi.ok P hP s H L _ tk r e) (fun v s₁ H₁ L₁ o₁ r₁ e₁ => ?_)
  have t₁ := Nat.zero_le s₁.toks
  refine by_ng fun ng => ?_
  obtain ⟨k, xs, hsrc, hsz, I, hI, step⟩ := e₁
  obtain ⟨av, hav⟩ := hsrc.ref
  refine ng ?_
  clear ng
  have hv := er_ref hav
  subst hv
  refine iter_ok (C := C.at P) (S.at hP).sys r₁ hsrc fun ob hit => ?_
  have hitP : (C.at P).P.get? s₁.heap.objs.size = none := r₁.pfresh
  have hitL : ∀ l ∈ (C.at P).locs, l.addr ≠ s₁.heap.objs.size := fun l hl => Nat.ne_of_lt (r₁.lsize hl)
  have hitH : H₁ s₁.heap.objs.size = none := r₁.fresh
  have hitD : (C.at P).D.get? s₁.heap.objs.size = none := r₁.dfresh
  have r₂ := r₁.push ob
  refine comp_core (K := C.at P) (s₂ := { s₁ with heap := s₁.heap.push ob }) hh (V.at hP) hc r₂ t₁ hsrc hit hitP hitH hitL hitD
    (fun P' locs env' hle V' hlen => hin { C with P := P', locs := locs } env' rfl (hP.trans hle) V' hlen) hsz I hI (fun i acc H L hi => ?_) ?_
  · obtain ⟨a, b⟩ := step i acc H L hi
    refine ⟨a, ?_⟩
    cases q : xs[i]? with
    | none => trivial
    | some x => rw [q] at b; exact b
  · intro D Cd s' acc i H' L' ys nn m o' t' r' d' hys hD hDP hDL hDD hm hCH hCP hCL hCDD hCD hx hi'
    obtain ⟨_, fin⟩ := step i acc H' L' hi'
    rw [hx] at fin
    have o₂ : Oth s s' := (o₁.trans ⟨rfl, rfl, rfl⟩).trans o'
    have r'' : Rep (C.at P) s'.heap (upd H' D (.lst acc)) L' := r'.adopt (ho := .lst acc) ⟨ys, nn, d', hys⟩ hDP hDL hDD
    have hCH' : upd H' D (.lst acc) Cd = none := by rw [upd_ne _ _ hCD]; exact hCH
    have fin' : y (.ref D) Q (upd H' D (.lst acc)) L' := fin D hD
    cases use with
    | none =>
      refine ⟨m, hm, fun h' hs' => ⟨o₂, _, L', r''.turnJunk hs' hCP hCH' hCL hCDD, ?_⟩⟩
      have e := hu (.ref D)
      rw [e] at fin'; exact fin'
    | some u =>
      obtain ⟨z, hz, ez⟩ := hu
      have e := ez (.ref D)
      rw [e] at fin'
      have hle : HLe C.P ((C.at P).fence s'.heap [Cd]).P := HLe.trans hP fun b o q => fence_keep r'' [Cd] b o q
      have rf : Rep ((C.at P).fence s'.heap [Cd]) s'.heap (upd H' D (.lst acc)) L' := r''.fence [Cd] fun b hb => by rw [List.mem_singleton] at hb; subst hb; exact ⟨hCH', hCL, hCDD⟩
      refine wpAny_mono ((hz (.ref D)).ok _ hle s' _ _ _ t' rf fin') (fun _ s₃ rr13 => ?_) fun _ _ q => q.elim
      refine by_ng fun ng => ?_
      obtain ⟨o₃, H₃, L₃, r₃, k₃⟩ := rr13
      obtain ⟨u1, u2, u3⟩ := r''.unfence r₃
      obtain ⟨om, es, ep, hom, hrest⟩ := hm
      refine ng ?_
      clear ng
      have hom' : s₃.heap.get? Cd = some om := by
        rcases u2 Cd (by simp) with q | q
        · rw [q]; exact hom
        · rw [q] at hom; cases hom
      have hm' : s₃.heap.Ns Cd m := ⟨om, es, ep, hom', hrest⟩
      have hH₃ := (u3 Cd (by simp) ⟨om, hom⟩).1
      exact ⟨m, hm', fun h' hs' => ⟨o₂.trans o₃, H₃, L₃, u1.turnJunk hs' hCP hH₃ hCL hCDD, k₃⟩⟩

theorem E_comp {C : Ctx} {tg iter elt : Expr} {ifs : List Expr} {pos : Pos} {w : W Value} {tw : Value → W Unit} {wt : W Bool} {we : W Value}
    (hh : C.A.handled = none) (S : Stat C) (V : EnvOk C T env) (hc : compChk sc T = true) (hi : OkAV C (eval iter env) w) (hin : CompA C env sc T tg elt ifs tw wt we)
    (hs : ∀ x, foldedSetIterable iter env x = pure x := by intro _; rfl) : OkAV C (eval (.ListComp elt [⟨tg, iter, ifs, 0⟩] sc pos) env) (fun Q => w fun v => compW C.locs.length tw wt we v Q) := by
  rw [arm_eval_ListComp]
  exact comp_run (use := none) (y := fun v Q => Q v) hh S V hc hi hin (fun _ => rfl) hs

theorem S_assign_comp {C : Ctx} {x : Str} {k : NK} {p' : Pos} {tg iter elt : Expr} {ifs : List Expr} {pos p : Pos} {w : W Value} {tw : Value → W Unit} {wt : W Bool} {we : W Value}
    (hh : C.A.handled = none) (S : Stat C) (V : EnvOk C T env) (hk : (x, k) ∈ T) (hc : compChk sc T = true) (hi : OkAV C (eval iter env) w) (hin : CompA C env sc T tg elt ifs tw wt we)
    (hsw : swapsWith (.ListComp elt [⟨tg, iter, ifs, 0⟩] sc pos) (some (.Name x p')) p.line env = pure true)
    (hs : ∀ x, foldedSetIterable iter env x = pure x := by intro _; rfl) : OkAF C (exec (.Assign [.Name x p'] (.ListComp elt [⟨tg, iter, ifs, 0⟩] sc pos) p) env) (fun Q => w fun v => compW C.locs.length tw wt we v fun a => storeW k a fun _ => nextW Q) := by
  rw [arm_exec_Assign]
  refine OkA.stand ?_
  have h1 : swapsWithSole [.Name x p'] (.ListComp elt [⟨tg, iter, ifs, 0⟩] sc pos) p.line env = pure true := hsw
  rw [h1, pure_bind]
  simp only [if_true]
  rw [arm_evalThenUse_ListComp]
  have hz : AsgnOk C (fun v => assignAll v ((assignEach [.Name x p'] env).map (·.2))) (storeW k) := fun v => by
    show OkAU C (assign (.Name x p') env v) _
    exact A_name V hk v
  have run := comp_run (y := fun v Q => storeW k v fun _ => Q .none) (pos := pos) (tg := tg) (iter := iter) (elt := elt) (ifs := ifs) (use := some fun v => assignAll v ((assignEach [.Name x p'] env).map (·.2))) hh S V hc hi hin ⟨storeW k, hz, fun _ => rfl⟩ hs
  generalize (fun v => assignAll v ((assignEach [.Name x p'] env).map (·.2))) = u at run ⊢
  have step := OkA.bind (f := fun _ => (pure () : Sem Unit)) (e' := fun u : Unit => u) (y := fun _ Q => Q ()) run fun _ => OkA.ret ()
  exact OkA.bind (f := fun _ => (pure .next : Sem Flow)) (e' := erF) (y := fun _ Q => nextW Q) step fun _ => OkA.ret _
end


/-! the parts of the program, by their places -/
noncomputable def nthS : List Stmt → Nat → Stmt
  | [], _ => .Pass ⟨0, 0, 0, 0⟩
  | s :: _, 0 => s
  | _ :: r, n + 1 => nthS r n
noncomputable def topS (i : Nat) : Stmt := nthS PySem.Challenge.pw_pd0199_01.main.body i
noncomputable def bodyS : Stmt → List Stmt
  | .FunctionDef _ _ b _ _ _ _ _ _ _ => b
  | .ClassDef _ _ _ b _ _ _ _ _ _ _ => b
  | _ => []
noncomputable def scopeS : Stmt → Scope
  | .FunctionDef _ _ _ _ _ _ s _ _ _ => s
  | _ => ⟨.module, [], false, false, []⟩
noncomputable def argsS : Stmt → Arguments
  | .FunctionDef _ a _ _ _ _ _ _ _ _ => a
  | _ => ⟨[], [], none, [], [], none, []⟩
noncomputable def FB (i : Nat) : List Stmt := bodyS (topS i)
noncomputable def FS (i : Nat) : Scope := scopeS (topS i)
noncomputable def FP (i : Nat) : Arguments := argsS (topS i)
noncomputable def MB (i j : Nat) : List Stmt := bodyS (nthS (bodyS (topS i)) j)
noncomputable def MS (i j : Nat) : Scope := scopeS (nthS (bodyS (topS i)) j)
noncomputable def MP (i j : Nat) : Arguments := argsS (nthS (bodyS (topS i)) j)


theorem S_wall {C : Ctx} {t : Sem Flow} : OkAF C t (fun _ _ _ => False) := OkA.mk fun P hP => OkG.never fun _ _ _ h => h

/-- what is no longer of use may be forgotten -/
noncomputable def HSub (H H' : HA) : Prop := ∀ a ho, H a = some ho → H' a = some ho
noncomputable def fgt {α : Type} (Q : α → HA → Ls → Prop) : α → HA → Ls → Prop := fun a H' L' => ∃ H'', HSub H'' H' ∧ Q a H'' L'
theorem Rep.forget {C : Ctx} {h : Heap} {H H' : HA} {L : Ls} (r : Rep C h H L) (k : HSub H' H) : Rep C h H' L :=
  ⟨r.keep, fun a ho e => r.hp a ho (k a ho e), r.loc, fun l hl => ⟨(r.lfree l hl).1, by
    cases q : H' l.addr with
    | none => rfl
    | some ho => have := k _ _ q; rw [(r.lfree l hl).2] at this; cases this⟩, fun b o e => let ⟨x, y, z, w⟩ := r.dat b o e; ⟨x, y, (by
    cases q : H' b with
    | none => rfl
    | some ho => exact absurd ((k _ _ q).symm.trans z) (by simp)), w⟩⟩
theorem OkG.forget {α γ : Type} {e : α → γ} {C : Ctx} {t : Sem α} {x : W γ} (h : OkG e C t x) : OkG e C t (fun Q => x (fgt Q)) := fun s H L Q tk r k =>
  wpAny_mono (h s H L _ tk r k) (fun a s' ⟨o, H', L', r', H'', hs, q⟩ => ⟨o, H'', L', r'.forget hs, q⟩) fun _ _ q => q
theorem FnA.spec {B : Heap} {n : Nat} {f : Addr} {cw cw' : BW} (h : FnA B n f cw) (k : ∀ vs Q H L, cw' vs Q H L → cw vs (fgt Q) H L) : FnA B n f cw' := fun C hC hR P hP vs => ((h C hC hR P hP vs).forget).weaken fun Q H L e => k _ Q H L e
theorem CodeA.forget {C : Ctx} {f : Value} {cw : BW} (h : CodeA C f cw) : CodeA C f (fun vs Q => cw vs (fgt Q)) := fun P hP vs s H L Q tk r e => codeAny_mono (h P hP vs s H L _ tk r e) fun rr s' z => by
  rcases rr with x | (v | _ | _ | _) <;> first | exact z | (obtain ⟨o, H', L', r', H'', hs, q⟩ := z; exact ⟨o, H'', L', r'.forget hs, q⟩)
theorem FnK.spec {B : Heap} {fr : Bool} {n : Nat} {f : Addr} {cw cw' : BW} (h : FnK B fr n f cw) (k : ∀ vs Q H L, cw' vs Q H L → cw vs (fgt Q) H L) : FnK B fr n f cw' := fun C a b c P hP vs s H L Q tk r e => (h C a b c).forget P hP vs s H L Q tk r (k _ _ _ _ e)
theorem HSub.refl (H : HA) : HSub H H := fun _ _ e => e
theorem HSub.trans {a b c : HA} (x : HSub a b) (y : HSub b c) : HSub a c := fun p ho e => y p ho (x p ho e)
theorem HSub.upd {H H' : HA} (h : HSub H H') {a : Addr} {ho : HO} (e : H a = none) : HSub H (upd H' a ho) := fun b ho' q => by
  have : b ≠ a := fun z => by rw [z, e] at q; cases q
  rw [upd_ne _ _ this]; exact h b ho' q
theorem HSub.both {H H' : HA} (h : HSub H H') (a : Addr) (ho : HO) : HSub (Mine.upd H a ho) (Mine.upd H' a ho) := fun b ho' q => by
  by_cases z : b = a
  · subst z; rw [upd_same] at q ⊢; exact q
  · rw [upd_ne _ _ z] at q ⊢; exact h b ho' q

noncomputable def argsW (n : Nat) : List Value → W (List Value) := fun vs Q H L => vs.length = n ∧ Q vs H L
theorem bind_args {n : Nat} {fd : FuncData} {bn : List Str} (h : ∀ vs : List Value, vs.length = n → bindArgs fd ⟨vs, []⟩ = pure (bn.zip vs)) (C : Ctx) (vs : List Value) : OkG erB C (bindArgs fd ⟨vs, []⟩) (fun Q => argsW n (vs.map er) fun vals => Q (bn.zip vals)) := by
  intro s H L Q _ r rr15
  obtain ⟨hl, e⟩ := rr15
  rw [h vs (by simpa using hl)]
  refine wpAny_pure (Post.here r ?_)
  have : erB (bn.zip vs) = bn.zip (vs.map er) := by
    unfold erB
    rw [List.zip_map_right]
    refine List.map_congr_left fun p _ => rfl
  rw [this]; exact e
theorem len1 {α : Type} {vs : List α} (h : vs.length = 1) : ∃ a, vs = [a] := by
  match vs, h with
  | [a], _ => exact ⟨a, rfl⟩
theorem len2 {α : Type} {vs : List α} (h : vs.length = 2) : ∃ a b, vs = [a, b] := by
  match vs, h with
  | [a, b], _ => exact ⟨a, b, rfl⟩
theorem len3 {α : Type} {vs : List α} (h : vs.length = 3) : ∃ a b c, vs = [a, b, c] := by
  match vs, h with
  | [a, b, c], _ => exact ⟨a, b, c, rfl⟩
theorem len4 {α : Type} {vs : List α} (h : vs.length = 4) : ∃ a b c d, vs = [a, b, c, d] := by
  match vs, h with
  | [a, b, c, d], _ => exact ⟨a, b, c, d, rfl⟩


/-! steps through a formula -/
section
variable {Q : Value → HA → Ls → Prop} {QB : Bool → HA → Ls → Prop} {QU : Unit → HA → Ls → Prop} {QF : Flow → HA → Ls → Prop} {H : HA} {L : Ls} {t u : Tok} {i j : Int} {x y : Str} {v : Value} {n : Nat} {b : Bool}
theorem s_start {p q : W Flow} {l l' : Ls} (e : l = l') (h : seqW p q QF H l') : seqW p q QF H l := e ▸ h
theorem s_for {tgt : Value → W Unit} {body orelse : W Flow} {k : SrcK} {xs : List Value} (I : Nat → HA → Ls → Prop) (h1 : SrcIs H v k xs) (h0 : I 0 H L) (h : ∀ i H L, I i H L → SrcIs H v k xs ∧ (xs[i]? = none → orelse QF H L) ∧ ∀ x, xs[i]? = some x → ∀ QN : Flow → HA → Ls → Prop, (∀ H L, I (i + 1) H L → QN .next H L) → (∀ H L, I (i + 1) H L → QN .cont H L) → tgt x (fun _ => body QN) H L) : forW tgt body orelse v QF H L := ⟨k, xs, h1, I, h0, fun i H L hi => ⟨(h i H L hi).1, by
  obtain ⟨_, a, b⟩ := h i H L hi
  cases e : xs[i]? with
  | none => exact a e
  | some x => exact b x e _ (fun _ _ q => q) fun _ _ q => q⟩⟩
theorem s_while {test : W Bool} {body orelse : W Flow} (I : Nat → HA → Ls → Prop) (h0 : ∃ n, I n H L) (h : ∀ n H L, I n H L → ∀ QN : Flow → HA → Ls → Prop, (∀ H L, (∃ m, m < n ∧ I m H L) → QN .next H L) → (∀ H L, (∃ m, m < n ∧ I m H L) → QN .cont H L) → (∀ H L, QF .next H L → QN .brk H L) → (∀ v H L, QF (.ret v) H L → QN (.ret v) H L) → test (fun b H L => if b = true then body QN H L else orelse QF H L) H L) : whileW test body orelse QF H L := ⟨I, h0, fun n H L hi => h n H L hi _ (fun _ _ q => q) (fun _ _ q => q) (fun _ _ q => q) fun _ _ _ q => q⟩
theorem s_unpack {a : Addr} {xs : List Value} {ys : List (Value → W Unit)} (e : H a = some (.tup xs)) (l : xs.length = ys.length) (h : inOrderW ys xs QU H L) : unpackW ys (.ref a) QU H L := ⟨a, xs, rfl, e, l, h⟩
theorem s_ioc {y : Value → W Unit} {ys : List (Value → W Unit)} {xs : List Value} (h : y v (fun _ => inOrderW ys xs QU) H L) : inOrderW (y :: ys) (v :: xs) QU H L := h
theorem s_ion (h : QU () H L) : inOrderW [] [] QU H L := h
theorem s_twb {I : HA → Ls → Prop} (h : QF .next H L) : turnW QF I .brk H L := h
theorem s_twr {I : HA → Ls → Prop} (h : QF (.ret v) H L) : turnW QF I (.ret v) H L := h
theorem s_neg (h : Q (.int (-i) 0) H L) : negW (.int i 0) Q H L := ⟨i, rfl, h⟩
theorem s_seq {p q : W Flow} (h : p (seqK q QF) H L) : seqW p q QF H L := h
theorem s_name (e : getL L n = some v) (h : Q v H L) : nameW (.slot n b) Q H L := ⟨v, e, h⟩
theorem s_globT {T : String} (h : Q (.type T) H L) : nameW (.glob (.type T)) Q H L := h
theorem s_globB {T : String} (h : Q (.builtin T) H L) : nameW (.glob (.builtin T)) Q H L := h
theorem s_globI (h : Q (.int i 0) H L) : nameW (.glob (.int i t)) Q H L := h
theorem s_isB (h : Q (.bool false) H L) : isBytesW [.str x t, .type "bytes"] Q H L := ⟨_, _, rfl, h⟩
theorem s_typ (h : Q (.type "str") H L) : typeW [.str x t] Q H L := h
theorem s_issub {a : Addr} (e : H a = some (.tup [.type "str", .type "bytes"])) (h : Q (.bool true) H L) : issubW [.type "str", .ref a] Q H L := ⟨_, rfl, e, h⟩
theorem s_starts (h : Q (.bool (Txt.startswith x y)) H L) : startsW [.str x t, .str y u] Q H L := h
theorem s_ends (h : Q (.bool (Txt.endswith x y)) H L) : endsW [.str x t, .str y u] Q H L := h
theorem s_rfind {k : Int} (e : Txt.rfind x y = k) (h : Q (.int k 0) H L) : rfindW [.str x t, .str y u] Q H L := by subst e; exact h
theorem s_ts {c : Bool} (e : x.length < 1048576) (g : (x.length != 0) = c) (h : QB c H L) : truthW (.str x t) QB H L := ⟨e, by rw [g]; exact h⟩
theorem s_tl {a : Addr} {xs : List Value} {c : Bool} (e : H a = some (.lst xs)) (f : xs.length < 1048576) (g : (!xs.isEmpty) = c) (h : QB c H L) : truthW (.ref a) QB H L := ⟨xs, e, f, by rw [g]; exact h⟩
theorem s_adds {z : Str} (f : x.length + y.length ≤ sizeLine) (e : x ++ y = z) (h : Q (.str z 0) H L) : binW .Add (.str x t) (.str y u) Q H L := ⟨f, by rw [e]; exact h⟩
theorem s_augs {z : Str} (f : x.length + y.length ≤ sizeLine) (e : x ++ y = z) (h : Q (.str z 0) H L) : augW .Add (.str x t) (.str y u) Q H L := ⟨f, by rw [e]; exact h⟩
theorem s_augi (h : Q (.int (i + j) 0) H L) : augW .Add (.int i t) (.int j u) Q H L := h
theorem s_muls {z : Str} (f : mulOk x i = true) (g : (mulS x i).length ≤ sizeLine) (e : mulS x i = z) (h : Q (.str z 0) H L) : binW .Mult (.str x t) (.int i u) Q H L := ⟨⟨f, g⟩, by rw [e]; exact h⟩
theorem s_mod (e : j ≠ 0) (h : Q (.int (i.fmod j) 0) H L) : binW .Mod (.int i t) (.int j u) Q H L := ⟨e, h⟩
theorem s_fdv (e : 0 < j ∧ j < 1000) (h : Q (.int (i.fdiv j) 0) H L) : binW .FloorDiv (.int i t) (.int j u) Q H L := ⟨e, h⟩
theorem s_rstrip {z : Str} (f : x.length ≤ 4096) (e : Txt.rstripChars x y = z) (h : Q (.str z 0) H L) : rstripW [.str x t, .str y u] Q H L := ⟨f, by rw [e]; exact h⟩
theorem s_strI (e : i.natAbs < 1000000) (h : Q (.str (toString i) 0) H L) : strW [.int i t] Q H L := ⟨e, h⟩
theorem s_append {a : Addr} {xs : List Value} (e : H a = some (.lst xs)) (f : xs.length ≤ 1048575) (h : Q .none (upd H a (.lst (xs ++ [v]))) L) : appendW [.ref a, v] Q H L := ⟨xs, e, f, h⟩
theorem s_pop {a : Addr} {xs : List Value} (e : H a = some (.lst (xs ++ [v]))) (f : xs.length ≤ 1048574) (h : Q v (upd H a (.lst xs)) L) : popW [.ref a] Q H L := ⟨xs, v, e, f, h⟩
theorem s_store (h : QU () H (setL L n (some v))) : storeW (.slot n b) v QU H L := h
theorem s_int (h : Q (.int i 0) H L) : constW (.int i) Q H L := h
theorem s_str (h : Q (.str x 0) H L) : constW (.str x) Q H L := h
theorem s_bool (h : Q (.bool b) H L) : constW (.bool b) Q H L := h
theorem s_none (h : Q .none H L) : constW .none Q H L := h
theorem s_tb (h : QB b H L) : truthW (.bool b) QB H L := h
theorem s_tn (h : QB false H L) : truthW .none QB H L := h
theorem s_ti (h : QB (i != 0) H L) : truthW (.int i t) QB H L := h
theorem s_all1 {y : Value → W Unit} (h : y v QU H L) : allW [y] v QU H L := h
theorem s_all2 {y z : Value → W Unit} (h : y v (fun _ => z v QU) H L) : allW [y, z] v QU H L := h
theorem s_next (h : QF .next H L) : nextW QF H L := h
theorem s_ret (h : QF (.ret v) H L) : retW v QF H L := h
theorem s_if_t {c : Bool} {A A' : Prop} (e : c = true) (h : A) : if c = true then A else A' := by rw [if_pos e]; exact h
theorem s_if_f {c : Bool} {A A' : Prop} (e : c = false) (h : A') : if c = true then A else A' := by rw [if_neg (by rw [e]; decide)]; exact h
theorem s_add (h : Q (.int (i + j) 0) H L) : binW .Add (.int i t) (.int j u) Q H L := h
theorem s_sub (h : Q (.int (i - j) 0) H L) : binW .Sub (.int i t) (.int j u) Q H L := h
theorem s_ceq (h : Q (.bool (i == j)) H L) : cmpW .Eq (.int i t) (.int j u) Q H L := h
theorem s_cne (h : Q (.bool (i != j)) H L) : cmpW .NotEq (.int i t) (.int j u) Q H L := h
theorem s_clt (h : Q (.bool (decide (i < j))) H L) : cmpW .Lt (.int i t) (.int j u) Q H L := h
theorem s_cle (h : Q (.bool (decide (i ≤ j))) H L) : cmpW .LtE (.int i t) (.int j u) Q H L := h
theorem s_cgt (h : Q (.bool (decide (j < i))) H L) : cmpW .Gt (.int i t) (.int j u) Q H L := h
theorem s_cge (h : Q (.bool (decide (j ≤ i))) H L) : cmpW .GtE (.int i t) (.int j u) Q H L := h
theorem s_seq_s (h : Q (.bool (x == y)) H L) : cmpW .Eq (.str x t) (.str y u) Q H L := h
theorem s_sne_s (h : Q (.bool (x != y)) H L) : cmpW .NotEq (.str x t) (.str y u) Q H L := h
theorem s_isn (h : Q (.bool (v == .none)) H L) : cmpW .Is v .none Q H L := by cases v <;> exact h
theorem s_isnn (h : Q (.bool (!(v == .none))) H L) : cmpW .IsNot v .none Q H L := by cases v <;> exact h
theorem s_list {a : Addr} {xs : List Value} (e : H a = some (.lst xs)) (f : fits i) (g : at? xs i = some v) (h : Q v H L) : itemW (.ref a) (.int i t) Q H L := ⟨f, xs, v, .inl e, g, h⟩
theorem s_tup {a : Addr} {xs : List Value} (e : H a = some (.tup xs)) (f : fits i) (g : at? xs i = some v) (h : Q v H L) : itemW (.ref a) (.int i t) Q H L := ⟨f, xs, v, .inr (.inl e), g, h⟩
theorem s_raw {a : Addr} {xs : List Value} {its : Array Value} {k : Nat} (e : H a = some (.raw (W.listOf its k))) (e' : its.toList.map er = xs) (f : fits i) (g : at? xs i = some v) (h : Q v H L) : itemW (.ref a) (.int i t) Q H L := ⟨f, xs, v, .inr (.inr ⟨its, k, e, e'⟩), g, h⟩
theorem s_dct {a : Addr} {es : List (Str × Value)} {ep : Nat} (e : H a = some (.dct es ep)) (g : es.lookup x = some v) (h : Q v H L) : itemW (.ref a) (.str x t) Q H L := ⟨es, ep, v, e, g, h⟩
theorem s_chr {c : Nat} (f : fits i) (g : atS? x i = some c) (h : Q (.str ⟨#[c]⟩ 0) H L) : itemW (.str x t) (.int i u) Q H L := ⟨f, c, g, h⟩
theorem s_slice {l r : Value} {lo hi : Option Int} (f : x.length ≤ 1048576) (e1 : partI l = some lo) (e2 : partI r = some hi) {z : Str} (e : sliceS x lo hi = z) (h : Q (.str z 0) H L) : sliceW (.str x t) l r Q H L := ⟨f, lo, hi, e1, e2, e ▸ h⟩
theorem s_meth_s {ws : W (List Value)} {cw : BW} (h : ws (fun as => cw (.str x t :: as) Q) H L) : methW "str" ws cw (.str x t) Q H L := ⟨.inl ⟨rfl, x, t, rfl⟩, h⟩
theorem s_meth_l {ws : W (List Value)} {cw : BW} {a : Addr} {xs : List Value} (e : H a = some (.lst xs)) (h : ws (fun as => cw (.ref a :: as) Q) H L) : methW "list" ws cw (.ref a) Q H L := ⟨.inr (.inl ⟨rfl, a, xs, rfl, e⟩), h⟩
theorem s_meth_d {ws : W (List Value)} {cw : BW} {a : Addr} {es : List (Str × Value)} {ep : Nat} (e : H a = some (.dct es ep)) (h : ws (fun as => cw (.ref a :: as) Q) H L) : methW "dict" ws cw (.ref a) Q H L := ⟨.inr (.inr (.inl ⟨rfl, a, es, ep, rfl, e⟩)), h⟩
theorem s_meth_t {a : Addr} {S : Str → Bool} {n : Nat} {ws : W (List Value)} {cw : BW} (e : H a = some (.st S n)) (h : ws (fun as => cw (.ref a :: as) Q) H L) : methW "set" ws cw (.ref a) Q H L := ⟨.inr (.inr (.inr ⟨rfl, a, S, n, rfl, e⟩)), h⟩
theorem s_find {k : Int} (e : Txt.find x y = k) (h : Q (.int k 0) H L) : findW [.str x t, .str y u] Q H L := .inl ⟨_, _, _, _, rfl, by subst e; exact h⟩
theorem s_find3 {k : Int} {t' : Tok} (e : Txt.find3 x y i = k) (h : Q (.int k 0) H L) : findW [.str x t, .str y u, .int i t'] Q H L := .inr ⟨_, _, _, _, _, _, rfl, by subst e; exact h⟩
theorem s_split {zs : List Str} (e : Txt.split x y = zs) (hy : y.length ≠ 0) (hx : x.length ≤ 4096) (hp : (PySem.Builtin.Str.partsBetween x (PySem.Builtin.Str.occurrences x y 0 x.length (x.length + 1)) y.length).length ≤ sizeLine)
    (h : ∀ a, H a = none → Q (.ref a) (upd H a (.lst (zs.map (Value.str · 0)))) L) : splitW [.str x t, .str y u] Q H L := by subst e; exact ⟨⟨hy, hx⟩, hp, h⟩
theorem s_len_s (e : x.length ≤ 1048576) (h : Q (.int x.length 0) H L) : lenW [.str x t] Q H L := .inl ⟨_, _, rfl, e, h⟩
theorem s_len_l {a : Addr} {xs : List Value} (e : H a = some (.lst xs)) (f : xs.length ≤ 1048576) (h : Q (.int xs.length 0) H L) : lenW [.ref a] Q H L := .inr ⟨_, xs, rfl, .inl e, f, h⟩
theorem s_len_t {a : Addr} {xs : List Value} (e : H a = some (.tup xs)) (f : xs.length ≤ 1048576) (h : Q (.int xs.length 0) H L) : lenW [.ref a] Q H L := .inr ⟨_, xs, rfl, .inr (.inl e), f, h⟩
theorem s_len_r {a : Addr} {xs : List Value} {its : Array Value} {k : Nat} (e : H a = some (.raw (W.listOf its k))) (e' : its.toList.map er = xs) (f : xs.length ≤ 1048576) (h : Q (.int xs.length 0) H L) : lenW [.ref a] Q H L := .inr ⟨_, xs, rfl, .inr (.inr ⟨its, k, e, e'⟩), f, h⟩
theorem s_intS {k : Int} (e : PySem.intText? x = some k) (f : x.length ≤ 640) (h : Q (.int k 0) H L) : intW [.str x t] Q H L := ⟨k, e, f, h⟩
end

set_option compiler.extract_closed false in
local macro_rules | `(tactic| walk_at "st") => `(tactic| repeat (first | ((with_reducible refine' s_name ?_ ?_); rotate_left; exact rfl) | with_reducible first | apply s_twb | apply s_twr | apply s_ioc | apply s_ion | apply s_neg | apply s_globT | apply s_globB | apply s_globI | apply s_isB | apply s_typ | apply s_starts | apply s_ends | apply s_augi | apply s_seq | apply s_int | apply s_str | apply s_none | apply s_bool | apply s_store | apply s_all1 | apply s_all2 | apply s_next | apply s_ret | apply s_tb | apply s_tn | apply s_ti | apply s_add | apply s_sub | apply s_ceq | apply s_cne | apply s_clt | apply s_cle | apply s_cgt | apply s_cge | apply s_seq_s | apply s_sne_s | apply s_isn | apply s_isnn | apply s_meth_s))
noncomputable def T5 : List (Str × NK) := [(Str.ofString "resp", NK.slot 0 false), (Str.ofString "peer", NK.slot 1 false), (Str.ofString "left", NK.slot 2 false), (Str.ofString "right", NK.slot 3 false), (Str.ofString "parts", NK.slot 4 false), (Str.ofString "host", NK.slot 5 false), (Str.ofString "port", NK.slot 6 false),(Str.ofString "len", .glob (.builtin "len")), (Str.ofString "int", .glob (.type "int"))]
noncomputable def G5 : List (Str × Value) := [(Str.ofString "len", .builtin "len"), (Str.ofString "int", .type "int")]
theorem tab5 : fnT (FS 5) G5 = T5 := by kernel_rfl
theorem chk5 : scOk (FS 5) [Str.ofString "resp", Str.ofString "peer"] = true := by decide +kernel
theorem bind5 {fd : FuncData} (hp : fd.params = FP 5) (hd : fd.defaults = .none) (hk : fd.kwdefaults = .none) (vs : List Value) (hl : vs.length = 2) : bindArgs fd ⟨vs, []⟩ = pure ([Str.ofString "resp", Str.ofString "peer"].zip vs) := by
  refine by_ng fun ng => ?_
  obtain ⟨a, b, rfl⟩ := len2 hl
  obtain ⟨n, q, p, bd, sc, g, cl, df, kd, doc, pm, an, cd, ct, bu⟩ := fd
  refine ng ?_
  clear ng
  subst hp; subst hd; subst hk
  kernel_rfl
theorem ini5 (a b : Value) : iniOf (FS 5) ([Str.ofString "resp", Str.ofString "peer"].zip [a, b]) = [some a, some b, none, none, none, none, none] := by kernel_rfl
theorem tab_eq {C : Ctx} {T T' : List (Str × NK)} {env : Env} (h : T = T') (V : EnvOk C T env) : EnvOk C T' env := h ▸ V
structure Own (x : Str) (o : Int) (c : Nat) (r : Int) (w : Str) : Prop where
  len : x.length ≤ 1048576
  f1 : sliceS x none (some 3) = Str.ofString "229"
  f2 : Txt.find x (Str.ofString "(") = 13
  f3 : Txt.find3 x (Str.ofString ")") 14 = r
  f4 : decide (r < 0) = false
  f5 : atS? x 14 = some c
  f6 : atS? x (r - 1) = some c
  f7 : Txt.split (sliceS x (some 14) (some r)) ⟨#[c]⟩ = [Str.empty, Str.empty, Str.empty, w, Str.empty]
  f8 : (sliceS x (some 14) (some r)).length ≤ 4096
  f9 : (PySem.Builtin.Str.partsBetween (sliceS x (some 14) (some r)) (PySem.Builtin.Str.occurrences (sliceS x (some 14) (some r)) ⟨#[c]⟩ 0 (sliceS x (some 14) (some r)).length ((sliceS x (some 14) (some r)).length + 1)) (⟨#[c]⟩ : Str).length).length ≤ sizeLine
  f10 : PySem.intText? w = some o
  f11 : w.length ≤ 640
  f12 : fits (r - 1)
noncomputable def parse229B (x : Str) (p : Addr) (Q : Value → HA → Ls → Prop) (H : HA) (L : Ls) : Prop :=
  ∃ o c r w path, Own x o c r w ∧ H p = some (.lst [path, .int 21 0]) ∧ newW (.tup [path, .int o 0]) Q H L
noncomputable def parse229W : BW := fun vs Q H L => mS (fun x => mR (fun p => mN (parse229B x p Q H L))) vs
theorem parse229_walk {B : Heap} (hB : Bas B) {n : Nat} {f : Addr} {fd : FuncData} (Fi : FnIn B f fd (FB 5)) (hsc : fd.scope = FS 5) (hp : fd.params = FP 5) (hg : ∀ g ∈ G5, GlobOk B fd.globals fd.builtins g.1 g.2) : FnA B (n + 1) f parse229W := by
  have main := fn_ok (n := n) hB Fi (by rw [hsc]; exact chk5) hg (fun C _ vs => bind_args (bind5 hp Fi.dfl Fi.kwd) C vs) (fun C env le room V _ =>
    have V : EnvOk C T5 env := tab_eq (hsc ▸ tab5) V
    have S := hB.stat le room
    have hh := room.handled
    (S_cons (S_if (T_cmp S (E_slice (E_name V (.head _)) P_none (P_some (E_const _ _ _))) (E_const _ _ _)) S_wall S_nil) (S_cons (S_assign (E_meth (E_name V (.head _)) F.plainAttrs_str F.slot_str_find F.type_str_find (E_cons (E_const _ _ _) E_nil) b_find) (A_cons (A_name V (.tail _ (.tail _ (.head _)))) A_nil)) (S_cons (S_if (T_cmp S (E_name V (.tail _ (.tail _ (.head _)))) (E_const _ _ _)) S_wall S_nil) (S_cons (S_assign (E_meth (E_name V (.head _)) F.plainAttrs_str F.slot_str_find F.type_str_find (E_cons (E_const _ _ _) (E_cons (E_bin (E_name V (.tail _ (.tail _ (.head _)))) (E_const _ _ _)) E_nil)) b_find) (A_cons (A_name V (.tail _ (.tail _ (.tail _ (.head _))))) A_nil)) (S_cons (S_if (T_cmp S (E_name V (.tail _ (.tail _ (.tail _ (.head _))))) (E_const _ _ _)) S_wall S_nil) (S_cons (S_if (T_cmp S (E_sub (E_name V (.head _)) (E_bin (E_name V (.tail _ (.tail _ (.head _)))) (E_const _ _ _))) (E_sub (E_name V (.head _)) (E_bin (E_name V (.tail _ (.tail _ (.tail _ (.head _))))) (E_const _ _ _)))) S_wall S_nil) (S_cons (S_assign (E_meth (E_slice (E_name V (.head _)) (P_some (E_bin (E_name V (.tail _ (.tail _ (.head _)))) (E_const _ _ _))) (P_some (E_name V (.tail _ (.tail _ (.tail _ (.head _))))))) F.plainAttrs_str F.slot_str_split F.type_str_split (E_cons (E_sub (E_name V (.head _)) (E_bin (E_name V (.tail _ (.tail _ (.head _)))) (E_const _ _ _))) E_nil) b_split) (A_cons (A_name V (.tail _ (.tail _ (.tail _ (.tail _ (.head _)))))) A_nil)) (S_cons (S_if (T_cmp S (E_call V (.tail _ (.tail _ (.tail _ (.tail _ (.tail _ (.tail _ (.tail _ (.head _)))))))) (.inl ⟨_, rfl⟩) (E_cons (E_name V (.tail _ (.tail _ (.tail _ (.tail _ (.head _)))))) E_nil) b_len) (E_const _ _ _)) S_wall S_nil) (S_cons (S_assign (E_sub (E_name V (.tail _ (.head _))) (E_const _ _ _)) (A_cons (A_name V (.tail _ (.tail _ (.tail _ (.tail _ (.tail _ (.head _))))))) A_nil)) (S_cons (S_assign (E_call V (.tail _ (.tail _ (.tail _ (.tail _ (.tail _ (.tail _ (.tail _ (.tail _ (.head _))))))))) (.inr (.inl ⟨_, rfl⟩)) (E_cons (E_sub (E_name V (.tail _ (.tail _ (.tail _ (.tail _ (.head _)))))) (E_const _ _ _)) E_nil) b_int) (A_cons (A_name V (.tail _ (.tail _ (.tail _ (.tail _ (.tail _ (.tail _ (.head _)))))))) A_nil)) (S_cons (S_ret (E_tuple (E_cons (E_name V (.tail _ (.tail _ (.tail _ (.tail _ (.tail _ (.head _))))))) (E_cons (E_name V (.tail _ (.tail _ (.tail _ (.tail _ (.tail _ (.tail _ (.head _)))))))) E_nil)))) S_nil))))))))))))
  refine main.spec ?_
  clear main
  rw [hsc]
  intro vs Q H L h
  refine by_ng fun ng => ?_
  obtain ⟨x, t, r0, rfl, hq0⟩ := mS_inv h
  obtain ⟨p, r1, rfl, hq1⟩ := mR_inv hq0
  obtain ⟨rfl, hq2⟩ := mN_inv hq1
  refine ng ?_
  clear ng
  replace h := hq2
  · skip
    refine by_ng fun ng => ?_
    obtain ⟨o, c, r, w, path, K, hp, hq⟩ := h
    refine ng ?_
    clear ng
    refine ⟨rfl, ?_⟩
    simp only [ini5]
    walk_at "st"
    refine' s_slice K.len (by rfl) (by rfl) K.f1 ?_
    walk_at "st"
    refine' s_if_f (by decide) ?_
    walk_at "st"
    refine' s_find K.f2 ?_
    walk_at "st"
    refine' s_if_f (by decide) ?_
    walk_at "st"
    refine' s_find3 K.f3 ?_
    walk_at "st"
    refine' s_if_f K.f4 ?_
    walk_at "st"
    refine' s_chr (by unfold fits; decide) K.f5 ?_
    walk_at "st"
    refine' s_chr K.f12 K.f6 ?_
    walk_at "st"
    refine' s_if_f (by simp) ?_
    walk_at "st"
    refine' s_slice K.len (by rfl) (by rfl) rfl ?_
    walk_at "st"
    refine' s_chr (by unfold fits; decide) K.f5 ?_
    walk_at "st"
    refine' s_split K.f7 (by show 1 ≠ 0; decide) K.f8 K.f9 fun a ha => ?_
    have hpa : p ≠ a := fun z => by rw [z, ha] at hp; cases hp
    walk_at "st"
    refine' s_len_l (upd_same _ _ _) (by show 5 ≤ 1048576; decide) ?_
    walk_at "st"
    refine' s_if_f (by rfl) ?_
    walk_at "st"
    refine' s_list ((upd_ne _ _ hpa).trans hp) (by unfold fits; decide) (by rfl) ?_
    walk_at "st"
    refine' s_list (upd_same _ _ _) (by unfold fits; decide) (by rfl) ?_
    walk_at "st"
    refine' s_intS K.f10 K.f11 ?_
    walk_at "st"
    refine' ⟨by show 2 ≤ sizeLine; decide, fun c hc => ?_⟩
    walk_at "st"
    have hc' : H c = none := by
      by_cases z : c = a
      · subst z; exact ha
      · rw [upd_ne _ _ z] at hc; exact hc
    exact ⟨_, ((HSub.refl H).upd ha).both c _, hq c hc'⟩


section
variable {C : Ctx} {env : Env}
theorem S_try {body orelse : List Stmt} {h₀ : ExceptHandler} {hs : List ExceptHandler} {p : Pos} {x y : W Flow} (hb : OkAF C (execs body env) x) (ho : OkAF C (execs orelse env) y) : OkAF C (exec (.Try body (h₀ :: hs) orelse [] p) env) (seqW x y) := OkA.mk fun P hP s H L Q tk r e => by
  refine wpAny_Try_except (wpAny_post (hb.ok P hP s H L _ tk r e) (fun f s₁ H₁ L₁ o₁ r₁ e₁ => ?_))
  have t₁ := Nat.zero_le s₁.toks
  cases f with
  | next => exact wpAny_mono (ho.ok P hP s₁ H₁ L₁ Q t₁ r₁ e₁) (fun f s₂ p => p.from o₁) fun _ _ q => q
  | ret v => exact ⟨o₁, H₁, L₁, r₁, e₁⟩
  | brk => exact ⟨o₁, H₁, L₁, r₁, e₁⟩
  | cont => exact ⟨o₁, H₁, L₁, r₁, e₁⟩
theorem E_dict0 {p : Pos} : OkAV C (eval (.Dict [] [] p) env) (fun Q => newW (.dct [] 0) Q) := OkA.mk fun P hP s H L Q tk r e => by
  refine wpAny_Dict_empty (Post.hp0 (r.alloc (ho := .dct [] 0) _ ?_) (e _ r.fresh))
  exact ⟨[], ⟨_, #[], Heap.get?_push_size _ rfl, ⟨rfl, rfl, rfl⟩, rfl, (Heap.DictOf.new (knd := PySem.strKind C.prog C.w) s.heap) |> fun ⟨o, es, ep, h1, h2, h3, h4, h5, h6⟩ => by
    rw [Heap.get?_push_size _ rfl] at h1; cases h1; cases h3; exact ⟨h4, h5, h6⟩⟩, rfl⟩
end

/-- a function of the program at an address, with its word -/
structure Fn (B : Heap) (n : Nat) (f : Addr) (cw : BW) : Prop where
  at_ : ∃ o fd, B.get? f = some o ∧ o.data = .func fd
  ok : FnA B n f cw
theorem Fn.callee {B : Heap} {n : Nat} {f : Addr} {cw : BW} (h : Fn B n f cw) {P : Heap} (le : HLe B P) : CalleeOk P (.ref f) := let ⟨o, fd, a, b⟩ := h.at_; .inr (.inr ⟨f, o, fd, rfl, le _ _ a, b⟩)
theorem FnIn.fn {B : Heap} {n : Nat} {f : Addr} {cw : BW} {fd : FuncData} {body : List Stmt} (F : FnIn B f fd body) (h : FnA B n f cw) : Fn B n f cw := ⟨let ⟨o, a, b⟩ := F.get; ⟨o, fd, a, b⟩, h⟩
theorem Room.less {A : Around} {n m : Nat} (h : Room A n) (k : m ≤ n) : Room A m := ⟨h.handled, by have := h.depth; (first | lia | omega), by have := h.units; (first | lia | omega)⟩
theorem FnA.more {B : Heap} {n m : Nat} {f : Addr} {cw : BW} (h : FnA B n f cw) (k : n ≤ m) : FnA B m f cw := fun C hC hR => h C hC (hR.less k)
theorem Fn.more {B : Heap} {n m : Nat} {f : Addr} {cw : BW} (h : Fn B n f cw) (k : n ≤ m) : Fn B m f cw := ⟨h.at_, h.ok.more k⟩

/-- rest arguments -/
noncomputable def varW (ok : Nat → Prop) (n : Nat) : List Value → W (List Value) := fun vs Q H L => ok vs.length ∧ (vs.drop n).length ≤ sizeLine ∧ newW (.tup (vs.drop n)) (fun t => Q (vs.take n ++ [t])) H L
theorem bind_var {ok : Nat → Prop} {n : Nat} {fd : FuncData} {bn : List Str} (h : ∀ vs : List Value, ok vs.length → bindArgs fd ⟨vs, []⟩ = (do let t ← newTuple (vs.drop n); pure (bn.zip (vs.take n ++ [t])))) (C : Ctx) (vs : List Value) : OkG erB C (bindArgs fd ⟨vs, []⟩) (fun Q => varW ok n (vs.map er) fun vals => Q (bn.zip vals)) := by
  intro s H L Q tk r rr16
  obtain ⟨hl, hz, e⟩ := rr16
  rw [h vs (by simpa using hl)]
  have key : ∀ t : Value, erB (bn.zip (vs.take n ++ [t])) = bn.zip ((vs.map er).take n ++ [er t]) := fun t => by
    unfold erB
    have : (vs.map er).take n ++ [er t] = (vs.take n ++ [t]).map er := by simp [List.map_take]
    rw [this, List.zip_map_right]
    refine List.map_congr_left fun p _ => rfl
  refine wpAny_bind (wpAny_mono (newTuple_ok (vs.drop n) s H L (fun t => Q (bn.zip ((vs.map er).take n ++ [t]))) tk r ⟨by simpa using hz, by
    rw [List.map_drop]; exact e⟩) (fun t s' p => wpAny_pure ?_) fun _ _ q => q)
  rw [key]; exact p

/-- a display of constants -/
noncomputable def constOf? : (e : Expr) → Option { x : Const × Nat × Pos // e = .Constant x.1 x.2.1 x.2.2 }
  | .Constant c k p => some ⟨(c, k, p), rfl⟩
  | _ => none
noncomputable def valOf? : Const → Option Value
  | .int i => some (.int i 0)
  | .str s => some (.str s 0)
  | _ => none
noncomputable def conVals : List Expr → Option (List Value)
  | [] => some []
  | e :: r => (constOf? e).bind fun x => (valOf? x.1.1).bind fun v => (conVals r).map (v :: ·)
theorem valOf?_some {c : Const} {v : Value} (h : valOf? c = some v) : constW c = fun Q => Q v := by
  cases c <;> first | (cases h; rfl) | cases h
theorem E_consts {C : Ctx} {env : Env} {p : Pos} : ∀ {es : List Expr} {vs : List Value}, conVals es = some vs → OkAL C (spliced (backTo p (starEach es env))) (fun Q => Q vs)
  | [], vs, h => by cases h; exact E_nil
  | e :: r, vs, h => by
    refine by_ng fun ng => ?_
    obtain ⟨⟨x, he⟩, h1, h2⟩ := Option.bind_eq_some_iff.mp h
    obtain ⟨v, h3, h4⟩ := Option.bind_eq_some_iff.mp h2
    obtain ⟨us, hu, h5⟩ := Option.map_eq_some_iff.mp h4
    refine ng ?_
    clear ng
    subst he
    subst h5
    have hc := E_const (C := C) (env := env) x.1 x.2.1 x.2.2
    rw [valOf?_some h3] at hc
    exact E_cons hc (E_consts hu)

noncomputable def T25  : List (Str × NK) := [(Str.ofString "path", NK.slot 0 false), (Str.ofString "isinstance", .glob (.builtin "isinstance")), (Str.ofString "bytes", .glob (.type "bytes"))]
noncomputable def G25  : List (Str × Value) := [(Str.ofString "isinstance", .builtin "isinstance"), (Str.ofString "bytes", .type "bytes")]
theorem tab25  : fnT (FS 25) (G25 ) = T25  := by kernel_rfl
theorem chk25 : scOk (FS 25) [Str.ofString "path"] = true := by decide +kernel
theorem bind25 {fd : FuncData} (hp : fd.params = FP 25) (hd : fd.defaults = .none) (hk : fd.kwdefaults = .none) (vs : List Value) (hl : vs.length = 1) : bindArgs fd ⟨vs, []⟩ = pure ([Str.ofString "path"].zip vs) := by
  refine by_ng fun ng => ?_
  obtain ⟨a0, rfl⟩ := len1 hl
  obtain ⟨n, q, p, bd, sc, g, cl, df, kd, doc, pm, an, cd, ct, bu⟩ := fd
  refine ng ?_
  clear ng
  subst hp; subst hd; subst hk
  kernel_rfl
theorem ini25 (a0 : Value) : iniOf (FS 25) ([Str.ofString "path"].zip [a0]) = [some a0] := by kernel_rfl

noncomputable def sepB (w0 : Str) (Q : Value → HA → Ls → Prop) (H : HA) (L : Ls) : Prop :=
  Q (.str (Str.ofString "/") 0) H L
noncomputable def sepW : BW := fun vs Q H L => mS (fun w0 => mN (sepB w0 Q H L)) vs
theorem sep_walk {B : Heap} (hB : Bas B) {n : Nat}   {f : Addr} {fd : FuncData} (Fi : FnIn B f fd (FB 25)) (hsc : fd.scope = FS 25) (hp : fd.params = FP 25) (hg : ∀ g ∈ G25 , GlobOk B fd.globals fd.builtins g.1 g.2) : FnA B (n + 1) f sepW := by
  have main := fn_ok (n := n) hB Fi (by rw [hsc]; exact chk25) hg (fun C _ vs => bind_args (bind25 hp Fi.dfl Fi.kwd) C vs) (fun C env le room V len0 =>
    have lenC : C.locs.length = 1 := len0.trans (by rw [hsc]; kernel_rfl)
    have V : EnvOk C (T25 ) env := tab_eq (hsc ▸ tab25 ) V
    have S := hB.stat le room
    have hh := room.handled
    (S_cons (S_if (T_val (E_call V (.tail _ (.head _)) (.inl ⟨_, rfl⟩) (E_cons (E_name V (.head _)) (E_cons (E_name V (.tail _ (.tail _ (.head _)))) E_nil)) b_isBytes)) (S_cons (S_ret (E_const _ _ _)) S_nil) (S_cons (S_ret (E_const _ _ _)) S_nil)) S_nil))
  refine main.spec ?_
  clear main
  rw [hsc]
  intro vs Q H L h
  refine by_ng fun ng => ?_
  obtain ⟨x, t, r0, rfl, hq0⟩ := mS_inv h
  obtain ⟨rfl, hq1⟩ := mN_inv hq0
  refine ng ?_
  clear ng
  replace h := hq1
  · skip
    refine ⟨rfl, ?_⟩
    refine' s_start (ini25 _) ?_
    walk_at "st"
    refine' s_if_f (by rfl) ?_
    walk_at "st"
    exact ⟨H, HSub.refl H, h⟩
noncomputable def T21  : List (Str × NK) := [(Str.ofString "path", NK.slot 0 false), (Str.ofString "kind", NK.slot 1 false), (Str.ofString "hook", NK.slot 2 false), (Str.ofString "given", NK.slot 3 false), (Str.ofString "type", .glob (.type "type")), (Str.ofString "issubclass", .glob (.builtin "issubclass")), (Str.ofString "str", .glob (.type "str")), (Str.ofString "bytes", .glob (.type "bytes"))]
noncomputable def G21  : List (Str × Value) := [(Str.ofString "type", .type "type"), (Str.ofString "issubclass", .builtin "issubclass"), (Str.ofString "str", .type "str"), (Str.ofString "bytes", .type "bytes")]
theorem tab21  : fnT (FS 21) (G21 ) = T21  := by kernel_rfl
theorem chk21 : scOk (FS 21) [Str.ofString "path"] = true := by decide +kernel
theorem bind21 {fd : FuncData} (hp : fd.params = FP 21) (hd : fd.defaults = .none) (hk : fd.kwdefaults = .none) (vs : List Value) (hl : vs.length = 1) : bindArgs fd ⟨vs, []⟩ = pure ([Str.ofString "path"].zip vs) := by
  refine by_ng fun ng => ?_
  obtain ⟨a0, rfl⟩ := len1 hl
  obtain ⟨n, q, p, bd, sc, g, cl, df, kd, doc, pm, an, cd, ct, bu⟩ := fd
  refine ng ?_
  clear ng
  subst hp; subst hd; subst hk
  kernel_rfl
theorem ini21 (a0 : Value) : iniOf (FS 21) ([Str.ofString "path"].zip [a0]) = [some a0, none, none, none] := by kernel_rfl

noncomputable def fspathB (x : Str) (t : Tok) (Q : Value → HA → Ls → Prop) (H : HA) (L : Ls) : Prop :=
  Q (.str x t) H L
noncomputable def fspathW : BW := fun vs Q H L => mST (fun x t => mN (fspathB x t Q H L)) vs
theorem fspath_walk {B : Heap} (hB : Bas B) {n : Nat}   {f : Addr} {fd : FuncData} (Fi : FnIn B f fd (FB 21)) (hsc : fd.scope = FS 21) (hp : fd.params = FP 21) (hg : ∀ g ∈ G21 , GlobOk B fd.globals fd.builtins g.1 g.2) : FnA B (n + 1) f fspathW := by
  have main := fn_ok (n := n) hB Fi (by rw [hsc]; exact chk21) hg (fun C _ vs => bind_args (bind21 hp Fi.dfl Fi.kwd) C vs) (fun C env le room V len0 =>
    have lenC : C.locs.length = 4 := len0.trans (by rw [hsc]; kernel_rfl)
    have V : EnvOk C (T21 ) env := tab_eq (hsc ▸ tab21 ) V
    have S := hB.stat le room
    have hh := room.handled
    (S_cons (S_assign (E_call V (.tail _ (.tail _ (.tail _ (.tail _ (.head _))))) (.inr (.inl ⟨_, rfl⟩)) (E_cons (E_name V (.head _)) E_nil) b_type) (A_cons (A_name V (.tail _ (.head _))) A_nil)) (S_cons (S_if (T_val (E_call V (.tail _ (.tail _ (.tail _ (.tail _ (.tail _ (.head _)))))) (.inl ⟨_, rfl⟩) (E_cons (E_name V (.tail _ (.head _))) (E_cons (E_tuple (E_cons (E_name V (.tail _ (.tail _ (.tail _ (.tail _ (.tail _ (.tail _ (.head _)))))))) (E_cons (E_name V (.tail _ (.tail _ (.tail _ (.tail _ (.tail _ (.tail _ (.tail _ (.head _))))))))) E_nil))) E_nil)) b_issub)) (S_cons (S_ret (E_name V (.head _))) S_nil) S_nil) S_wall)))
  refine main.spec ?_
  clear main
  rw [hsc]
  intro vs Q H L h
  refine by_ng fun ng => ?_
  obtain ⟨x, t, r0, rfl, hq0⟩ := mST_inv h
  obtain ⟨rfl, hq1⟩ := mN_inv hq0
  refine ng ?_
  clear ng
  replace h := hq1
  · skip
    refine ⟨rfl, ?_⟩
    refine' s_start (ini21 _) ?_
    walk_at "st"
    refine' ⟨by show 2 ≤ sizeLine; decide, fun a ha => ?_⟩
    walk_at "st"
    refine' s_issub (upd_same _ _ _) ?_
    walk_at "st"
    refine' s_if_t rfl ?_
    walk_at "st"
    exact ⟨H, (HSub.refl H).upd ha, h⟩

noncomputable def T26 (fs gs : Addr) : List (Str × NK) := [(Str.ofString "a", NK.slot 0 false), (Str.ofString "p", NK.slot 1 false), (Str.ofString "sep", NK.slot 2 false), (Str.ofString "path", NK.slot 3 false), (Str.ofString "b", NK.slot 4 false), (Str.ofString "fspath", .glob (.ref fs)), (Str.ofString "_get_sep", .glob (.ref gs))]
noncomputable def G26 (fs gs : Addr) : List (Str × Value) := [(Str.ofString "fspath", .ref fs), (Str.ofString "_get_sep", .ref gs)]
theorem tab26 (fs gs : Addr) : fnT (FS 26) (G26 fs gs) = T26 fs gs := by kernel_rfl
theorem chk26 : scOk (FS 26) [Str.ofString "a", Str.ofString "p"] = true := by decide +kernel
theorem bind26 {fd : FuncData} (hp : fd.params = FP 26) (hd : fd.defaults = .none) (hk : fd.kwdefaults = .none) (vs : List Value) (hl : vs.length = 2) : bindArgs fd ⟨vs, []⟩ = (do let t ← newTuple (vs.drop 1); pure ([Str.ofString "a", Str.ofString "p"].zip (vs.take 1 ++ [t]))) := by
  refine by_ng fun ng => ?_
  obtain ⟨n, q, p, bd, sc, g, cl, df, kd, doc, pm, an, cd, ct, bu⟩ := fd
  refine ng ?_
  clear ng
  subst hp; subst hd; subst hk
  obtain ⟨a0, a1, rfl⟩ := len2 hl
  kernel_rfl
theorem ini26 (a0  a1 : Value) : iniOf (FS 26) ([Str.ofString "a", Str.ofString "p"].zip [a0, a1]) = [some a0, some a1, none, none, none] := by kernel_rfl
theorem s_fs {Q : Value → HA → Ls → Prop} {H : HA} {L : Ls} {x : Str} {t : Tok} (h : Q (.str x t) H L) : fspathW [.str x t] Q H L := h
theorem s_sep {Q : Value → HA → Ls → Prop} {H : HA} {L : Ls} {x : Str} {t : Tok} (h : Q (.str (Str.ofString "/") 0) H L) : sepW [.str x t] Q H L := h
noncomputable def pjoinB (x : Str) (y : Str) (Q : Value → HA → Ls → Prop) (H : HA) (L : Ls) : Prop :=
  Txt.startswith y (Str.ofString "/") = false ∧ (x.length != 0) = true ∧ x.length < 1048576 ∧ Txt.endswith x (Str.ofString "/") = true ∧ x.length + y.length ≤ sizeLine ∧ Q (.str (x ++ y) 0) H L
noncomputable def pjoinW : BW := fun vs Q H L => mS (fun x => mS (fun y => mN (pjoinB x y Q H L))) vs
theorem join_walk {B : Heap} (hB : Bas B) {n : Nat} (fs gs : Addr) (hfs : Fn B n fs fspathW) (hgs : Fn B n gs sepW) {f : Addr} {fd : FuncData} (Fi : FnIn B f fd (FB 26)) (hsc : fd.scope = FS 26) (hp : fd.params = FP 26) (hg : ∀ g ∈ G26 fs gs, GlobOk B fd.globals fd.builtins g.1 g.2) : FnA B (n + 1) f pjoinW := by
  have main := fn_ok (n := n) hB Fi (by rw [hsc]; exact chk26) hg (fun C _ vs => bind_var (ok := fun k => k = 2) (bind26 hp Fi.dfl Fi.kwd) C vs) (fun C env le room V len0 =>
    have lenC : C.locs.length = 5 := len0.trans (by rw [hsc]; kernel_rfl)
    have V : EnvOk C (T26 fs gs) env := tab_eq (hsc ▸ tab26 fs gs) V
    have S := hB.stat le room
    have hh := room.handled
    (S_cons (S_assign (E_call V (.tail _ (.tail _ (.tail _ (.tail _ (.tail _ (.head _)))))) (hfs.callee le) (E_cons (E_name V (.head _)) E_nil) (hfs.ok _ le room)) (A_cons (A_name V (.head _)) A_nil)) (S_cons (S_assign (E_call V (.tail _ (.tail _ (.tail _ (.tail _ (.tail _ (.tail _ (.head _))))))) (hgs.callee le) (E_cons (E_name V (.head _)) E_nil) (hgs.ok _ le room)) (A_cons (A_name V (.tail _ (.tail _ (.head _)))) A_nil)) (S_cons (S_assign (E_name V (.head _)) (A_cons (A_name V (.tail _ (.tail _ (.tail _ (.head _))))) A_nil)) (S_cons (S_try (S_cons (S_for hh S (E_name V (.tail _ (.head _))) (A_name V (.tail _ (.tail _ (.tail _ (.tail _ (.head _)))))) (S_cons (S_assign (E_call V (.tail _ (.tail _ (.tail _ (.tail _ (.tail _ (.head _)))))) (hfs.callee le) (E_cons (E_name V (.tail _ (.tail _ (.tail _ (.tail _ (.head _)))))) E_nil) (hfs.ok _ le room)) (A_cons (A_name V (.tail _ (.tail _ (.tail _ (.tail _ (.head _)))))) A_nil)) (S_cons (S_if (T_or (T_val (E_meth (E_name V (.tail _ (.tail _ (.tail _ (.tail _ (.head _)))))) F.plainAttrs_str F.slot_str_startswith F.type_str_startswith (E_cons (E_name V (.tail _ (.tail _ (.head _)))) E_nil) b_starts)) (T_not (T_val (E_name V (.tail _ (.tail _ (.tail _ (.head _)))))))) (S_cons (S_assign (E_name V (.tail _ (.tail _ (.tail _ (.tail _ (.head _)))))) (A_cons (A_name V (.tail _ (.tail _ (.tail _ (.head _))))) A_nil)) S_nil) (S_cons (S_if (T_val (E_meth (E_name V (.tail _ (.tail _ (.tail _ (.head _))))) F.plainAttrs_str F.slot_str_endswith F.type_str_endswith (E_cons (E_name V (.tail _ (.tail _ (.head _)))) E_nil) b_ends)) (S_cons (S_aug_name V (.tail _ (.tail _ (.tail _ (.head _)))) (E_name V (.tail _ (.tail _ (.tail _ (.tail _ (.head _))))))) S_nil) (S_cons (S_aug_name V (.tail _ (.tail _ (.tail _ (.head _)))) (E_bin (E_name V (.tail _ (.tail _ (.head _)))) (E_name V (.tail _ (.tail _ (.tail _ (.tail _ (.head _)))))))) S_nil)) S_nil)) S_nil)) S_nil) S_nil) S_nil) (S_cons (S_ret (E_name V (.tail _ (.tail _ (.tail _ (.head _)))))) S_nil))))))
  refine main.spec ?_
  clear main
  rw [hsc]
  intro vs Q H L h
  refine by_ng fun ng => ?_
  obtain ⟨x, t, r0, rfl, hq0⟩ := mS_inv h
  obtain ⟨y, u, r1, rfl, hq1⟩ := mS_inv hq0
  obtain ⟨rfl, hq2⟩ := mN_inv hq1
  refine ng ?_
  clear ng
  replace h := hq2
  · skip
    refine by_ng fun ng => ?_
    obtain ⟨h1, h2, h3, h4, h5, h6⟩ := h
    refine ng ?_
    clear ng
    refine ⟨rfl, by show 1 ≤ sizeLine; decide, fun a ha => ?_⟩
    refine' s_start (ini26 _ _) ?_
    walk_at "st"
    refine' s_fs ?_
    walk_at "st"
    refine' s_sep ?_
    walk_at "st"
    refine' s_for (k := .tup a) (xs := [.str y u]) (fun i H' L' => H' = upd H a (.tup [.str y u]) ∧ ((i = 0 ∧ L' = [some (.str x t), some (.ref a), some (.str (Str.ofString "/") 0), some (.str x t), none]) ∨ (i = 1 ∧ L' = [some (.str x t), some (.ref a), some (.str (Str.ofString "/") 0), some (.str (x ++ y) 0), some (.str y u)]))) (.tup (upd_same _ _ _)) ⟨rfl, .inl ⟨rfl, rfl⟩⟩ ?_
    rintro i H' L' ⟨rfl, ⟨rfl, rfl⟩ | ⟨rfl, rfl⟩⟩
    · refine ⟨.tup (upd_same _ _ _), (fun e => nomatch e), fun z e QN hN hC => ?_⟩
      cases e
      walk_at "st"
      refine' s_fs ?_
      walk_at "st"
      refine' s_if_f h1 ?_
      walk_at "st"
      refine' s_ts h3 h2 ?_
      walk_at "st"
      refine' s_if_f rfl ?_
      walk_at "st"
      refine' s_if_t h4 ?_
      walk_at "st"
      refine' s_augs h5 rfl ?_
      walk_at "st"
      exact hN _ _ ⟨rfl, .inr ⟨rfl, rfl⟩⟩
    · refine ⟨.tup (upd_same _ _ _), fun _ => ?_, fun z e => nomatch e⟩
      walk_at "st"
      exact ⟨H, (HSub.refl H).upd ha, h6⟩

noncomputable def T27 (fs : Addr) : List (Str × NK) := [(Str.ofString "p", NK.slot 0 false), (Str.ofString "sep", NK.slot 1 false), (Str.ofString "empty", NK.slot 2 false), (Str.ofString "fspath", .glob (.ref fs)), (Str.ofString "isinstance", .glob (.builtin "isinstance")), (Str.ofString "bytes", .glob (.type "bytes"))]
noncomputable def G27 (fs : Addr) : List (Str × Value) := [(Str.ofString "fspath", .ref fs), (Str.ofString "isinstance", .builtin "isinstance"), (Str.ofString "bytes", .type "bytes")]
theorem tab27 (fs : Addr) : fnT (FS 27) (G27 fs) = T27 fs := by kernel_rfl
theorem chk27 : scOk (FS 27) [Str.ofString "p"] = true := by decide +kernel
theorem bind27 {fd : FuncData} (hp : fd.params = FP 27) (hd : fd.defaults = .none) (hk : fd.kwdefaults = .none) (vs : List Value) (hl : vs.length = 1) : bindArgs fd ⟨vs, []⟩ = pure ([Str.ofString "p"].zip vs) := by
  refine by_ng fun ng => ?_
  obtain ⟨a0, rfl⟩ := len1 hl
  obtain ⟨n, q, p, bd, sc, g, cl, df, kd, doc, pm, an, cd, ct, bu⟩ := fd
  refine ng ?_
  clear ng
  subst hp; subst hd; subst hk
  kernel_rfl
theorem ini27 (a0 : Value) : iniOf (FS 27) ([Str.ofString "p"].zip [a0]) = [some a0, none, none] := by kernel_rfl

noncomputable def splitrootB (x : Str) (Q : Value → HA → Ls → Prop) (H : HA) (L : Ls) : Prop :=
  ∃ rest, (x.length ≤ 1048576 ∧ sliceS x none (some 1) = Str.ofString "/" ∧ (sliceS x (some 1) (some 2) != Str.ofString "/") = true ∧ sliceS x (some 1) none = rest) ∧ newW (.tup [.str Str.empty 0, .str (Str.ofString "/") 0, .str rest 0]) Q H L
noncomputable def splitrootW : BW := fun vs Q H L => mS (fun x => mN (splitrootB x Q H L)) vs
theorem splitroot_walk {B : Heap} (hB : Bas B) {n : Nat} (fs : Addr) (hfs : Fn B n fs fspathW) {f : Addr} {fd : FuncData} (Fi : FnIn B f fd (FB 27)) (hsc : fd.scope = FS 27) (hp : fd.params = FP 27) (hg : ∀ g ∈ G27 fs, GlobOk B fd.globals fd.builtins g.1 g.2) : FnA B (n + 1) f splitrootW := by
  have main := fn_ok (n := n) hB Fi (by rw [hsc]; exact chk27) hg (fun C _ vs => bind_args (bind27 hp Fi.dfl Fi.kwd) C vs) (fun C env le room V len0 =>
    have lenC : C.locs.length = 3 := len0.trans (by rw [hsc]; kernel_rfl)
    have V : EnvOk C (T27 fs) env := tab_eq (hsc ▸ tab27 fs) V
    have S := hB.stat le room
    have hh := room.handled
    (S_cons (S_assign (E_call V (.tail _ (.tail _ (.tail _ (.head _)))) (hfs.callee le) (E_cons (E_name V (.head _)) E_nil) (hfs.ok _ le room)) (A_cons (A_name V (.head _)) A_nil)) (S_cons (S_if (T_val (E_call V (.tail _ (.tail _ (.tail _ (.tail _ (.head _))))) (.inl ⟨_, rfl⟩) (E_cons (E_name V (.head _)) (E_cons (E_name V (.tail _ (.tail _ (.tail _ (.tail _ (.tail _ (.head _))))))) E_nil)) b_isBytes)) (S_cons (S_assign (E_const _ _ _) (A_cons (A_name V (.tail _ (.head _))) A_nil)) (S_cons (S_assign (E_const _ _ _) (A_cons (A_name V (.tail _ (.tail _ (.head _)))) A_nil)) S_nil)) (S_cons (S_assign (E_const _ _ _) (A_cons (A_name V (.tail _ (.head _))) A_nil)) (S_cons (S_assign (E_const _ _ _) (A_cons (A_name V (.tail _ (.tail _ (.head _)))) A_nil)) S_nil))) (S_cons (S_if (T_cmp S (E_slice (E_name V (.head _)) P_none (P_some (E_const _ _ _))) (E_name V (.tail _ (.head _)))) (S_cons (S_ret (E_tuple (E_cons (E_name V (.tail _ (.tail _ (.head _)))) (E_cons (E_name V (.tail _ (.tail _ (.head _)))) (E_cons (E_name V (.head _)) E_nil))))) S_nil) (S_cons (S_if (T_or (T_cmp S (E_slice (E_name V (.head _)) (P_some (E_const _ _ _)) (P_some (E_const _ _ _))) (E_name V (.tail _ (.head _)))) (T_cmp S (E_slice (E_name V (.head _)) (P_some (E_const _ _ _)) (P_some (E_const _ _ _))) (E_name V (.tail _ (.head _))))) (S_cons (S_ret (E_tuple (E_cons (E_name V (.tail _ (.tail _ (.head _)))) (E_cons (E_name V (.tail _ (.head _))) (E_cons (E_slice (E_name V (.head _)) (P_some (E_const _ _ _)) P_none) E_nil))))) S_nil) (S_cons (S_ret (E_tuple (E_cons (E_name V (.tail _ (.tail _ (.head _)))) (E_cons (E_slice (E_name V (.head _)) P_none (P_some (E_const _ _ _))) (E_cons (E_slice (E_name V (.head _)) (P_some (E_const _ _ _)) P_none) E_nil))))) S_nil)) S_nil)) S_nil))))
  refine main.spec ?_
  clear main
  rw [hsc]
  intro vs Q H L h
  refine by_ng fun ng => ?_
  obtain ⟨x, t, r0, rfl, hq0⟩ := mS_inv h
  obtain ⟨rfl, hq1⟩ := mN_inv hq0
  refine ng ?_
  clear ng
  replace h := hq1
  · skip
    refine by_ng fun ng => ?_
    obtain ⟨rest, ⟨h1, h2, h3, h4⟩, hq⟩ := h
    refine ng ?_
    clear ng
    refine ⟨rfl, ?_⟩
    refine' s_start (ini27 _) ?_
    walk_at "st"
    refine' s_fs ?_
    walk_at "st"
    refine' s_if_f rfl ?_
    walk_at "st"
    refine' s_slice h1 (by rfl) (by rfl) h2 ?_
    walk_at "st"
    refine' s_if_f (by simp) ?_
    walk_at "st"
    refine' s_slice h1 (by rfl) (by rfl) rfl ?_
    walk_at "st"
    refine' s_if_t h3 ?_
    walk_at "st"
    refine' s_if_t rfl ?_
    walk_at "st"
    refine' s_slice h1 (by rfl) (by rfl) h4 ?_
    walk_at "st"
    refine' ⟨by show 3 ≤ sizeLine; decide, fun a ha => ?_⟩
    walk_at "st"
    exact ⟨_, HSub.refl _, hq a ha⟩
noncomputable def T28 (fs gs : Addr) : List (Str × NK) := [(Str.ofString "p", NK.slot 0 false), (Str.ofString "sep", NK.slot 1 false), (Str.ofString "i", NK.slot 2 false), (Str.ofString "head", NK.slot 3 false), (Str.ofString "fspath", .glob (.ref fs)), (Str.ofString "_get_sep", .glob (.ref gs)), (Str.ofString "len", .glob (.builtin "len"))]
noncomputable def G28 (fs gs : Addr) : List (Str × Value) := [(Str.ofString "fspath", .ref fs), (Str.ofString "_get_sep", .ref gs), (Str.ofString "len", .builtin "len")]
theorem tab28 (fs gs : Addr) : fnT (FS 28) (G28 fs gs) = T28 fs gs := by kernel_rfl
theorem chk28 : scOk (FS 28) [Str.ofString "p"] = true := by decide +kernel
theorem bind28 {fd : FuncData} (hp : fd.params = FP 28) (hd : fd.defaults = .none) (hk : fd.kwdefaults = .none) (vs : List Value) (hl : vs.length = 1) : bindArgs fd ⟨vs, []⟩ = pure ([Str.ofString "p"].zip vs) := by
  refine by_ng fun ng => ?_
  obtain ⟨a0, rfl⟩ := len1 hl
  obtain ⟨n, q, p, bd, sc, g, cl, df, kd, doc, pm, an, cd, ct, bu⟩ := fd
  refine ng ?_
  clear ng
  subst hp; subst hd; subst hk
  kernel_rfl
theorem ini28 (a0 : Value) : iniOf (FS 28) ([Str.ofString "p"].zip [a0]) = [some a0, none, none, none] := by kernel_rfl

structure Dir (x y : Str) (k : Int) (hd : Str) (b : Bool) : Prop where
  len : x.length ≤ 1048576
  f1 : Txt.rfind x (Str.ofString "/") = k
  f2 : sliceS x none (some (k + 1)) = hd
  f3 : (hd.length != 0) = true
  f3' : hd.length ≤ 4096
  f4 : mulOk (Str.ofString "/") hd.length = true
  f5 : (mulS (Str.ofString "/") hd.length).length ≤ sizeLine
  f6 : (hd != mulS (Str.ofString "/") hd.length) = b
  f7 : (if b = true then Txt.rstripChars hd (Str.ofString "/") else hd) = y
noncomputable def dirnameB (x : Str) (Q : Value → HA → Ls → Prop) (H : HA) (L : Ls) : Prop :=
  ∃ y k hd b, Dir x y k hd b ∧ Q (.str y 0) H L
noncomputable def dirnameW : BW := fun vs Q H L => mS (fun x => mN (dirnameB x Q H L)) vs
theorem dirname_walk {B : Heap} (hB : Bas B) {n : Nat} (fs gs : Addr) (hfs : Fn B n fs fspathW) (hgs : Fn B n gs sepW) {f : Addr} {fd : FuncData} (Fi : FnIn B f fd (FB 28)) (hsc : fd.scope = FS 28) (hp : fd.params = FP 28) (hg : ∀ g ∈ G28 fs gs, GlobOk B fd.globals fd.builtins g.1 g.2) : FnA B (n + 1) f dirnameW := by
  have main := fn_ok (n := n) hB Fi (by rw [hsc]; exact chk28) hg (fun C _ vs => bind_args (bind28 hp Fi.dfl Fi.kwd) C vs) (fun C env le room V len0 =>
    have lenC : C.locs.length = 4 := len0.trans (by rw [hsc]; kernel_rfl)
    have V : EnvOk C (T28 fs gs) env := tab_eq (hsc ▸ tab28 fs gs) V
    have S := hB.stat le room
    have hh := room.handled
    (S_cons (S_assign (E_call V (.tail _ (.tail _ (.tail _ (.tail _ (.head _))))) (hfs.callee le) (E_cons (E_name V (.head _)) E_nil) (hfs.ok _ le room)) (A_cons (A_name V (.head _)) A_nil)) (S_cons (S_assign (E_call V (.tail _ (.tail _ (.tail _ (.tail _ (.tail _ (.head _)))))) (hgs.callee le) (E_cons (E_name V (.head _)) E_nil) (hgs.ok _ le room)) (A_cons (A_name V (.tail _ (.head _))) A_nil)) (S_cons (S_assign (E_bin (E_meth (E_name V (.head _)) F.plainAttrs_str F.slot_str_rfind F.type_str_rfind (E_cons (E_name V (.tail _ (.head _))) E_nil) b_rfind) (E_const _ _ _)) (A_cons (A_name V (.tail _ (.tail _ (.head _)))) A_nil)) (S_cons (S_assign (E_slice (E_name V (.head _)) P_none (P_some (E_name V (.tail _ (.tail _ (.head _)))))) (A_cons (A_name V (.tail _ (.tail _ (.tail _ (.head _))))) A_nil)) (S_cons (S_if (T_and (T_val (E_name V (.tail _ (.tail _ (.tail _ (.head _)))))) (T_cmp S (E_name V (.tail _ (.tail _ (.tail _ (.head _))))) (E_bin (E_name V (.tail _ (.head _))) (E_call V (.tail _ (.tail _ (.tail _ (.tail _ (.tail _ (.tail _ (.head _))))))) (.inl ⟨_, rfl⟩) (E_cons (E_name V (.tail _ (.tail _ (.tail _ (.head _))))) E_nil) b_len)))) (S_cons (S_assign (E_meth (E_name V (.tail _ (.tail _ (.tail _ (.head _))))) F.plainAttrs_str F.slot_str_rstrip F.type_str_rstrip (E_cons (E_name V (.tail _ (.head _))) E_nil) b_rstrip) (A_cons (A_name V (.tail _ (.tail _ (.tail _ (.head _))))) A_nil)) S_nil) S_nil) (S_cons (S_ret (E_name V (.tail _ (.tail _ (.tail _ (.head _)))))) S_nil)))))))
  refine main.spec ?_
  clear main
  rw [hsc]
  intro vs Q H L h
  refine by_ng fun ng => ?_
  obtain ⟨x, t, r0, rfl, hq0⟩ := mS_inv h
  obtain ⟨rfl, hq1⟩ := mN_inv hq0
  refine ng ?_
  clear ng
  replace h := hq1
  · skip
    refine by_ng fun ng => ?_
    obtain ⟨y, k, hd, b, D, hq⟩ := h
    refine ng ?_
    clear ng
    refine ⟨rfl, ?_⟩
    refine' s_start (ini28 _) ?_
    walk_at "st"
    refine' s_fs ?_
    walk_at "st"
    refine' s_sep ?_
    walk_at "st"
    refine' s_rfind D.f1 ?_
    walk_at "st"
    refine' s_slice D.len (by rfl) (by rfl) D.f2 ?_
    walk_at "st"
    refine' s_ts (Nat.lt_of_le_of_lt D.f3' (by decide)) D.f3 ?_
    walk_at "st"
    refine' s_if_t rfl ?_
    walk_at "st"
    refine' s_len_s (Nat.le_trans D.f3' (by decide)) ?_
    walk_at "st"
    refine' s_muls D.f4 D.f5 rfl ?_
    walk_at "st"
    have h7 := D.f7
    cases b with
    | true =>
      rw [if_pos rfl] at h7
      refine' s_if_t D.f6 ?_
      walk_at "st"
      refine' s_rstrip D.f3' h7 ?_
      walk_at "st"
      exact ⟨_, HSub.refl _, hq⟩
    | false =>
      rw [if_neg (by simp)] at h7
      refine' s_if_f D.f6 ?_
      walk_at "st"
      subst h7
      exact ⟨_, HSub.refl _, hq⟩

noncomputable def T29 (fs sr : Addr) : List (Str × NK) := [(Str.ofString "path", NK.slot 0 false), (Str.ofString "sep", NK.slot 1 false), (Str.ofString "dot", NK.slot 2 false), (Str.ofString "dotdot", NK.slot 3 false), (Str.ofString "_", NK.slot 4 false), (Str.ofString "initial_slashes", NK.slot 5 false), (Str.ofString "comps", NK.slot 6 false), (Str.ofString "new_comps", NK.slot 7 false), (Str.ofString "comp", NK.slot 8 false), (Str.ofString "fspath", .glob (.ref fs)), (Str.ofString "isinstance", .glob (.builtin "isinstance")), (Str.ofString "bytes", .glob (.type "bytes")), (Str.ofString "splitroot", .glob (.ref sr))]
noncomputable def G29 (fs sr : Addr) : List (Str × Value) := [(Str.ofString "fspath", .ref fs), (Str.ofString "isinstance", .builtin "isinstance"), (Str.ofString "bytes", .type "bytes"), (Str.ofString "splitroot", .ref sr)]
theorem tab29 (fs sr : Addr) : fnT (FS 29) (G29 fs sr) = T29 fs sr := by kernel_rfl
theorem chk29 : scOk (FS 29) [Str.ofString "path"] = true := by decide +kernel
theorem bind29 {fd : FuncData} (hp : fd.params = FP 29) (hd : fd.defaults = .none) (hk : fd.kwdefaults = .none) (vs : List Value) (hl : vs.length = 1) : bindArgs fd ⟨vs, []⟩ = pure ([Str.ofString "path"].zip vs) := by
  refine by_ng fun ng => ?_
  obtain ⟨a0, rfl⟩ := len1 hl
  obtain ⟨n, q, p, bd, sc, g, cl, df, kd, doc, pm, an, cd, ct, bu⟩ := fd
  refine ng ?_
  clear ng
  subst hp; subst hd; subst hk
  kernel_rfl
theorem ini29 (a0 : Value) : iniOf (FS 29) ([Str.ofString "path"].zip [a0]) = [some a0, none, none, none, none, none, none, none, none] := by kernel_rfl

/-- one component -/
noncomputable def nstep (acc : List Str) (c : Str) : List Str :=
  if (c.length != 0) = false then acc
  else if (c == Str.ofString ".") = true then acc
  else if (c != Str.ofString "..") = true then acc ++ [c]
  else match acc.getLast? with
    | none => acc
    | some l => if (l == Str.ofString "..") = true then acc ++ [c] else acc.dropLast
noncomputable def nfold (cs : List Str) : List Str := cs.foldl nstep []
structure Nrm (x y rest : Str) (cs : List Str) : Prop where
  len : x.length < 1048576
  ne : (x.length != 0) = true
  f1 : sliceS x none (some 1) = Str.ofString "/"
  f2 : (sliceS x (some 1) (some 2) != Str.ofString "/") = true
  f3 : sliceS x (some 1) none = rest
  f4 : Txt.split rest (Str.ofString "/") = cs
  f5 : rest.length ≤ 4096
  f6 : (PySem.Builtin.Str.partsBetween rest (PySem.Builtin.Str.occurrences rest (Str.ofString "/") 0 rest.length (rest.length + 1)) (Str.ofString "/").length).length ≤ sizeLine
  f7 : cs.length ≤ 1000
  f8 : ∀ c ∈ cs, c.length < 1000
  f9 : JoinOk (Str.ofString "/") (nfold cs) = true
  f10 : Str.ofString "/" ++ Txt.join (Str.ofString "/") (nfold cs) = y
  f11 : (Str.ofString "/").length + (Txt.join (Str.ofString "/") (nfold cs)).length ≤ sizeLine
  f12 : (y.length != 0) = true
  f13 : y.length < 1048576
noncomputable def normpathB (x : Str) (Q : Value → HA → Ls → Prop) (H : HA) (L : Ls) : Prop :=
  ∃ y rest cs, Nrm x y rest cs ∧ Q (.str y 0) H L
noncomputable def normpathW : BW := fun vs Q H L => mS (fun x => mN (normpathB x Q H L)) vs
theorem nstep_len (acc : List Str) (c : Str) : (nstep acc c).length ≤ acc.length + 1 := by
  unfold nstep
  split
  · (first | lia | omega)
  · split
    · (first | lia | omega)
    · split
      · simp
      · split
        · (first | lia | omega)
        · split <;> simp <;> (first | lia | omega)
theorem nfold_len (cs : List Str) : ∀ acc, (cs.foldl nstep acc).length ≤ acc.length + cs.length := by
  induction cs with
  | nil => intro acc; simp
  | cons c r ih => intro acc; have := ih (nstep acc c); have := nstep_len acc c; simp only [List.foldl_cons, List.length_cons]; (first | lia | omega)
theorem last_map {acc : List Str} {l : Str} (h : acc.getLast? = some l) : ∃ pre, acc = pre ++ [l] ∧ acc.dropLast = pre := by
  obtain ⟨pre, rfl⟩ := List.getLast?_eq_some_iff.mp h
  exact ⟨pre, rfl, by simp⟩
theorem at_last (pre : List Value) (v : Value) : at? (pre ++ [v]) (-1) = some v := by
  unfold at? seqIndex?
  have h1 : (if (-1 : Int) < 0 then (-1 : Int) + ((pre ++ [v]).length : Int) else -1) = (pre.length : Int) := by simp; (first | lia | omega)
  simp only [h1]
  have h2 : (decide (0 ≤ (pre.length : Int)) && decide ((pre.length : Int) < ((pre ++ [v]).length : Int))) = true := by simp; (first | lia | omega)
  rw [if_pos h2]
  simp
theorem normpath_walk {B : Heap} (hB : Bas B) {n : Nat} (fs sr : Addr) (hfs : Fn B n fs fspathW) (hsr : Fn B n sr splitrootW) {f : Addr} {fd : FuncData} (Fi : FnIn B f fd (FB 29)) (hsc : fd.scope = FS 29) (hp : fd.params = FP 29) (hg : ∀ g ∈ G29 fs sr, GlobOk B fd.globals fd.builtins g.1 g.2) : FnA B (n + 1) f normpathW := by
  have main := fn_ok (n := n) hB Fi (by rw [hsc]; exact chk29) hg (fun C _ vs => bind_args (bind29 hp Fi.dfl Fi.kwd) C vs) (fun C env le room V len0 =>
    have lenC : C.locs.length = 9 := len0.trans (by rw [hsc]; kernel_rfl)
    have V : EnvOk C (T29 fs sr) env := tab_eq (hsc ▸ tab29 fs sr) V
    have S := hB.stat le room
    have hh := room.handled
    (S_cons (S_assign (E_call V (.tail _ (.tail _ (.tail _ (.tail _ (.tail _ (.tail _ (.tail _ (.tail _ (.tail _ (.head _)))))))))) (hfs.callee le) (E_cons (E_name V (.head _)) E_nil) (hfs.ok _ le room)) (A_cons (A_name V (.head _)) A_nil)) (S_cons (S_if (T_val (E_call V (.tail _ (.tail _ (.tail _ (.tail _ (.tail _ (.tail _ (.tail _ (.tail _ (.tail _ (.tail _ (.head _))))))))))) (.inl ⟨_, rfl⟩) (E_cons (E_name V (.head _)) (E_cons (E_name V (.tail _ (.tail _ (.tail _ (.tail _ (.tail _ (.tail _ (.tail _ (.tail _ (.tail _ (.tail _ (.tail _ (.head _))))))))))))) E_nil)) b_isBytes)) (S_cons (S_assign (E_const _ _ _) (A_cons (A_name V (.tail _ (.head _))) A_nil)) (S_cons (S_assign (E_const _ _ _) (A_cons (A_name V (.tail _ (.tail _ (.head _)))) A_nil)) (S_cons (S_assign (E_const _ _ _) (A_cons (A_name V (.tail _ (.tail _ (.tail _ (.head _))))) A_nil)) S_nil))) (S_cons (S_assign (E_const _ _ _) (A_cons (A_name V (.tail _ (.head _))) A_nil)) (S_cons (S_assign (E_const _ _ _) (A_cons (A_name V (.tail _ (.tail _ (.head _)))) A_nil)) (S_cons (S_assign (E_const _ _ _) (A_cons (A_name V (.tail _ (.tail _ (.tail _ (.head _))))) A_nil)) S_nil)))) (S_cons (S_if (T_not (T_val (E_name V (.head _)))) (S_cons (S_ret (E_name V (.tail _ (.tail _ (.head _))))) S_nil) S_nil) (S_cons (S_assign (E_call V (.tail _ (.tail _ (.tail _ (.tail _ (.tail _ (.tail _ (.tail _ (.tail _ (.tail _ (.tail _ (.tail _ (.tail _ (.head _))))))))))))) (hsr.callee le) (E_cons (E_name V (.head _)) E_nil) (hsr.ok _ le room)) (A_cons (A_tuple hh (A_cons (A_name V (.tail _ (.tail _ (.tail _ (.tail _ (.head _)))))) (A_cons (A_name V (.tail _ (.tail _ (.tail _ (.tail _ (.tail _ (.head _))))))) (A_cons (A_name V (.head _)) A_nil)))) A_nil)) (S_cons (S_assign (E_meth (E_name V (.head _)) F.plainAttrs_str F.slot_str_split F.type_str_split (E_cons (E_name V (.tail _ (.head _))) E_nil) b_split) (A_cons (A_name V (.tail _ (.tail _ (.tail _ (.tail _ (.tail _ (.tail _ (.head _)))))))) A_nil)) (S_cons (S_assign (E_list E_nil) (A_cons (A_name V (.tail _ (.tail _ (.tail _ (.tail _ (.tail _ (.tail _ (.tail _ (.head _))))))))) A_nil)) (S_cons (S_for hh S (E_name V (.tail _ (.tail _ (.tail _ (.tail _ (.tail _ (.tail _ (.head _)))))))) (A_name V (.tail _ (.tail _ (.tail _ (.tail _ (.tail _ (.tail _ (.tail _ (.tail _ (.head _)))))))))) (S_cons (S_if (T_or (T_not (T_val (E_name V (.tail _ (.tail _ (.tail _ (.tail _ (.tail _ (.tail _ (.tail _ (.tail _ (.head _)))))))))))) (T_cmp S (E_name V (.tail _ (.tail _ (.tail _ (.tail _ (.tail _ (.tail _ (.tail _ (.tail _ (.head _)))))))))) (E_name V (.tail _ (.tail _ (.head _)))))) (S_cons S_continue S_nil) S_nil) (S_cons (S_if (T_or3 (T_cmp S (E_name V (.tail _ (.tail _ (.tail _ (.tail _ (.tail _ (.tail _ (.tail _ (.tail _ (.head _)))))))))) (E_name V (.tail _ (.tail _ (.tail _ (.head _)))))) (T_and (T_not (T_val (E_name V (.tail _ (.tail _ (.tail _ (.tail _ (.tail _ (.head _))))))))) (T_not (T_val (E_name V (.tail _ (.tail _ (.tail _ (.tail _ (.tail _ (.tail _ (.tail _ (.head _)))))))))))) (T_and (T_val (E_name V (.tail _ (.tail _ (.tail _ (.tail _ (.tail _ (.tail _ (.tail _ (.head _)))))))))) (T_cmp S (E_sub (E_name V (.tail _ (.tail _ (.tail _ (.tail _ (.tail _ (.tail _ (.tail _ (.head _))))))))) (E_neg (E_const _ _ _))) (E_name V (.tail _ (.tail _ (.tail _ (.head _)))))))) (S_cons (S_expr V.fn (E_meth (E_name V (.tail _ (.tail _ (.tail _ (.tail _ (.tail _ (.tail _ (.tail _ (.head _))))))))) F.plainAttrs_list F.slot_list_append F.type_list_append (E_cons (E_name V (.tail _ (.tail _ (.tail _ (.tail _ (.tail _ (.tail _ (.tail _ (.tail _ (.head _)))))))))) E_nil) b_append)) S_nil) (S_cons (S_if (T_val (E_name V (.tail _ (.tail _ (.tail _ (.tail _ (.tail _ (.tail _ (.tail _ (.head _)))))))))) (S_cons (S_expr V.fn (E_meth (E_name V (.tail _ (.tail _ (.tail _ (.tail _ (.tail _ (.tail _ (.tail _ (.head _))))))))) F.plainAttrs_list F.slot_list_pop F.type_list_pop E_nil b_pop)) S_nil) S_nil) S_nil)) S_nil)) S_nil) (S_cons (S_assign (E_name V (.tail _ (.tail _ (.tail _ (.tail _ (.tail _ (.tail _ (.tail _ (.head _))))))))) (A_cons (A_name V (.tail _ (.tail _ (.tail _ (.tail _ (.tail _ (.tail _ (.head _)))))))) A_nil)) (S_cons (S_assign (E_bin (E_name V (.tail _ (.tail _ (.tail _ (.tail _ (.tail _ (.head _))))))) (E_meth (E_name V (.tail _ (.head _))) F.plainAttrs_str F.slot_str_join F.type_str_join (E_cons (E_name V (.tail _ (.tail _ (.tail _ (.tail _ (.tail _ (.tail _ (.head _)))))))) E_nil) b_join)) (A_cons (A_name V (.head _)) A_nil)) (S_cons (S_ret (E_or (E_name V (.head _)) (E_name V (.tail _ (.tail _ (.head _)))))) S_nil)))))))))))
  refine main.spec ?_
  clear main
  rw [hsc]
  intro vs Q H L h
  refine by_ng fun ng => ?_
  obtain ⟨x, t, r0, rfl, hq0⟩ := mS_inv h
  obtain ⟨rfl, hq1⟩ := mN_inv hq0
  refine ng ?_
  clear ng
  replace h := hq1
  · skip
    refine by_ng fun ng => ?_
    obtain ⟨y, rest, cs, N, hq⟩ := h
    refine ng ?_
    clear ng
    refine ⟨rfl, ?_⟩
    refine' s_start (ini29 _) ?_
    walk_at "st"
    refine' s_fs ?_
    walk_at "st"
    refine' s_if_f rfl ?_
    walk_at "st"
    refine' s_ts N.len N.ne ?_
    walk_at "st"
    refine' s_if_f rfl ?_
    walk_at "st"
    refine' ⟨rest, ⟨Nat.le_of_lt N.len, N.f1, N.f2, N.f3⟩, fun tp htp => ?_⟩
    walk_at "st"
    refine' s_unpack (upd_same _ _ _) rfl ?_
    walk_at "st"
    refine' s_split N.f4 (by decide) N.f5 N.f6 fun cl hcl => ?_
    walk_at "st"
    refine' ⟨by show 0 ≤ sizeLine; decide, fun nc hnc => ?_⟩
    have hne : cl ≠ nc := fun z => by rw [← z, upd_same] at hnc; cases hnc
    have hncH : H nc = none := by
      by_cases z1 : nc = cl
      · exact absurd z1.symm hne
      · rw [upd_ne _ _ z1] at hnc
        by_cases z2 : nc = tp
        · rw [z2]; exact htp
        · rw [upd_ne _ _ z2] at hnc; exact hnc
    have hclH : H cl = none := by
      by_cases z2 : cl = tp
      · rw [z2]; exact htp
      · rw [upd_ne _ _ z2] at hcl; exact hcl
    walk_at "st"
    refine' s_for (k := .lst cl) (xs := cs.map (Value.str · 0)) (fun i H' L' => HSub H H' ∧ H' cl = some (.lst (cs.map (Value.str · 0))) ∧ H' nc = some (.lst ((nfold (cs.take i)).map (Value.str · 0))) ∧
      ∃ cv, L' = [some (.str rest 0), some (.str (Str.ofString "/") 0), some (.str (Str.ofString ".") 0), some (.str (Str.ofString "..") 0), some (.str Str.empty 0), some (.str (Str.ofString "/") 0), some (.ref cl), some (.ref nc), cv])
      (.lst ((upd_ne _ _ hne).trans (upd_same _ _ _))) ⟨(((HSub.refl H).upd htp).upd hclH).upd hncH, (upd_ne _ _ hne).trans (upd_same _ _ _), upd_same _ _ _, none, rfl⟩ ?_
    intro i H' L' rr17
    refine by_ng fun ng => ?_
    obtain ⟨hs, h1, h2, cv, rfl⟩ := rr17
    refine ng ?_
    clear ng
    have hacc : (nfold (cs.take i)).length ≤ 1000 := by
      have := nfold_len (cs.take i) []
      have h7 := N.f7
      unfold nfold; simp only [List.length_nil, List.length_take] at this; (first | lia | omega)
    refine ⟨.lst h1, fun e => ?_, fun z e QN hN hC => ?_⟩
    · rw [List.getElem?_map, Option.map_eq_none_iff, List.getElem?_eq_none_iff] at e
      rw [List.take_of_length_le e] at h2
      walk_at "st"
      refine' ⟨nfold cs, h2, N.f9, ?_⟩
      walk_at "st"
      refine' s_adds N.f11 N.f10 ?_
      walk_at "st"
      refine' s_ts N.f13 N.f12 ?_
      refine' s_if_t rfl ?_
      walk_at "st"
      exact ⟨H, hs, hq⟩
    · rw [List.getElem?_map] at e
      obtain ⟨c, hc, rfl⟩ := Option.map_eq_some_iff.mp e
      have hlt : i < cs.length := (List.getElem?_eq_some_iff.mp hc).1
      have hcm : c ∈ cs := List.mem_of_getElem? hc
      have htk : nfold (cs.take (i + 1)) = nstep (nfold (cs.take i)) c := by
        unfold nfold
        rw [List.take_add_one, hc, List.foldl_append]; rfl
      have hcl' := N.f8 c hcm
      generalize hacc' : nfold (cs.take i) = acc at h2 hacc htk
      have hml : (acc.map (Value.str · 0)).length ≤ 1000 := by simpa using hacc
      walk_at "st"
      cases e1 : (c.length != 0) with
      | false =>
        have hn : nstep acc c = acc := by unfold nstep; rw [if_pos e1]
        refine' s_ts (by (first | lia | omega)) e1 ?_
        walk_at "st"
        refine' s_if_t rfl ?_
        walk_at "st"
        refine' s_if_t rfl ?_
        walk_at "st"
        first | exact hN _ _ ⟨hs, h1, by rw [htk, hn]; exact h2, _, rfl⟩ | exact hC _ _ ⟨hs, h1, by rw [htk, hn]; exact h2, _, rfl⟩
      | true =>
        refine' s_ts (by (first | lia | omega)) e1 ?_
        walk_at "st"
        refine' s_if_f rfl ?_
        walk_at "st"
        cases e2 : (c == Str.ofString ".") with
        | true =>
          have hn : nstep acc c = acc := by unfold nstep; rw [if_neg (by rw [e1]; decide), if_pos e2]
          refine' s_if_t rfl ?_
          walk_at "st"
          first | exact hN _ _ ⟨hs, h1, by rw [htk, hn]; exact h2, _, rfl⟩ | exact hC _ _ ⟨hs, h1, by rw [htk, hn]; exact h2, _, rfl⟩
        | false =>
          refine' s_if_f rfl ?_
          walk_at "st"
          have hq : nstep acc c = if (c != Str.ofString "..") = true then acc ++ [c] else match acc.getLast? with | none => acc | some l => if (l == Str.ofString "..") = true then acc ++ [c] else acc.dropLast := by
            unfold nstep; rw [if_neg (by rw [e1]; decide), if_neg (by rw [e2]; decide)]
          cases e3 : (c != Str.ofString "..") with
          | true =>
            have hn : nstep acc c = acc ++ [c] := by rw [hq, if_pos e3]
            refine' s_if_t rfl ?_
            refine' s_if_t rfl ?_
            walk_at "st"
            refine' s_meth_l h2 ?_
            walk_at "st"
            refine' s_append h2 (by (first | lia | omega)) ?_
            walk_at "st"
            exact hN _ _ ⟨hs.upd hncH, (upd_ne _ _ hne).trans h1, by rw [htk, hn, upd_same, List.map_append]; rfl, _, rfl⟩
          | false =>
            rw [if_neg (by rw [e3]; decide)] at hq
            refine' s_if_f rfl ?_
            walk_at "st"
            refine' s_ts (by decide) rfl ?_
            walk_at "st"
            refine' s_if_f rfl ?_
            refine' s_if_f rfl ?_
            walk_at "st"
            cases e4 : acc.getLast? with
            | none =>
              rw [e4] at hq
              have hnil : acc = [] := List.getLast?_eq_none_iff.mp e4
              subst hnil
              refine' s_tl h2 (by decide) rfl ?_
              walk_at "st"
              refine' s_if_f rfl ?_
              refine' s_if_f rfl ?_
              walk_at "st"
              refine' s_tl h2 (by decide) rfl ?_
              walk_at "st"
              refine' s_if_f rfl ?_
              walk_at "st"
              exact hN _ _ ⟨hs, h1, by rw [htk, hq]; exact h2, _, rfl⟩
            | some l =>
              rw [e4] at hq
              obtain ⟨pre, hpre, hdrop⟩ := last_map e4
              have hme : (!(acc.map (Value.str · 0)).isEmpty) = true := by rw [hpre]; simp
              have h2' : H' nc = some (.lst (pre.map (Value.str · 0) ++ [.str l 0])) := by rw [h2, hpre, List.map_append]; rfl
              have hpl : (pre.map (Value.str · 0)).length ≤ 1000 := by rw [hpre] at hacc; simp at hacc ⊢; (first | lia | omega)
              refine' s_tl h2 (by (first | lia | omega)) hme ?_
              walk_at "st"
              refine' s_if_t rfl ?_
              walk_at "st"
              refine' s_list h2' (by unfold fits; decide) (at_last _ _) ?_
              walk_at "st"
              cases e5 : (l == Str.ofString "..") with
              | true =>
                simp only [e5, if_true] at hq
                refine' s_if_t rfl ?_
                walk_at "st"
                refine' s_meth_l h2 ?_
                walk_at "st"
                refine' s_append h2 (by (first | lia | omega)) ?_
                walk_at "st"
                exact hN _ _ ⟨hs.upd hncH, (upd_ne _ _ hne).trans h1, by rw [htk, hq, upd_same, List.map_append]; rfl, _, rfl⟩
              | false =>
                simp only [e5, Bool.false_eq_true, if_false] at hq
                refine' s_if_f rfl ?_
                walk_at "st"
                refine' s_tl h2 (by (first | lia | omega)) hme ?_
                walk_at "st"
                refine' s_if_t rfl ?_
                walk_at "st"
                refine' s_meth_l h2 ?_
                walk_at "st"
                refine' s_pop h2' (by (first | lia | omega)) ?_
                walk_at "st"
                exact hN _ _ ⟨hs.upd hncH, (upd_ne _ _ hne).trans h1, by rw [htk, hq, upd_same, hdrop], _, rfl⟩

noncomputable def T6  : List (Str × NK) := [(Str.ofString "resp", NK.slot 0 false), (Str.ofString "dirname", NK.slot 1 false), (Str.ofString "i", NK.slot 2 false), (Str.ofString "n", NK.slot 3 false), (Str.ofString "c", NK.slot 4 false), (Str.ofString "len", .glob (.builtin "len"))]
noncomputable def G6  : List (Str × Value) := [(Str.ofString "len", .builtin "len")]
theorem tab6  : fnT (FS 6) (G6 ) = T6  := by kernel_rfl
theorem chk6 : scOk (FS 6) [Str.ofString "resp"] = true := by decide +kernel
theorem bind6 {fd : FuncData} (hp : fd.params = FP 6) (hd : fd.defaults = .none) (hk : fd.kwdefaults = .none) (vs : List Value) (hl : vs.length = 1) : bindArgs fd ⟨vs, []⟩ = pure ([Str.ofString "resp"].zip vs) := by
  refine by_ng fun ng => ?_
  obtain ⟨a0, rfl⟩ := len1 hl
  obtain ⟨n, q, p, bd, sc, g, cl, df, kd, doc, pm, an, cd, ct, bu⟩ := fd
  refine ng ?_
  clear ng
  subst hp; subst hd; subst hk
  kernel_rfl
theorem ini6 (a0 : Value) : iniOf (FS 6) ([Str.ofString "resp"].zip [a0]) = [some a0, none, none, none, none] := by kernel_rfl

noncomputable def prun (x : Str) : Nat → Nat → Str → Option Str
  | 0, _, _ => none
  | f + 1, i, d => if i < x.length then (match x.cps[i]? with
      | none => none
      | some c => if ((⟨#[c]⟩ : Str) == Str.ofString "\"") = true then (if i + 1 < x.length then (match x.cps[i + 1]? with
          | none => none
          | some c' => if ((⟨#[c']⟩ : Str) != Str.ofString "\"") = true then some d else prun x f (i + 2) (d ++ ⟨#[c]⟩)) else some d) else prun x f (i + 1) (d ++ ⟨#[c]⟩)) else some d
structure P257 (x y : Str) (fuel : Nat) : Prop where
  len : x.length ≤ 1000
  f1 : (sliceS x none (some 3) != Str.ofString "257") = false
  f2 : (sliceS x (some 3) (some 5) != Str.ofString " \"") = false
  f3 : prun x fuel 5 Str.empty = some y
noncomputable def parse257B (x : Str) (Q : Value → HA → Ls → Prop) (H : HA) (L : Ls) : Prop :=
  ∃ y fuel, P257 x y fuel ∧ Q (.str y 0) H L
noncomputable def parse257W : BW := fun vs Q H L => mS (fun x => mN (parse257B x Q H L)) vs
theorem atS_nat {x : Str} {i c : Nat} (h : i < x.length) (e : x.cps[i]? = some c) : atS? x (i : Int) = some c := by
  unfold atS? seqIndex?
  have h1 : (if (i : Int) < 0 then (i : Int) + (x.length : Int) else i) = (i : Int) := by rw [if_neg (by (first | lia | omega))]
  simp only [h1]
  have h2 : (decide (0 ≤ (i : Int)) && decide ((i : Int) < (x.length : Int))) = true := by simp; (first | lia | omega)
  rw [if_pos h2]
  simpa using e
theorem app_len (d : Str) (c : Nat) : (d ++ (⟨#[c]⟩ : Str)).length = d.length + 1 := by
  show (d.cps ++ #[c]).size = _
  simp; rfl
theorem parse257_walk {B : Heap} (hB : Bas B) {n : Nat}   {f : Addr} {fd : FuncData} (Fi : FnIn B f fd (FB 6)) (hsc : fd.scope = FS 6) (hp : fd.params = FP 6) (hg : ∀ g ∈ G6 , GlobOk B fd.globals fd.builtins g.1 g.2) : FnA B (n + 1) f parse257W := by
  have main := fn_ok (n := n) hB Fi (by rw [hsc]; exact chk6) hg (fun C _ vs => bind_args (bind6 hp Fi.dfl Fi.kwd) C vs) (fun C env le room V len0 =>
    have lenC : C.locs.length = 5 := len0.trans (by rw [hsc]; kernel_rfl)
    have V : EnvOk C (T6 ) env := tab_eq (hsc ▸ tab6 ) V
    have S := hB.stat le room
    have hh := room.handled
    (S_cons (S_if (T_cmp S (E_slice (E_name V (.head _)) P_none (P_some (E_const _ _ _))) (E_const _ _ _)) S_wall S_nil) (S_cons (S_if (T_cmp S (E_slice (E_name V (.head _)) (P_some (E_const _ _ _)) (P_some (E_const _ _ _))) (E_const _ _ _)) (S_cons (S_ret (E_const _ _ _)) S_nil) S_nil) (S_cons (S_assign (E_const _ _ _) (A_cons (A_name V (.tail _ (.head _))) A_nil)) (S_cons (S_assign (E_const _ _ _) (A_cons (A_name V (.tail _ (.tail _ (.head _)))) A_nil)) (S_cons (S_assign (E_call V (.tail _ (.tail _ (.tail _ (.tail _ (.tail _ (.head _)))))) (.inl ⟨_, rfl⟩) (E_cons (E_name V (.head _)) E_nil) b_len) (A_cons (A_name V (.tail _ (.tail _ (.tail _ (.head _))))) A_nil)) (S_cons (S_while (T_cmp S (E_name V (.tail _ (.tail _ (.head _)))) (E_name V (.tail _ (.tail _ (.tail _ (.head _)))))) (S_cons (S_assign (E_sub (E_name V (.head _)) (E_name V (.tail _ (.tail _ (.head _))))) (A_cons (A_name V (.tail _ (.tail _ (.tail _ (.tail _ (.head _)))))) A_nil)) (S_cons (S_assign (E_bin (E_name V (.tail _ (.tail _ (.head _)))) (E_const _ _ _)) (A_cons (A_name V (.tail _ (.tail _ (.head _)))) A_nil)) (S_cons (S_if (T_cmp S (E_name V (.tail _ (.tail _ (.tail _ (.tail _ (.head _)))))) (E_const _ _ _)) (S_cons (S_if (T_or (T_cmp S (E_name V (.tail _ (.tail _ (.head _)))) (E_name V (.tail _ (.tail _ (.tail _ (.head _)))))) (T_cmp S (E_sub (E_name V (.head _)) (E_name V (.tail _ (.tail _ (.head _))))) (E_const _ _ _))) (S_cons S_break S_nil) S_nil) (S_cons (S_assign (E_bin (E_name V (.tail _ (.tail _ (.head _)))) (E_const _ _ _)) (A_cons (A_name V (.tail _ (.tail _ (.head _)))) A_nil)) S_nil)) S_nil) (S_cons (S_assign (E_bin (E_name V (.tail _ (.head _))) (E_name V (.tail _ (.tail _ (.tail _ (.tail _ (.head _))))))) (A_cons (A_name V (.tail _ (.head _))) A_nil)) S_nil)))) S_nil) (S_cons (S_ret (E_name V (.tail _ (.head _)))) S_nil))))))))
  refine main.spec ?_
  clear main
  rw [hsc]
  intro vs Q H L h
  refine by_ng fun ng => ?_
  obtain ⟨x, t, r0, rfl, hq0⟩ := mS_inv h
  obtain ⟨rfl, hq1⟩ := mN_inv hq0
  refine ng ?_
  clear ng
  replace h := hq1
  · skip
    refine by_ng fun ng => ?_
    obtain ⟨y, fuel, N, hq⟩ := h
    refine ng ?_
    clear ng
    have hlen := N.len
    refine ⟨rfl, ?_⟩
    refine' s_start (ini6 _) ?_
    walk_at "st"
    refine' s_slice (by (first | lia | omega)) (by rfl) (by rfl) rfl ?_
    walk_at "st"
    refine' s_if_f N.f1 ?_
    walk_at "st"
    refine' s_slice (by (first | lia | omega)) (by rfl) (by rfl) rfl ?_
    walk_at "st"
    refine' s_if_f N.f2 ?_
    walk_at "st"
    refine' s_len_s (by (first | lia | omega)) ?_
    walk_at "st"
    refine' s_while (fun k H' L' => H' = H ∧ ∃ (i : Nat) (d : Str) (cv : Option Value), L' = [some (.str x t), some (.str d 0), some (.int (i : Int) 0), some (.int (x.length : Int) 0), cv] ∧ prun x k i d = some y ∧ d.length ≤ i) ⟨fuel, rfl, 5, Str.empty, none, rfl, N.f3, by decide⟩ ?_
    intro k H' L' rr18 QN hN hC hB hR
    refine by_ng fun ng => ?_
    obtain ⟨rfl, i, d, cv, rfl, hr, hd⟩ := rr18
    refine ng ?_
    clear ng
    cases k with
    | zero => cases hr
    | succ k =>
      unfold prun at hr
      walk_at "st"
      by_cases hi : i < x.length
      · rw [if_pos hi] at hr
        obtain ⟨c, hc⟩ : ∃ c, x.cps[i]? = some c := ⟨_, Array.getElem?_eq_getElem (show i < x.cps.size from hi)⟩
        rw [hc] at hr
        refine' s_if_t (by simpa using hi) ?_
        walk_at "st"
        refine' s_chr (by unfold fits; (first | lia | omega)) (atS_nat hi hc) ?_
        walk_at "st"
        cases e1 : ((⟨#[c]⟩ : Str) == Str.ofString "\"") with
        | false =>
          simp only [e1, Bool.false_eq_true, if_false] at hr
          refine' s_if_f rfl ?_
          walk_at "st"
          refine' s_adds (z := d ++ ⟨#[c]⟩) (by show d.length + 1 ≤ sizeLine; exact Nat.le_trans (by (first | lia | omega) : d.length + 1 ≤ 1001) (by decide)) rfl ?_
          walk_at "st"
          exact hN _ _ ⟨k, Nat.lt_succ_self _, rfl, i + 1, d ++ ⟨#[c]⟩, _, rfl, hr, by rw [app_len]; (first | lia | omega)⟩
        | true =>
          simp only [e1, if_true] at hr
          refine' s_if_t rfl ?_
          walk_at "st"
          by_cases hi2 : i + 1 < x.length
          · rw [if_pos hi2] at hr
            obtain ⟨c2, hc2⟩ : ∃ c, x.cps[i + 1]? = some c := ⟨_, Array.getElem?_eq_getElem (show i + 1 < x.cps.size from hi2)⟩
            rw [hc2] at hr
            refine' s_if_f (by simp; (first | lia | omega)) ?_
            walk_at "st"
            refine' s_chr (i := ((i + 1 : Nat) : Int)) (by unfold fits; (first | lia | omega)) (atS_nat hi2 hc2) ?_
            walk_at "st"
            cases e2 : ((⟨#[c2]⟩ : Str) != Str.ofString "\"") with
            | true =>
              simp only [e2, if_true, Option.some.injEq] at hr
              subst hr
              refine' s_if_t rfl ?_
              walk_at "st"
              refine' hB _ _ ?_
              walk_at "st"
              exact ⟨_, HSub.refl _, hq⟩
            | false =>
              simp only [e2, Bool.false_eq_true, if_false] at hr
              refine' s_if_f rfl ?_
              walk_at "st"
              refine' s_adds (z := d ++ ⟨#[c]⟩) (by show d.length + 1 ≤ sizeLine; exact Nat.le_trans (by (first | lia | omega) : d.length + 1 ≤ 1001) (by decide)) rfl ?_
              walk_at "st"
              exact hN _ _ ⟨k, Nat.lt_succ_self _, rfl, i + 2, d ++ ⟨#[c]⟩, _, rfl, hr, by rw [app_len]; (first | lia | omega)⟩
          · rw [if_neg hi2] at hr
            simp only [Option.some.injEq] at hr
            subst hr
            refine' s_if_t (by simp; (first | lia | omega)) ?_
            refine' s_if_t rfl ?_
            walk_at "st"
            refine' hB _ _ ?_
            walk_at "st"
            exact ⟨_, HSub.refl _, hq⟩
      · rw [if_neg hi] at hr
        simp only [Option.some.injEq] at hr
        subst hr
        refine' s_if_f (by simpa using hi) ?_
        walk_at "st"
        exact ⟨_, HSub.refl _, hq⟩


noncomputable def vI (l : List Int) : List Value := l.map (Value.int · 0)
noncomputable def vS (l : List Str) : List Value := l.map (Value.str · 0)
@[simp] theorem vI_len (l : List Int) : (vI l).length = l.length := by simp [vI]
@[simp] theorem vS_len (l : List Str) : (vS l).length = l.length := by simp [vS]
theorem at_lt {xs : List Value} {j : Int} (h0 : 0 ≤ j) (h1 : j < xs.length) {v : Value} (e : xs[j.toNat]? = some v) : at? xs j = some v := by
  unfold at? seqIndex?
  have e1 : (if j < 0 then j + (xs.length : Int) else j) = j := by rw [if_neg (by (first | lia | omega))]
  simp only [e1]
  have e2 : (decide (0 ≤ j) && decide (j < (xs.length : Int))) = true := by simp; (first | lia | omega)
  rw [if_pos e2]
  exact e
theorem at_ints {ms : List Int} {j : Int} (h0 : 0 ≤ j) (h1 : j < ms.length) : ∃ m, ms[j.toNat]? = some m ∧ at? (vI ms) j = some (.int m 0) := by
  have hlt : j.toNat < ms.length := by (first | lia | omega)
  refine ⟨ms[j.toNat], List.getElem?_eq_getElem hlt, at_lt h0 (by simpa using h1) ?_⟩
  unfold vI
  rw [List.getElem?_map, List.getElem?_eq_getElem hlt]; rfl
section
variable {Q : Value → HA → Ls → Prop} {QU : Unit → HA → Ls → Prop} {H : HA} {L : Ls} {t u : Tok} {i j : Int} {v : Value}
theorem s_range1 (h0 : 0 ≤ i ∧ i ≤ 1048576) (h : ∀ c, H c = none → Q (.ref c) (upd H c (.rng 0 i.toNat)) L) : rangeW [.int i t] Q H L := .inl ⟨_, _, rfl, h0, h⟩
theorem s_range2 (h0 : 0 ≤ i ∧ i ≤ 1048576 ∧ i ≤ j ∧ j - i ≤ 1048576) (h : ∀ c, H c = none → Q (.ref c) (upd H c (.rng i (j - i).toNat)) L) : rangeW [.int i t, .int j u] Q H L := .inr ⟨_, _, _, _, rfl, h0, h⟩
theorem s_setl {a : Addr} {xs : List Value} (e : H a = some (.lst xs)) (f : fits i) (h0 : 0 ≤ i) (h1 : i < xs.length) (h : QU () (upd H a (.lst (xs.set i.toNat v))) L) : setW (.ref a) (.int i t) v QU H L := ⟨f, h0, xs, e, h1, h⟩
theorem s_setd {a : Addr} {es : List (Str × Value)} {ep : Nat} {x : Str} (e : H a = some (.dct es ep)) (f : es.length ≤ 1048575) (h : ∀ ep', QU () (upd H a (.dct (putE es x v) ep')) L) : setW (.ref a) (.str x t) v QU H L := ⟨es, ep, e, f, h⟩
end
theorem rng_get {n i : Nat} {lo : Int} {x : Value} (e : ((List.range n).map fun (i : Nat) => Value.int (lo + (i : Int)) 0)[i]? = some x) : i < n ∧ x = .int (lo + (i : Int)) 0 := by
  rw [List.getElem?_map] at e
  obtain ⟨k, hk, rfl⟩ := Option.map_eq_some_iff.mp e
  have := List.getElem?_eq_some_iff.mp hk
  obtain ⟨h1, h2⟩ := this
  simp at h1 h2
  subst h2
  exact ⟨h1, rfl⟩
theorem none_upd {H : HA} {a b : Addr} {ho : HO} (h : upd H a ho b = none) : H b = none ∧ b ≠ a := by
  by_cases z : b = a
  · subst z; rw [upd_same] at h; cases h
  · rw [upd_ne _ _ z] at h; exact ⟨h, z⟩
noncomputable def T31  : List (Str × NK) := [(Str.ofString "script", NK.slot 0 false), (Str.ofString "numbers", NK.slot 1 false), (Str.ofString "k", NK.slot 2 false), (Str.ofString "range", .glob (.type "range")), (Str.ofString "len", .glob (.builtin "len"))]
noncomputable def G31  : List (Str × Value) := [(Str.ofString "range", .type "range"), (Str.ofString "len", .builtin "len")]
theorem tab31  : fnT (FS 31) (G31 ) = T31  := by kernel_rfl
theorem chk31 : scOk (FS 31) [Str.ofString "script"] = true := by decide +kernel
theorem bind31 {fd : FuncData} (hp : fd.params = FP 31) (hd : fd.defaults = .none) (hk : fd.kwdefaults = .none) (vs : List Value) (hl : vs.length = 1) : bindArgs fd ⟨vs, []⟩ = pure ([Str.ofString "script"].zip vs) := by
  refine by_ng fun ng => ?_
  obtain ⟨a0, rfl⟩ := len1 hl
  obtain ⟨n, q, p, bd, sc, g, cl, df, kd, doc, pm, an, cd, ct, bu⟩ := fd
  refine ng ?_
  clear ng
  subst hp; subst hd; subst hk
  kernel_rfl
theorem ini31 (a0 : Value) : iniOf (FS 31) ([Str.ofString "script"].zip [a0]) = [some a0, none, none] := by kernel_rfl

inductive numbersB (p : Addr) (Q : Value → HA → Ls → Prop) (H : HA) (L : Ls) : Prop
  | mk (its : _) (n : _) (ns : _) (k1 : H p = some (.raw (PySem.W.listOf its n))) (k2 : its.toList.map er = vI ns) (k3 : ns.length ≤ 1000) (k4 : ∀ ms : List Int, ms.length = 9 → newW (.lst (vI ms)) Q H L) : numbersB p Q H L
noncomputable def numbersW : BW := fun vs Q H L => mR (fun p => mN (numbersB p Q H L)) vs
theorem numbers_walk {B : Heap} (hB : Bas B) {n : Nat}   {f : Addr} {fd : FuncData} (Fi : FnIn B f fd (FB 31)) (hsc : fd.scope = FS 31) (hp : fd.params = FP 31) (hg : ∀ g ∈ G31 , GlobOk B fd.globals fd.builtins g.1 g.2) : FnA B (n + 1) f numbersW := by
  have main := fn_ok (n := n) hB Fi (by rw [hsc]; exact chk31) hg (fun C _ vs => bind_args (bind31 hp Fi.dfl Fi.kwd) C vs) (fun C env le room V len0 =>
    have lenC : C.locs.length = 3 := len0.trans (by rw [hsc]; kernel_rfl)
    have V : EnvOk C (T31 ) env := tab_eq (hsc ▸ tab31 ) V
    have S := hB.stat le room
    have hh := room.handled
    (S_cons (S_assign (E_list (E_consts (vs := [.int 5 0, .int 1 0, .int 1 0, .int 6 0, .int 70 0, .int 131 0, .int 185 0, .int 48 0, .int 39 0]) (by kernel_rfl))) (A_cons (A_name V (.tail _ (.head _))) A_nil)) (S_cons (S_for hh S (E_call V (.tail _ (.tail _ (.tail _ (.head _)))) (.inr (.inl ⟨_, rfl⟩)) (E_cons (E_call V (.tail _ (.tail _ (.tail _ (.tail _ (.head _))))) (.inl ⟨_, rfl⟩) (E_cons (E_name V (.head _)) E_nil) b_len) E_nil) b_range) (A_name V (.tail _ (.tail _ (.head _)))) (S_cons (S_aug_sub (E_name V (.tail _ (.head _))) (E_bin (E_name V (.tail _ (.tail _ (.head _)))) (E_const _ _ _)) (E_sub (E_name V (.head _)) (E_name V (.tail _ (.tail _ (.head _)))))) S_nil) S_nil) (S_cons (S_ret (E_name V (.tail _ (.head _)))) S_nil))))
  refine main.spec ?_
  clear main
  rw [hsc]
  intro vs Q H L h
  refine by_ng fun ng => ?_
  obtain ⟨p, r0, rfl, hq0⟩ := mR_inv h
  obtain ⟨rfl, hq1⟩ := mN_inv hq0
  refine ng ?_
  clear ng
  replace h := hq1
  · skip
    refine by_ng fun ng => ?_
    obtain ⟨its, n, ns, hp, hns, hlen, hq⟩ := h
    refine ng ?_
    clear ng
    refine ⟨rfl, ?_⟩
    refine' s_start (ini31 _) ?_
    walk_at "st"
    refine' ⟨by show 9 ≤ sizeLine; decide, fun nl hnl => ?_⟩
    have hpn : p ≠ nl := fun z => by rw [z, hnl] at hp; cases hp
    walk_at "st"
    refine' s_len_r ((upd_ne _ _ hpn).trans hp) hns (by simp; (first | lia | omega)) ?_
    walk_at "st"
    refine' s_range1 (by simp; (first | lia | omega)) fun ra hra => ?_
    obtain ⟨hra1, hra2⟩ := none_upd hra
    have hpr : p ≠ ra := fun z => by rw [z, hra1] at hp; cases hp
    walk_at "st"
    refine' s_for (k := .rng 0 _) (xs := _) (fun i H' L' => HSub H H' ∧ H' p = some (.raw (PySem.W.listOf its n)) ∧ H' ra = some (.rng 0 ((vI ns).length : Int).toNat) ∧ (∃ ms : List Int, ms.length = 9 ∧ H' nl = some (.lst (vI ms)) ∧ HSub (upd H nl (.lst (vI ms))) H') ∧ ∃ cv, L' = [some (.ref p), some (.ref nl), cv]) (.rng (upd_same _ _ _)) ?_ ?_
    · refine ⟨((HSub.refl H).upd hnl).upd hra1, ((upd_ne _ _ hpr).trans (upd_ne _ _ hpn)).trans hp, upd_same _ _ _, ⟨[5, 1, 1, 6, 70, 131, 185, 48, 39], rfl, (upd_ne _ _ (Ne.symm hra2)).trans (upd_same _ _ _), ?_⟩, none, rfl⟩
      exact (HSub.refl _).upd hra
    · intro i H' L' rr19
      refine by_ng fun ng => ?_
      obtain ⟨hs, hp', hr', ⟨ms, hms, hnl', hsub⟩, cv, rfl⟩ := rr19
      refine ng ?_
      clear ng
      refine ⟨.rng hr', fun e => ?_, fun x e QN hN hC => ?_⟩
      · walk_at "st"
        exact ⟨_, hsub, hq ms hms nl hnl⟩
      · obtain ⟨hi, rfl⟩ := rng_get e
        have hi' : i < ns.length := by simpa using hi
        walk_at "st"
        refine' s_mod (by decide) ?_
        walk_at "st"
        have m0 : 0 ≤ (0 + (i : Int)).fmod 9 := by rw [Int.fmod_eq_emod_of_nonneg _ (by decide)]; (first | lia | omega)
        have m1 : (0 + (i : Int)).fmod 9 < 9 := by rw [Int.fmod_eq_emod_of_nonneg _ (by decide)]; (first | lia | omega)
        generalize (0 + (i : Int)).fmod 9 = j at m0 m1
        refine by_ng fun ng => ?_
        obtain ⟨m, hm, ha⟩ := at_ints (ms := ms) (j := j) m0 (by (first | lia | omega))
        obtain ⟨q, hq', hb⟩ := at_ints (ms := ns) (j := 0 + (i : Int)) (by (first | lia | omega)) (by (first | lia | omega))
        refine ng ?_
        clear ng
        refine' s_list hnl' (by unfold fits; (first | lia | omega)) ha ?_
        walk_at "st"
        refine' s_raw hp' hns (by unfold fits; (first | lia | omega)) hb ?_
        walk_at "st"
        refine' s_setl hnl' (by unfold fits; (first | lia | omega)) m0 (by simp; (first | lia | omega)) ?_
        walk_at "st"
        have hset : (vI ms).set j.toNat (.int (m + q) 0) = vI (ms.set j.toNat (m + q)) := by unfold vI; rw [List.map_set]
        rw [hset]
        refine hN _ _ ⟨hs.upd hnl, (upd_ne _ _ hpn).trans hp', (upd_ne _ _ hra2).trans hr', ⟨ms.set j.toNat (m + q), by simpa using hms, upd_same _ _ _, ?_⟩, _, rfl⟩
        exact hs.both nl _

noncomputable def T32  : List (Str × NK) := [(Str.ofString "numbers", NK.slot 0 false), (Str.ofString "above", NK.slot 1 false), (Str.ofString "texts", NK.slot 2 false), (Str.ofString "k", NK.slot 3 false), (Str.ofString "range", .glob (.type "range"))]
noncomputable def G32  : List (Str × Value) := [(Str.ofString "range", .type "range")]
theorem tab32  : fnT (FS 32) (G32 ) = T32  := by kernel_rfl
theorem chk32 : scOk (FS 32) [Str.ofString "numbers"] = true := by decide +kernel
theorem bind32 {fd : FuncData} (hp : fd.params = FP 32) (hd : fd.defaults = .none) (hk : fd.kwdefaults = .none) (vs : List Value) (hl : vs.length = 1) : bindArgs fd ⟨vs, []⟩ = pure ([Str.ofString "numbers"].zip vs) := by
  refine by_ng fun ng => ?_
  obtain ⟨a0, rfl⟩ := len1 hl
  obtain ⟨n, q, p, bd, sc, g, cl, df, kd, doc, pm, an, cd, ct, bu⟩ := fd
  refine ng ?_
  clear ng
  subst hp; subst hd; subst hk
  kernel_rfl
theorem ini32 (a0 : Value) : iniOf (FS 32) ([Str.ofString "numbers"].zip [a0]) = [some a0, none, none, none] := by kernel_rfl

noncomputable def tx1 : Str := Str.ofString "/\""
structure Tx (a2 a3 : Int) (u2 u3 t2 t3 : Str) : Prop where
  b2 : fits a2
  b3 : fits a3
  g2 : at? [.str Str.empty 0, .str tx1 0] a2 = some (.str u2 0)
  g3 : at? [.str Str.empty 0, .str tx1 0, .str t2 0] a3 = some (.str u3 0)
  l2 : u2.length + (Str.ofString "/").length ≤ sizeLine
  k2 : (u2 ++ Str.ofString "/").length + (Str.ofString "a\"").length ≤ sizeLine
  e2 : u2 ++ Str.ofString "/" ++ Str.ofString "a\"" = t2
  l3 : u3.length + (Str.ofString "/").length ≤ sizeLine
  k3 : (u3 ++ Str.ofString "/").length + (Str.ofString "\"\"").length ≤ sizeLine
  e3 : u3 ++ Str.ofString "/" ++ Str.ofString "\"\"" = t3
inductive foldersB (p : Addr) (Q : Value → HA → Ls → Prop) (H : HA) (L : Ls) : Prop
  | mk (ms : List Int) (k1 : ms.length = 9) (k2 : H p = some (.lst (vI ms))) (t2 t3 : Int → Int → Str) (k3 : (∀ a2 a3, 0 ≤ a2 → a2 < 2 → 0 ≤ a3 → a3 < 3 → ∃ u2 u3, Tx a2 a3 u2 u3 (t2 a2 a3) (t3 a2 a3))) (k4 : ∀ a2 a3, 0 ≤ a2 → a2 < 2 → 0 ≤ a3 → a3 < 3 → ∀ A X c, H A = none → H X = none → H c = none → X ≠ A → c ≠ A → c ≠ X → Q (.ref c) (upd (upd (upd H A (.lst (vI [0, 0, a2, a3]))) X (.lst (vS [Str.empty, tx1, t2 a2 a3, t3 a2 a3]))) c (.tup [.ref A, .ref X])) L) : foldersB p Q H L
noncomputable def foldersW : BW := fun vs Q H L => mR (fun p => mN (foldersB p Q H L)) vs
theorem folders_walk {B : Heap} (hB : Bas B) {n : Nat}   {f : Addr} {fd : FuncData} (Fi : FnIn B f fd (FB 32)) (hsc : fd.scope = FS 32) (hp : fd.params = FP 32) (hg : ∀ g ∈ G32 , GlobOk B fd.globals fd.builtins g.1 g.2) : FnA B (n + 1) f foldersW := by
  have main := fn_ok (n := n) hB Fi (by rw [hsc]; exact chk32) hg (fun C _ vs => bind_args (bind32 hp Fi.dfl Fi.kwd) C vs) (fun C env le room V len0 =>
    have lenC : C.locs.length = 4 := len0.trans (by rw [hsc]; kernel_rfl)
    have V : EnvOk C (T32 ) env := tab_eq (hsc ▸ tab32 ) V
    have S := hB.stat le room
    have hh := room.handled
    (S_cons (S_assign (E_list (E_cons (E_const _ _ _) (E_cons (E_const _ _ _) (E_cons (E_bin (E_sub (E_name V (.head _)) (E_const _ _ _)) (E_const _ _ _)) (E_cons (E_bin (E_sub (E_name V (.head _)) (E_const _ _ _)) (E_const _ _ _)) E_nil))))) (A_cons (A_name V (.tail _ (.head _))) A_nil)) (S_cons (S_assign (E_list (E_cons (E_const _ _ _) E_nil)) (A_cons (A_name V (.tail _ (.tail _ (.head _)))) A_nil)) (S_cons (S_for hh S (E_call V (.tail _ (.tail _ (.tail _ (.tail _ (.head _))))) (.inr (.inl ⟨_, rfl⟩)) (E_cons (E_const _ _ _) (E_cons (E_const _ _ _) E_nil)) b_range) (A_name V (.tail _ (.tail _ (.tail _ (.head _))))) (S_cons (S_expr V.fn (E_meth (E_name V (.tail _ (.tail _ (.head _)))) F.plainAttrs_list F.slot_list_append F.type_list_append (E_cons (E_bin (E_bin (E_sub (E_name V (.tail _ (.tail _ (.head _)))) (E_sub (E_name V (.tail _ (.head _))) (E_name V (.tail _ (.tail _ (.tail _ (.head _))))))) (E_const _ _ _)) (E_sub (E_list (E_consts (vs := [.str (Str.ofString "") 0, .str (Str.ofString "\"") 0, .str (Str.ofString "a\"") 0, .str (Str.ofString "\"\"") 0]) (by kernel_rfl))) (E_name V (.tail _ (.tail _ (.tail _ (.head _))))))) E_nil) b_append)) S_nil) S_nil) (S_cons (S_ret (E_tuple (E_cons (E_name V (.tail _ (.head _))) (E_cons (E_name V (.tail _ (.tail _ (.head _)))) E_nil)))) S_nil)))))
  refine main.spec ?_
  clear main
  rw [hsc]
  intro vs Q H L h
  refine by_ng fun ng => ?_
  obtain ⟨p, r0, rfl, hq0⟩ := mR_inv h
  obtain ⟨rfl, hq1⟩ := mN_inv hq0
  refine ng ?_
  clear ng
  replace h := hq1
  · skip
    refine by_ng fun ng => ?_
    obtain ⟨ms, hlen, hp, t2, t3, htx, hq⟩ := h
    refine ng ?_
    clear ng
    refine ⟨rfl, ?_⟩
    refine' s_start (ini32 _) ?_
    walk_at "st"
    refine by_ng fun ng => ?_
    obtain ⟨m1, _, g1⟩ := at_ints (ms := ms) (j := 1) (by (first | lia | omega)) (by (first | lia | omega))
    obtain ⟨m2, _, g2⟩ := at_ints (ms := ms) (j := 2) (by (first | lia | omega)) (by (first | lia | omega))
    refine ng ?_
    clear ng
    refine' s_list hp (by unfold fits; decide) g1 ?_
    walk_at "st"
    refine' s_mod (by decide) ?_
    walk_at "st"
    refine' s_list hp (by unfold fits; decide) g2 ?_
    walk_at "st"
    refine' s_mod (by decide) ?_
    have x0 : 0 ≤ m1.fmod 2 := by rw [Int.fmod_eq_emod_of_nonneg _ (by decide)]; (first | lia | omega)
    have x1 : m1.fmod 2 < 2 := by rw [Int.fmod_eq_emod_of_nonneg _ (by decide)]; (first | lia | omega)
    have y0 : 0 ≤ m2.fmod 3 := by rw [Int.fmod_eq_emod_of_nonneg _ (by decide)]; (first | lia | omega)
    have y1 : m2.fmod 3 < 3 := by rw [Int.fmod_eq_emod_of_nonneg _ (by decide)]; (first | lia | omega)
    generalize m1.fmod 2 = a2 at x0 x1
    generalize m2.fmod 3 = a3 at y0 y1
    obtain ⟨u2, u3, N⟩ := htx a2 a3 x0 x1 y0 y1
    refine' ⟨by show 4 ≤ sizeLine; decide, fun A hA => ?_⟩
    walk_at "st"
    refine' ⟨by show 1 ≤ sizeLine; decide, fun X hX => ?_⟩
    obtain ⟨hX1, hX2⟩ := none_upd hX
    walk_at "st"
    refine' s_range2 (by decide) fun ra hra => ?_
    obtain ⟨hra1, hra2⟩ := none_upd hra
    obtain ⟨hra3, hra4⟩ := none_upd hra1
    walk_at "st"
    refine' s_for (k := .rng 1 3) (xs := _) (fun i H' L' => HSub (upd (upd H A (.lst (vI [0, 0, a2, a3]))) X (.lst (vS ([Str.empty, tx1, t2 a2 a3, t3 a2 a3].take (i + 1))))) H' ∧ H' ra = some (.rng 1 3) ∧ ∃ cv, L' = [some (.ref p), some (.ref A), some (.ref X), cv]) (.rng (upd_same _ _ _)) ?_ ?_
    · exact ⟨(HSub.refl _).upd hra, upd_same _ _ _, none, rfl⟩
    · intro i H' L' rr20
      refine by_ng fun ng => ?_
      obtain ⟨hs, hr', cv, rfl⟩ := rr20
      refine ng ?_
      clear ng
      refine ⟨.rng hr', fun e => ?_, fun x e QN hN hC => ?_⟩
      · have hi : 3 ≤ i := by
          rw [List.getElem?_map, Option.map_eq_none_iff, List.getElem?_eq_none_iff] at e; simpa using e
        rw [List.take_of_length_le (by simp; (first | lia | omega))] at hs
        walk_at "st"
        refine' ⟨by show 2 ≤ sizeLine; decide, fun c hc => ?_⟩
        walk_at "st"
        have hc' : upd (upd H A (.lst (vI [0, 0, a2, a3]))) X (.lst (vS [Str.empty, tx1, t2 a2 a3, t3 a2 a3])) c = none := by
          cases q : upd (upd H A (.lst (vI [0, 0, a2, a3]))) X (.lst (vS [Str.empty, tx1, t2 a2 a3, t3 a2 a3])) c with
          | none => rfl
          | some ho => have := hs _ _ q; rw [hc] at this; cases this
        obtain ⟨c1, c2⟩ := none_upd hc'
        obtain ⟨c3, c4⟩ := none_upd c1
        exact ⟨_, hs.both c _, hq a2 a3 x0 x1 y0 y1 A X c hA hX1 c3 hX2 c4 c2⟩
      · obtain ⟨hi, rfl⟩ := rng_get e
        have hAv : H' A = some (.lst (vI [0, 0, a2, a3])) := hs _ _ ((upd_ne _ _ (Ne.symm hX2)).trans (upd_same _ _ _))
        have hXv := hs _ _ (upd_same _ _ _)
        have hup : ∀ H'' t, HSub H' H'' → vS ([Str.empty, tx1, t2 a2 a3, t3 a2 a3].take (i + 1)) ++ [.str t 0] = vS ([Str.empty, tx1, t2 a2 a3, t3 a2 a3].take (i + 1 + 1)) → HSub (upd (upd H A (.lst (vI [0, 0, a2, a3]))) X (.lst (vS ([Str.empty, tx1, t2 a2 a3, t3 a2 a3].take (i + 1 + 1))))) (upd H'' X (.lst (vS ([Str.empty, tx1, t2 a2 a3, t3 a2 a3].take (i + 1)) ++ [.str t 0]))) := fun H'' t hh et => by
          rw [et]
          intro b ho q
          by_cases z : b = X
          · subst z; rw [upd_same] at q ⊢; exact q
          · rw [upd_ne _ _ z] at q ⊢; exact hh b ho (hs b ho (by rw [upd_ne _ _ z]; exact q))
        walk_at "st"
        refine' s_meth_l hXv ?_
        walk_at "st"
        have hi3 : i = 0 ∨ i = 1 ∨ i = 2 := by (first | lia | omega)
        rcases hi3 with rfl | rfl | rfl
        · refine' s_list hAv (by unfold fits; decide) rfl ?_
          refine' s_list hXv (by unfold fits; decide) rfl ?_
          walk_at "st"
          refine' s_adds (by decide) rfl ?_
          walk_at "st"
          refine' ⟨by show 4 ≤ sizeLine; decide, fun nl hnl => ?_⟩
          walk_at "st"
          refine' s_list (upd_same _ _ _) (by unfold fits; decide) rfl ?_
          refine' s_adds (z := tx1) (by decide) (by decide) ?_
          have hXn : X ≠ nl := fun z => by rw [z, hnl] at hXv; cases hXv
          have hrn : ra ≠ nl := fun z => by rw [z, hnl] at hr'; cases hr'
          refine' s_append ((upd_ne _ _ hXn).trans hXv) (by simp) ?_
          walk_at "st"
          exact hN _ _ ⟨hup _ _ ((HSub.refl H').upd hnl) rfl, (upd_ne _ _ hra2).trans ((upd_ne _ _ hrn).trans hr'), _, rfl⟩
        · refine' s_list hAv (by unfold fits; decide) rfl ?_
          refine' s_list hXv N.b2 N.g2 ?_
          walk_at "st"
          refine' s_adds N.l2 rfl ?_
          walk_at "st"
          refine' ⟨by show 4 ≤ sizeLine; decide, fun nl hnl => ?_⟩
          walk_at "st"
          refine' s_list (upd_same _ _ _) (by unfold fits; decide) rfl ?_
          refine' s_adds (z := t2 a2 a3) N.k2 N.e2 ?_
          have hXn : X ≠ nl := fun z => by rw [z, hnl] at hXv; cases hXv
          have hrn : ra ≠ nl := fun z => by rw [z, hnl] at hr'; cases hr'
          refine' s_append ((upd_ne _ _ hXn).trans hXv) (by simp) ?_
          walk_at "st"
          exact hN _ _ ⟨hup _ _ ((HSub.refl H').upd hnl) rfl, (upd_ne _ _ hra2).trans ((upd_ne _ _ hrn).trans hr'), _, rfl⟩
        · refine' s_list hAv (by unfold fits; decide) rfl ?_
          refine' s_list hXv N.b3 N.g3 ?_
          walk_at "st"
          refine' s_adds N.l3 rfl ?_
          walk_at "st"
          refine' ⟨by show 4 ≤ sizeLine; decide, fun nl hnl => ?_⟩
          walk_at "st"
          refine' s_list (upd_same _ _ _) (by unfold fits; decide) rfl ?_
          refine' s_adds (z := t3 a2 a3) N.k3 N.e3 ?_
          have hXn : X ≠ nl := fun z => by rw [z, hnl] at hXv; cases hXv
          have hrn : ra ≠ nl := fun z => by rw [z, hnl] at hr'; cases hr'
          refine' s_append ((upd_ne _ _ hXn).trans hXv) (by simp) ?_
          walk_at "st"
          exact hN _ _ ⟨hup _ _ ((HSub.refl H').upd hnl) rfl, (upd_ne _ _ hra2).trans ((upd_ne _ _ hrn).trans hr'), _, rfl⟩


section
variable {C : Ctx} {env : Env} {T : List (Str × NK)}
theorem swapped_two {a b : Str} {pa pb : Pos} {k k2 : Nat} {p1 p2 : Pos} {e1 e2 : PySem.Expr} (hf : env.scope.kind = .function) (ha : env.kindOf a = some .local) (hb : env.kindOf b = some .local) (hl : (pb.line == pa.line) = true) (hne : ([a, b].eraseDups.length != 2) = false)
    (h1 : ([e1, e2].any fun | .Starred .. => true | _ => false) = false) (h2 : [e1, e2].all (foldedForSure 8) = false) (h3 : [e1, e2].all (constantsAlone 8) = false) :
    swappedStores [.Tuple [.Name a pa, .Name b pb] k p1] (.Tuple [e1, e2] k2 p2) env = pure (some [a, b]) := by
  unfold swappedStores
  have hbk : (env.blockKind != .function) = false := by unfold Env.blockKind; rw [hf]; rfl
  simp only [List.length_cons, List.length_nil, hbk, List.filterMap_cons, List.filterMap_nil, ha, hb, List.head?_cons, Option.map_some, Option.getD_some]
  simp only [PySem.Expr.pos, hl, h1, h2, h3]
  simp [hne, hl]
  intro hor
  exfalso
  simp only [List.any_cons, List.any_nil, Bool.or_false, Bool.or_eq_false_iff] at h1
  rcases hor with h | h
  · exact absurd (h.symm.trans h1.1) (by decide)
  · exact absurd (h.symm.trans h1.2) (by decide)
noncomputable def swapW (ya yb : Value → W Unit) (v : Value) : W Flow := fun Q H L => ∃ r x y, v = .ref r ∧ H r = some (.tup [x, y]) ∧ yb y (fun _ => ya x fun _ => nextW Q) H L
theorem S_swap (hh : C.A.handled = none) (V : EnvOk C T env) {a b : Str} {i j : Nat} {pa pb : Pos} {k k2 : Nat} {p1 p2 p : Pos} {e1 e2 : PySem.Expr} {w : W Value} (hx : OkAV C (eval (.Tuple [e1, e2] k2 p2) env) w)
    (ha : (a, NK.slot i false) ∈ T) (hb : (b, NK.slot j false) ∈ T) (hl : (pb.line == pa.line) = true := by rfl) (hne : ([a, b].eraseDups.length != 2) = false := by decide)
    (h1 : ([e1, e2].any fun | .Starred .. => true | _ => false) = false := by rfl) (h2 : [e1, e2].all (foldedForSure 8) = false := by rfl) (h3 : [e1, e2].all (constantsAlone 8) = false := by rfl) :
    OkAF C (exec (.Assign [.Tuple [.Name a pa, .Name b pb] k p1] (.Tuple [e1, e2] k2 p2) p) env) (fun Q => w fun v => swapW (storeW (.slot i false)) (storeW (.slot j false)) v Q) := by
  rw [arm_exec_Assign]
  refine OkA.stand ?_
  have hs : swapsWithSole [.Tuple [.Name a pa, .Name b pb] k p1] (.Tuple [e1, e2] k2 p2) p.line env = pure false := rfl
  rw [hs, swapped_two V.fn (V.nm _ _ ha).1 (V.nm _ _ hb).1 hl hne h1 h2 h3]
  show OkAF C (eval (.Tuple [e1, e2] k2 p2) env >>= fun v => assignStores env v (some [a, b]) ((assignEach [.Tuple [.Name a pa, .Name b pb] k p1] env).map (·.2))) _
  refine OkA.bind (y := fun v Q => swapW (storeW (.slot i false)) (storeW (.slot j false)) v Q) hx fun v => ?_
  unfold assignStores
  refine OkA.mk fun P hP s H L Q tk r rr21 => ?_
  refine by_ng fun ng => ?_
  obtain ⟨q, x, y, hv, hH, hk⟩ := rr21
  refine ng ?_
  clear ng
  cases er_ref hv
  refine by_ng fun ng => ?_
  obtain ⟨_, its, n, ho, hx'⟩ := r.hp _ _ hH
  refine ng ?_
  clear ng
  refine wpAny_bind (wpAny_rule ?_)
  have hsz : its.size = 2 := by
    have : (its.toList.map er).length = 2 := by rw [hx']; rfl
    simpa using this
  refine by_ng fun ng => ?_
  obtain ⟨x', l, e1', hx1, hx'⟩ := map_cons_inv hx'
  obtain ⟨y', l, rfl, hy1, hx'⟩ := map_cons_inv hx'
  refine ng ?_
  clear ng
  cases map_nil_inv hx'
  have step : wpAny (model (C.at P).prog (C.at P).w) (C.at P).A (unpackItems (.ref q) its.size none) (fun items s' => items = [x', y'] ∧ Rep (C.at P) s'.heap H L ∧ Oth s s') NoE s :=
    wpAny_unpackItems_tuple hh (tupOf_is ho) fun h' hs => ⟨e1', r.ext hs r.pfresh r.fresh (fun l hl => Nat.ne_of_lt (r.lsize hl)) r.dfresh, ⟨rfl, rfl, rfl⟩⟩
  rw [hsz] at step
  refine wpAny_bind (wpAny_with_toks (n := 0) tk (wpAny_mono step (fun items s₁ rr22 t₁ => ?_) fun _ _ z => z.elim))
  obtain ⟨hi, r₁, o₁⟩ := rr22
  subst hi
  have two : OkAU C (assignInOrder [fun v => bindName env b v, fun v => bindName env a v] [y', x']) (fun Q => storeW (.slot j false) (er y') fun _ => storeW (.slot i false) (er x') Q) := by
    simp only [assignInOrder]
    refine OkA.weaken (OkA.bind (e := fun u : Unit => u) (y := fun _ Q => storeW (.slot i false) (er x') Q) (OkA.holding (OkA.mk fun P hP => bind_ok (V.at hP) hb y')) fun _ =>
      OkA.bind (e := fun u : Unit => u) (y := fun _ Q => Q ()) (OkA.holding (OkA.mk fun P hP => bind_ok (V.at hP) ha x')) fun _ => OkA.ret ()) fun Q H L q => q
  have full := OkA.bind (f := fun _ => (pure .next : Sem Flow)) (e' := erF) (y := fun _ Q => nextW Q) two fun _ => OkA.ret _
  refine wpAny_mono (full.ok P hP s₁ H L Q t₁ r₁ (by rw [hx1, hy1]; exact hk)) (fun f s₂ p => p.from o₁) fun _ _ z => z
noncomputable def replW (y z : Str) (v : Value) : W Value := fun Q H L => ∃ x t, v = .str x t ∧ (y == z) = false ∧ x.length ≤ 4096 ∧ z.length ≤ 14 ∧ Q (.str (Txt.replace x y z) 0) H L
theorem replace_pos {o : PySem.Expr} {apos pos q1 q2 : Pos} {k1 k2 : Nat} {y z : Str} {w : W Value} (ho : OkAV C (eval o env) w) {P : Heap} (hP : HLe C.P P) {s : Shared} {H : HA} {L : Ls} {Q : Value → HA → Ls → Prop} (tk : 1 ≤ s.toks) (r : Rep (C.at P) s.heap H L) (e : w (fun v => replW y z v Q) H L)
    (hbase : attributeBase o (Str.ofString "replace") env (eval o env) = eval o env) (hline : (apos.endLine == pos.line) = true) :
    wpAny (model (C.at P).prog (C.at P).w) (C.at P).A (eval (.Call (.Attribute o (Str.ofString "replace") apos) [.Constant (.str y) k1 q1, .Constant (.str z) k2 q2] [] pos) env) (fun v => Post (C.at P) s Q (er v)) NoE s := by
  refine PySem.wpAny_Call_method hbase rfl hline F.plainAttrs_str F.slot_str_replace F.type_str_replace (wpAny_with_toks (n := 1) tk (wpAny_mono (ho.ok P hP s H L _ (Nat.zero_le _) r e) (fun v s₁ rr23 t₁ => ?_) fun _ _ q => q.elim))
  refine by_ng fun ng => ?_
  obtain ⟨o₁, H₁, L₁, r₁, x, t, hv, h1, h2, h3, hq⟩ := rr23
  obtain ⟨t', rfl⟩ := er_str hv
  refine ng ?_
  clear ng
  refine ⟨typeIs_str _ _ _, fun _ z => (nomatch z), callWith_builtin rfl (evalArgs_lone rfl ?_)⟩
  show wpAny _ _ (spliced [(false, eval (.Constant (.str y) k1 q1) env), (false, eval (.Constant (.str z) k2 q2) env)]) _ _ s₁
  refine Calls.spliced_cons (Calls.Constant_str (Calls.spliced_cons (Calls.Constant_str (Calls.spliced_nil ?_))))
  have hu : s₁.toks ≠ 0 := Nat.ne_of_gt t₁
  exact SC.replaceW hu (Nat.succ_ne_zero _) (Nat.ne_of_lt (Nat.lt_succ_self _)) h1 (Nat.le_trans h2 (by decide)) h3 fun t'' k => ⟨o₁.trans ⟨rfl, rfl, rfl⟩, H₁, L₁, r₁, hq⟩
theorem E_addReplace {o : PySem.Expr} {apos pos q0 q1 q2 p : Pos} {k0 k1 k2 : Nat} {x0 y z : Str} {w : W Value} (ho : OkAV C (eval o env) w)
    (hbase : attributeBase o (Str.ofString "replace") env (eval o env) = eval o env := by rfl) (hline : (apos.endLine == pos.line) = true := by rfl) :
    OkAV C (eval (.BinOp (.Constant (.str x0) k0 q0) .Add (.Call (.Attribute o (Str.ofString "replace") apos) [.Constant (.str y) k1 q1, .Constant (.str z) k2 q2] [] pos) p) env) (fun Q => constW (.str x0) fun a => w fun v => replW y z v fun b => binW .Add a b Q) := OkA.mk fun P hP s H L Q tk r e => by
  rw [arm_eval_BinOp]
  refine wpAny_bind (Calls.Constant_str ?_)
  refine wpAny_bind (wpAny_holding (wpAny_mono (replace_pos (s := { s with toks := s.toks + 1 }) (Q := fun b => binW .Add (.str x0 0) b Q) ho hP (Nat.succ_pos _) r e hbase hline) (fun b s₁ rr24 => ?_) fun _ _ q => q.elim))
  refine by_ng fun ng => ?_
  obtain ⟨o₁, H₁, L₁, r₁, e₁⟩ := rr24
  refine ng ?_
  clear ng
  have B : OkAV C (do standAt p; PySem.operate [.str x0 s.toks, b] (binaryOp .Add (.str x0 s.toks) b)) (binW .Add (er (.str x0 s.toks)) (er b)) := OkA.stand (OkA.operate <| OkA.mk fun P h => bin_ok .Add (.str x0 s.toks) b)
  exact wpAny_mono (B.ok P hP s₁ H₁ L₁ Q (Nat.zero_le _) r₁ e₁) (fun v s₂ p => p.from (Oth.trans ⟨rfl, rfl, rfl⟩ o₁)) fun _ _ q => q
end

noncomputable def T33  : List (Str × NK) := [(Str.ofString "numbers", NK.slot 0 false), (Str.ofString "texts", NK.slot 1 false), (Str.ofString "drawn", NK.slot 2 false), (Str.ofString "k", NK.slot 3 false), (Str.ofString "number", NK.slot 4 false), (Str.ofString "place", NK.slot 5 false), (Str.ofString "owner", NK.slot 6 false), (Str.ofString "sign", NK.slot 7 false), (Str.ofString "turn", NK.slot 8 false), (Str.ofString "crooked", NK.slot 9 false), (Str.ofString "named", NK.slot 10 false), (Str.ofString "owned", NK.slot 11 false), (Str.ofString "range", .glob (.type "range")), (Str.ofString "str", .glob (.type "str"))]
noncomputable def G33  : List (Str × Value) := [(Str.ofString "range", .type "range"), (Str.ofString "str", .type "str")]
theorem tab33  : fnT (FS 33) (G33 ) = T33  := by kernel_rfl
theorem chk33 : scOk (FS 33) [Str.ofString "numbers", Str.ofString "texts"] = true := by decide +kernel
theorem bind33 {fd : FuncData} (hp : fd.params = FP 33) (hd : fd.defaults = .none) (hk : fd.kwdefaults = .none) (vs : List Value) (hl : vs.length = 2) : bindArgs fd ⟨vs, []⟩ = pure ([Str.ofString "numbers", Str.ofString "texts"].zip vs) := by
  refine by_ng fun ng => ?_
  obtain ⟨a0, a1, rfl⟩ := len2 hl
  obtain ⟨n, q, p, bd, sc, g, cl, df, kd, doc, pm, an, cd, ct, bu⟩ := fd
  refine ng ?_
  clear ng
  subst hp; subst hd; subst hk
  kernel_rfl
theorem ini33 (a0  a1 : Value) : iniOf (FS 33) ([Str.ofString "numbers", Str.ofString "texts"].zip [a0, a1]) = [some a0, some a1, none, none, none, none, none, none, none, none, none, none] := by kernel_rfl

noncomputable def owns : List Int := [0, 7, 40]
noncomputable def signs : Str := Str.ofString "|/\"("
noncomputable def turns : List Str := [Str.ofString "/", Str.ofString "//", Str.ofString "/./", Str.ofString "/q/../"]
noncomputable def letters : Str := Str.ofString "uvwxyz"
noncomputable def crk (t tn : Str) (l : Nat) : Str := Str.ofString "." ++ t ++ tn ++ ⟨#[l]⟩
noncomputable def nmd (t tn : Str) (l : Nat) : Str := Str.ofString "257 \"" ++ Txt.replace (crk t tn l) (Str.ofString "\"") (Str.ofString "\"\"") ++ Str.ofString "\" is there"
noncomputable def owd (c : Nat) (o : Int) : Str := Str.ofString "229 It is of (" ++ mulS ⟨#[c]⟩ 3 ++ Str.ofString (toString o) ++ ⟨#[c]⟩ ++ Str.ofString ")"
structure TGood (ts : List Str) : Prop where
  len : ts.length = 4
  ok : ∀ t ∈ ts, ∀ tn ∈ turns, ∀ (k l : Nat), k < 6 → atS? letters (k : Int) = some l → t.length ≤ 100 ∧ tn.length ≤ 100 ∧ (Txt.replace (crk t tn l) (Str.ofString "\"") (Str.ofString "\"\"")).length ≤ 1000
theorem slen (x y : Str) : (x ++ y).length = x.length + y.length := by
  show (x.cps ++ y.cps).size = _
  simp; rfl
theorem fit_line {n : Nat} (h : n ≤ 5000) : n ≤ sizeLine := Nat.le_trans h (by decide)
/-- one drawn file -/
structure Drw (ts : List Str) (H : HA) (k : Nat) (r : Addr) (pl : Nat) (o : Int) : Prop where
  h1 : pl < 4
  h2 : o ∈ owns
  ex : ∃ t tn l c, ts[pl]? = some t ∧ tn ∈ turns ∧ atS? letters k = some l ∧ (∃ j : Nat, j < 4 ∧ atS? signs j = some c) ∧ H r = some (.tup [.int pl 0, .int o 0, .str (nmd t tn l) 0, .str (owd c o) 0])
inductive drawnB (p : Addr) (q : Addr) (Q : Value → HA → Ls → Prop) (H : HA) (L : Ls) : Prop
  | mk (ms : _) (ts : _) (k1 : ms.length = 9) (k2 : H p = some (.lst (vI ms))) (k3 : H q = some (.lst (vS ts))) (k4 : TGood ts) (k5 : ∀ D H' (rs : List Addr), H D = none → HSub H H' → H' D = some (.lst (rs.map Value.ref)) → rs.length = 6 → (∀ k r, rs[k]? = some r → H r = none ∧ ∃ pl o, Drw ts H' k r pl o) → Q (.ref D) H' L) : drawnB p q Q H L
noncomputable def drawnW : BW := fun vs Q H L => mR (fun p => mR (fun q => mN (drawnB p q Q H L))) vs
theorem drawn_walk {B : Heap} (hB : Bas B) {n : Nat}   {f : Addr} {fd : FuncData} (Fi : FnIn B f fd (FB 33)) (hsc : fd.scope = FS 33) (hp : fd.params = FP 33) (hg : ∀ g ∈ G33 , GlobOk B fd.globals fd.builtins g.1 g.2) : FnA B (n + 1) f drawnW := by
  have main := fn_ok (n := n) hB Fi (by rw [hsc]; exact chk33) hg (fun C _ vs => bind_args (bind33 hp Fi.dfl Fi.kwd) C vs) (fun C env le room V len0 =>
    have lenC : C.locs.length = 12 := len0.trans (by rw [hsc]; kernel_rfl)
    have V : EnvOk C (T33 ) env := tab_eq (hsc ▸ tab33 ) V
    have S := hB.stat le room
    have hh := room.handled
    (S_cons (S_assign (E_list E_nil) (A_cons (A_name V (.tail _ (.tail _ (.head _)))) A_nil)) (S_cons (S_for hh S (E_call V (.tail _ (.tail _ (.tail _ (.tail _ (.tail _ (.tail _ (.tail _ (.tail _ (.tail _ (.tail _ (.tail _ (.tail _ (.head _))))))))))))) (.inr (.inl ⟨_, rfl⟩)) (E_cons (E_const _ _ _) E_nil) b_range) (A_name V (.tail _ (.tail _ (.tail _ (.head _))))) (S_cons (S_assign (E_sub (E_name V (.head _)) (E_bin (E_name V (.tail _ (.tail _ (.tail _ (.head _))))) (E_const _ _ _))) (A_cons (A_name V (.tail _ (.tail _ (.tail _ (.tail _ (.head _)))))) A_nil)) (S_cons (S_swap hh V (E_tuple (E_cons (E_bin (E_name V (.tail _ (.tail _ (.tail _ (.tail _ (.head _)))))) (E_const _ _ _)) (E_cons (E_sub (E_list (E_consts (vs := [.int 0 0, .int 7 0, .int 40 0]) (by kernel_rfl))) (E_bin (E_bin (E_name V (.tail _ (.tail _ (.tail _ (.tail _ (.head _)))))) (E_const _ _ _)) (E_const _ _ _))) E_nil))) (.tail _ (.tail _ (.tail _ (.tail _ (.tail _ (.head _)))))) (.tail _ (.tail _ (.tail _ (.tail _ (.tail _ (.tail _ (.head _)))))))) (S_cons (S_swap hh V (E_tuple (E_cons (E_sub (E_const _ _ _) (E_bin (E_bin (E_name V (.tail _ (.tail _ (.tail _ (.tail _ (.head _)))))) (E_const _ _ _)) (E_const _ _ _))) (E_cons (E_sub (E_list (E_consts (vs := [.str (Str.ofString "/") 0, .str (Str.ofString "//") 0, .str (Str.ofString "/./") 0, .str (Str.ofString "/q/../") 0]) (by kernel_rfl))) (E_bin (E_bin (E_name V (.tail _ (.tail _ (.tail _ (.tail _ (.head _)))))) (E_const _ _ _)) (E_const _ _ _))) E_nil))) (.tail _ (.tail _ (.tail _ (.tail _ (.tail _ (.tail _ (.tail _ (.head _)))))))) (.tail _ (.tail _ (.tail _ (.tail _ (.tail _ (.tail _ (.tail _ (.tail _ (.head _)))))))))) (S_cons (S_assign (E_bin (E_bin (E_bin (E_const _ _ _) (E_sub (E_name V (.tail _ (.head _))) (E_name V (.tail _ (.tail _ (.tail _ (.tail _ (.tail _ (.head _))))))))) (E_name V (.tail _ (.tail _ (.tail _ (.tail _ (.tail _ (.tail _ (.tail _ (.tail _ (.head _))))))))))) (E_sub (E_const _ _ _) (E_name V (.tail _ (.tail _ (.tail _ (.head _))))))) (A_cons (A_name V (.tail _ (.tail _ (.tail _ (.tail _ (.tail _ (.tail _ (.tail _ (.tail _ (.tail _ (.head _))))))))))) A_nil)) (S_cons (S_assign (E_bin (E_addReplace (E_name V (.tail _ (.tail _ (.tail _ (.tail _ (.tail _ (.tail _ (.tail _ (.tail _ (.tail _ (.head _)))))))))))) (E_const _ _ _)) (A_cons (A_name V (.tail _ (.tail _ (.tail _ (.tail _ (.tail _ (.tail _ (.tail _ (.tail _ (.tail _ (.tail _ (.head _)))))))))))) A_nil)) (S_cons (S_assign (E_bin (E_bin (E_bin (E_bin (E_const _ _ _) (E_bin (E_name V (.tail _ (.tail _ (.tail _ (.tail _ (.tail _ (.tail _ (.tail _ (.head _))))))))) (E_const _ _ _))) (E_call V (.tail _ (.tail _ (.tail _ (.tail _ (.tail _ (.tail _ (.tail _ (.tail _ (.tail _ (.tail _ (.tail _ (.tail _ (.tail _ (.head _)))))))))))))) (.inr (.inl ⟨_, rfl⟩)) (E_cons (E_name V (.tail _ (.tail _ (.tail _ (.tail _ (.tail _ (.tail _ (.head _)))))))) E_nil) b_str)) (E_name V (.tail _ (.tail _ (.tail _ (.tail _ (.tail _ (.tail _ (.tail _ (.head _)))))))))) (E_const _ _ _)) (A_cons (A_name V (.tail _ (.tail _ (.tail _ (.tail _ (.tail _ (.tail _ (.tail _ (.tail _ (.tail _ (.tail _ (.tail _ (.head _))))))))))))) A_nil)) (S_cons (S_expr V.fn (E_meth (E_name V (.tail _ (.tail _ (.head _)))) F.plainAttrs_list F.slot_list_append F.type_list_append (E_cons (E_tuple (E_cons (E_name V (.tail _ (.tail _ (.tail _ (.tail _ (.tail _ (.head _))))))) (E_cons (E_name V (.tail _ (.tail _ (.tail _ (.tail _ (.tail _ (.tail _ (.head _)))))))) (E_cons (E_name V (.tail _ (.tail _ (.tail _ (.tail _ (.tail _ (.tail _ (.tail _ (.tail _ (.tail _ (.tail _ (.head _)))))))))))) (E_cons (E_name V (.tail _ (.tail _ (.tail _ (.tail _ (.tail _ (.tail _ (.tail _ (.tail _ (.tail _ (.tail _ (.tail _ (.head _))))))))))))) E_nil))))) E_nil) b_append)) S_nil))))))) S_nil) (S_cons (S_ret (E_name V (.tail _ (.tail _ (.head _))))) S_nil))))
  refine main.spec ?_
  clear main
  rw [hsc]
  intro vs Q H L h
  refine by_ng fun ng => ?_
  obtain ⟨p, r0, rfl, hq0⟩ := mR_inv h
  obtain ⟨q, r1, rfl, hq1⟩ := mR_inv hq0
  obtain ⟨rfl, hq2⟩ := mN_inv hq1
  refine ng ?_
  clear ng
  replace h := hq2
  · skip
    refine by_ng fun ng => ?_
    obtain ⟨ms, ts, hlen, hp, hq', hG, hq⟩ := h
    refine ng ?_
    clear ng
    refine ⟨rfl, ?_⟩
    refine' s_start (ini33 _ _) ?_
    walk_at "st"
    refine' ⟨by show 0 ≤ sizeLine; decide, fun D hD => ?_⟩
    walk_at "st"
    refine' s_range1 (by decide) fun ra hra => ?_
    obtain ⟨hra1, hra2⟩ := none_upd hra
    walk_at "st"
    refine' s_for (k := .rng 0 6) (xs := _) (fun i H' L' => HSub (upd H ra (.rng 0 6)) H' ∧ i ≤ 6 ∧ (∃ rs : List Addr, rs.length = i ∧ H' D = some (.lst (rs.map Value.ref)) ∧ ∀ k r, rs[k]? = some r → H r = none ∧ ∃ pl o, Drw ts H' k r pl o) ∧ ∃ c1 c2 c3 c4 c5 c6 c7 c8 c9, L' = [some (.ref p), some (.ref q), some (.ref D), c1, c2, c3, c4, c5, c6, c7, c8, c9]) (.rng (upd_same _ _ _)) ?_ ?_
    · refine ⟨?_, Nat.zero_le _, ⟨[], rfl, (upd_ne _ _ (Ne.symm hra2)).trans (upd_same _ _ _), fun k r e => by cases k <;> cases e⟩, none, none, none, none, none, none, none, none, none, rfl⟩
      exact ((HSub.refl H).upd hD).both ra _
    · intro i H' L' rr25
      refine by_ng fun ng => ?_
      obtain ⟨hs, hi6, ⟨rs, hrl, hDv, hrs⟩, c1, c2, c3, c4, c5, c6, c7, c8, c9, rfl⟩ := rr25
      refine ng ?_
      clear ng
      have hr' := hs _ _ (upd_same _ _ _)
      have hp' : H' p = some (.lst (vI ms)) := hs _ _ ((upd_ne _ _ fun z => by rw [z, hra1] at hp; cases hp).trans hp)
      have hqv : H' q = some (.lst (vS ts)) := hs _ _ ((upd_ne _ _ fun z => by rw [z, hra1] at hq'; cases hq').trans hq')
      have hHs : HSub H H' := ((HSub.refl H).upd hra1).trans hs
      refine ⟨.rng hr', fun e => ?_, fun x e QN hN hC => ?_⟩
      · have hi : 6 ≤ i := by
          rw [List.getElem?_map, Option.map_eq_none_iff, List.getElem?_eq_none_iff] at e; simpa using e
        walk_at "st"
        exact ⟨H', HSub.refl _, hq D H' rs hD hHs hDv (by (first | lia | omega)) hrs⟩
      · obtain ⟨hi, rfl⟩ := rng_get e
        walk_at "st"
        obtain ⟨nm, _, gn⟩ := at_ints (ms := ms) (j := 0 + (i : Int) + 3) (by (first | lia | omega)) (by (first | lia | omega))
        refine' s_list hp' (by unfold fits; (first | lia | omega)) gn ?_
        walk_at "st"
        refine' s_mod (by decide) ?_
        have q0 : 0 ≤ nm.fmod 4 := by rw [Int.fmod_eq_emod_of_nonneg _ (by decide)]; (first | lia | omega)
        have q1 : nm.fmod 4 < 4 := by rw [Int.fmod_eq_emod_of_nonneg _ (by decide)]; (first | lia | omega)
        obtain ⟨pl, hpl⟩ := Int.eq_ofNat_of_zero_le q0
        rw [hpl] at q1 ⊢
        refine' ⟨by show 3 ≤ sizeLine; decide, fun a1 h1 => ?_⟩
        have s1 := (HSub.refl H').upd (ho := .lst [Value.int 0 0, Value.int 7 0, Value.int 40 0]) h1
        have e1 := upd_same H' a1 (.lst [Value.int 0 0, Value.int 7 0, Value.int 40 0])
        generalize upd H' a1 (.lst [Value.int 0 0, Value.int 7 0, Value.int 40 0]) = H1 at e1 s1 ⊢
        walk_at "st"
        refine' s_fdv (by decide) ?_
        walk_at "st"
        refine' s_mod (by decide) ?_
        have q2 : 0 ≤ (nm.fdiv 4).fmod 3 := by rw [Int.fmod_eq_emod_of_nonneg _ (by decide)]; (first | lia | omega)
        have q3 : (nm.fdiv 4).fmod 3 < 3 := by rw [Int.fmod_eq_emod_of_nonneg _ (by decide)]; (first | lia | omega)
        generalize (nm.fdiv 4).fmod 3 = oi at q2 q3
        obtain ⟨ow, how, gow⟩ := at_ints (ms := owns) (j := oi) q2 q3
        refine' s_list e1 (by unfold fits; (first | lia | omega)) gow ?_
        refine' ⟨by show 2 ≤ sizeLine; decide, fun b1 h2 => ?_⟩
        have s2 := s1.trans ((HSub.refl H1).upd (ho := .tup [Value.int (pl : Int) 0, Value.int ow 0]) h2)
        have e2 := upd_same H1 b1 (.tup [Value.int (pl : Int) 0, Value.int ow 0])
        generalize upd H1 b1 (.tup [Value.int (pl : Int) 0, Value.int ow 0]) = H2 at e2 s2
        walk_at "st"
        refine' ⟨b1, _, _, rfl, e2, ?_⟩
        walk_at "st"
        refine' s_fdv (by decide) ?_
        walk_at "st"
        refine' s_mod (by decide) ?_
        have q4 : 0 ≤ (nm.fdiv 12).fmod 4 := by rw [Int.fmod_eq_emod_of_nonneg _ (by decide)]; (first | lia | omega)
        have q5 : (nm.fdiv 12).fmod 4 < 4 := by rw [Int.fmod_eq_emod_of_nonneg _ (by decide)]; (first | lia | omega)
        obtain ⟨sj, hsj⟩ := Int.eq_ofNat_of_zero_le q4
        rw [hsj] at q5 ⊢
        obtain ⟨c, hc⟩ : ∃ c, atS? signs sj = some c := by
          have : sj = 0 ∨ sj = 1 ∨ sj = 2 ∨ sj = 3 := by (first | lia | omega)
          rcases this with rfl | rfl | rfl | rfl <;> exact ⟨_, rfl⟩
        refine' s_chr (by unfold fits; (first | lia | omega)) hc ?_
        refine' ⟨by show 4 ≤ sizeLine; decide, fun a2 h3 => ?_⟩
        have s3 := s2.trans ((HSub.refl H2).upd (ho := (.lst [Value.str (Str.ofString "/") 0, Value.str (Str.ofString "//") 0, Value.str (Str.ofString "/./") 0, Value.str (Str.ofString "/q/../") 0])) h3)
        have e3 : upd H2 a2 (.lst [Value.str (Str.ofString "/") 0, Value.str (Str.ofString "//") 0, Value.str (Str.ofString "/./") 0, Value.str (Str.ofString "/q/../") 0]) a2 = some (.lst (vS turns)) := upd_same _ _ _
        generalize upd H2 a2 (.lst [Value.str (Str.ofString "/") 0, Value.str (Str.ofString "//") 0, Value.str (Str.ofString "/./") 0, Value.str (Str.ofString "/q/../") 0]) = H3 at e3 s3 ⊢
        walk_at "st"
        refine' s_fdv (by decide) ?_
        walk_at "st"
        refine' s_mod (by decide) ?_
        have q6 : 0 ≤ (nm.fdiv 48).fmod 4 := by rw [Int.fmod_eq_emod_of_nonneg _ (by decide)]; (first | lia | omega)
        have q7 : (nm.fdiv 48).fmod 4 < 4 := by rw [Int.fmod_eq_emod_of_nonneg _ (by decide)]; (first | lia | omega)
        generalize (nm.fdiv 48).fmod 4 = tj at q6 q7
        obtain ⟨tn, htn, gtn⟩ : ∃ tn, tn ∈ turns ∧ at? (vS turns) tj = some (.str tn 0) := by
          have : tj = 0 ∨ tj = 1 ∨ tj = 2 ∨ tj = 3 := by (first | lia | omega)
          rcases this with rfl | rfl | rfl | rfl
          · exact ⟨_, .head _, rfl⟩
          · exact ⟨_, .tail _ (.head _), rfl⟩
          · exact ⟨_, .tail _ (.tail _ (.head _)), rfl⟩
          · exact ⟨_, .tail _ (.tail _ (.tail _ (.head _))), rfl⟩
        refine' s_list e3 (by unfold fits; (first | lia | omega)) gtn ?_
        refine' ⟨by show 2 ≤ sizeLine; decide, fun b2 h4 => ?_⟩
        have s4 := s3.trans ((HSub.refl H3).upd (ho := .tup [Value.str ⟨#[c]⟩ 0, Value.str tn 0]) h4)
        have e4 := upd_same H3 b2 (.tup [Value.str ⟨#[c]⟩ 0, Value.str tn 0])
        generalize upd H3 b2 (.tup [Value.str ⟨#[c]⟩ 0, Value.str tn 0]) = H4 at e4 s4
        walk_at "st"
        refine' ⟨b2, _, _, rfl, e4, ?_⟩
        walk_at "st"
        have hpl4 : pl < ts.length := by rw [hG.len]; (first | lia | omega)
        have gts : at? (vS ts) (pl : Int) = some (.str ts[pl] 0) := at_lt (by (first | lia | omega)) (by simp; (first | lia | omega)) (by simp [vS, hpl4])
        refine' s_list (s4 _ _ hqv) (by unfold fits; (first | lia | omega)) gts ?_
        obtain ⟨l, hl⟩ : ∃ l, atS? letters (0 + (i : Int)) = some l := by
          have : i = 0 ∨ i = 1 ∨ i = 2 ∨ i = 3 ∨ i = 4 ∨ i = 5 := by (first | lia | omega)
          rcases this with rfl | rfl | rfl | rfl | rfl | rfl <;> exact ⟨_, rfl⟩
        have hl' : atS? letters (i : Int) = some l := by rw [Int.zero_add] at hl; exact hl
        obtain ⟨z1, z2, z3⟩ := hG.ok ts[pl] (List.getElem_mem _) tn htn i l hi hl'
        have w1 : (Str.ofString ".").length = 1 := by decide
        have w2 : (⟨#[l]⟩ : Str).length = 1 := rfl
        have w3 : (⟨#[c]⟩ : Str).length = 1 := rfl
        have w4 : (Str.ofString "257 \"").length = 5 := by decide
        have w5 : (Str.ofString "\" is there").length = 10 := by decide
        have w6 : (Str.ofString "229 It is of (").length = 14 := by decide
        have w7 : (Str.ofString ")").length = 1 := by decide
        refine' s_adds (fit_line (by (first | lia | omega))) rfl ?_
        walk_at "st"
        refine' s_adds (fit_line (by rw [slen]; (first | lia | omega))) rfl ?_
        walk_at "st"
        refine' s_chr (by unfold fits; (first | lia | omega)) hl ?_
        refine' s_adds (z := crk ts[pl] tn l) (fit_line (by rw [slen, slen]; (first | lia | omega))) rfl ?_
        walk_at "st"
        refine' ⟨_, _, rfl, by decide, by unfold crk; simp only [slen]; (first | lia | omega), by decide, ?_⟩
        refine' s_adds (fit_line (by (first | lia | omega))) rfl ?_
        walk_at "st"
        refine' s_adds (z := nmd ts[pl] tn l) (fit_line (by rw [slen]; (first | lia | omega))) rfl ?_
        walk_at "st"
        have w8 : mulOk (⟨#[c]⟩ : Str) 3 = true := by unfold mulOk; rw [w3]; decide
        have w9 : (mulS (⟨#[c]⟩ : Str) 3).length = 3 := by rfl
        refine' s_muls w8 (fit_line (by (first | lia | omega))) rfl ?_
        refine' s_adds (fit_line (by (first | lia | omega))) rfl ?_
        walk_at "st"
        have how' : ow = 0 ∨ ow = 7 ∨ ow = 40 := by
          have := List.mem_of_getElem? how
          simpa [owns] using this
        refine' s_strI (by (first | lia | omega)) ?_
        have w10 : (Str.ofString (toString ow)).length ≤ 2 := by rcases how' with rfl | rfl | rfl <;> decide
        refine' s_adds (fit_line (by rw [slen]; (first | lia | omega))) rfl ?_
        walk_at "st"
        refine' s_adds (fit_line (by simp only [slen]; (first | lia | omega))) rfl ?_
        walk_at "st"
        refine' s_adds (z := owd c ow) (fit_line (by simp only [slen]; (first | lia | omega))) rfl ?_
        walk_at "st"
        refine' s_meth_l (s4 _ _ hDv) ?_
        walk_at "st"
        refine' ⟨by show 4 ≤ sizeLine; decide, fun r hr => ?_⟩
        have hrH : H r = none := by
          cases z : H r with
          | none => rfl
          | some ho => have := s4 _ _ (hHs _ _ z); rw [hr] at this; cases this
        have s5 := s4.trans ((HSub.refl H4).upd (ho := .tup [Value.int (pl : Int) 0, Value.int ow 0, Value.str (nmd ts[pl] tn l) 0, Value.str (owd c ow) 0]) hr)
        have e5 := upd_same H4 r (.tup [Value.int (pl : Int) 0, Value.int ow 0, Value.str (nmd ts[pl] tn l) 0, Value.str (owd c ow) 0])
        generalize upd H4 r (.tup [Value.int (pl : Int) 0, Value.int ow 0, Value.str (nmd ts[pl] tn l) 0, Value.str (owd c ow) 0]) = H5 at e5 s5
        refine' s_append (s5 _ _ hDv) (by simp; (first | lia | omega)) ?_
        walk_at "st"
        have hDr : D ≠ r := fun z => by
          have := s4 _ _ hDv
          rw [z, hr] at this; cases this
        have hown : ow ∈ owns := List.mem_of_getElem? how
        refine hN _ _ ⟨(hs.trans s5).upd (by rw [upd_ne _ _ (Ne.symm hra2)]; exact hD), by (first | lia | omega), ⟨rs ++ [r], by simp [hrl], by rw [upd_same, List.map_append]; rfl, fun k r' e => ?_⟩, _, _, _, _, _, _, _, _, _, rfl⟩
        by_cases hk : k < rs.length
        · rw [List.getElem?_append_left hk] at e
          refine by_ng fun ng => ?_
          obtain ⟨g1, pl', o', K⟩ := hrs k r' e
          obtain ⟨k1, k2, t, tn', l', c', x1, x2, x3, x4, x5⟩ := K
          refine ng ?_
          clear ng
          have hne : r' ≠ D := fun z => by rw [z, hDv] at x5; cases x5
          exact ⟨g1, pl', o', k1, k2, t, tn', l', c', x1, x2, x3, x4, (upd_ne _ _ hne).trans (s5 _ _ x5)⟩
        · rw [List.getElem?_append_right (by (first | lia | omega))] at e
          have hk0 : k - rs.length = 0 := by
            by_cases z : k - rs.length = 0
            · exact z
            · rw [List.getElem?_eq_none (by simp; (first | lia | omega))] at e; cases e
          rw [hk0] at e
          cases e
          have hki : k = i := by (first | lia | omega)
          subst hki
          exact ⟨hrH, pl, ow, by (first | lia | omega), hown, ts[pl], tn, l, c, List.getElem?_eq_getElem hpl4, htn, hl', ⟨sj, by (first | lia | omega), hc⟩, (upd_ne _ _ (Ne.symm hDr)).trans e5⟩

noncomputable def T34 (np jn p7 p9 : Addr) : List (Str × NK) := [(Str.ofString "drawn", NK.slot 0 false), (Str.ofString "files", NK.slot 1 false), (Str.ofString "place", NK.slot 2 false), (Str.ofString "owner", NK.slot 3 false), (Str.ofString "named", NK.slot 4 false), (Str.ofString "owned", NK.slot 5 false), (Str.ofString "path", NK.slot 6 false), (Str.ofString "normpath", .glob (.ref np)), (Str.ofString "join", .glob (.ref jn)), (Str.ofString "parse257", .glob (.ref p7)), (Str.ofString "parse229", .glob (.ref p9))]
noncomputable def G34 (np jn p7 p9 : Addr) : List (Str × Value) := [(Str.ofString "normpath", .ref np), (Str.ofString "join", .ref jn), (Str.ofString "parse257", .ref p7), (Str.ofString "parse229", .ref p9)]
theorem tab34 (np jn p7 p9 : Addr) : fnT (FS 34) (G34 np jn p7 p9) = T34 np jn p7 p9 := by kernel_rfl
theorem chk34 : scOk (FS 34) [Str.ofString "drawn"] = true := by decide +kernel
theorem bind34 {fd : FuncData} (hp : fd.params = FP 34) (hd : fd.defaults = .none) (hk : fd.kwdefaults = .none) (vs : List Value) (hl : vs.length = 1) : bindArgs fd ⟨vs, []⟩ = pure ([Str.ofString "drawn"].zip vs) := by
  refine by_ng fun ng => ?_
  obtain ⟨a0, rfl⟩ := len1 hl
  obtain ⟨n, q, p, bd, sc, g, cl, df, kd, doc, pm, an, cd, ct, bu⟩ := fd
  refine ng ?_
  clear ng
  subst hp; subst hd; subst hk
  kernel_rfl
theorem ini34 (a0 : Value) : iniOf (FS 34) ([Str.ofString "drawn"].zip [a0]) = [some a0, none, none, none, none, none, none] := by kernel_rfl

/-- what the texts of one drawn file give -/
structure FileOk (nm od path : Str) (o : Int) (dn : Str) : Prop where
  p7 : ∃ fuel, P257 nm dn fuel
  j1 : Txt.startswith dn (Str.ofString "/") = false
  j2 : (Str.ofString "/").length + dn.length ≤ sizeLine
  nr : ∃ rest cs, Nrm (Str.ofString "/" ++ dn) path rest cs
  ow : ∃ c r w, Own od o c r w
inductive filesB (d : Addr) (Q : Value → HA → Ls → Prop) (H : HA) (L : Ls) : Prop
  | mk (rs : List Addr) (k1 : H d = some (.lst (rs.map Value.ref))) (k2 : rs.length ≤ 1000) (paths : List (Str × Int)) (k3 : paths.length = rs.length) (k4 : (∀ (k : Nat) (r : Addr) (po : Str × Int), rs[k]? = some r → paths[k]? = some po → ∃ pl nm od dn, H r = some (.tup [pl, .int po.2 0, .str nm 0, .str od 0]) ∧ FileOk nm od po.1 po.2 dn)) (k5 : ∀ F H' (fs : List Addr), H F = none → HSub H H' → H' F = some (.lst (fs.map Value.ref)) → fs.length = rs.length → (∀ (k : Nat) (r : Addr) (po : Str × Int), fs[k]? = some r → paths[k]? = some po → H r = none ∧ H' r = some (.tup [.str po.1 0, .int po.2 0])) → Q (.ref F) H' L) : filesB d Q H L
noncomputable def filesW : BW := fun vs Q H L => mR (fun d => mN (filesB d Q H L)) vs
theorem files_walk {B : Heap} (hB : Bas B) {n : Nat} (np jn p7 p9 : Addr) (hnp : Fn B n np normpathW) (hjn : Fn B n jn pjoinW) (hp7 : Fn B n p7 parse257W) (hp9 : Fn B n p9 parse229W) {f : Addr} {fd : FuncData} (Fi : FnIn B f fd (FB 34)) (hsc : fd.scope = FS 34) (hp : fd.params = FP 34) (hg : ∀ g ∈ G34 np jn p7 p9, GlobOk B fd.globals fd.builtins g.1 g.2) : FnA B (n + 1) f filesW := by
  have main := fn_ok (n := n) hB Fi (by rw [hsc]; exact chk34) hg (fun C _ vs => bind_args (bind34 hp Fi.dfl Fi.kwd) C vs) (fun C env le room V len0 =>
    have lenC : C.locs.length = 7 := len0.trans (by rw [hsc]; kernel_rfl)
    have V : EnvOk C (T34 np jn p7 p9) env := tab_eq (hsc ▸ tab34 np jn p7 p9) V
    have S := hB.stat le room
    have hh := room.handled
    (S_cons (S_assign (E_list E_nil) (A_cons (A_name V (.tail _ (.head _))) A_nil)) (S_cons (S_for hh S (E_name V (.head _)) (A_tuple hh (A_cons (A_name V (.tail _ (.tail _ (.head _)))) (A_cons (A_name V (.tail _ (.tail _ (.tail _ (.head _))))) (A_cons (A_name V (.tail _ (.tail _ (.tail _ (.tail _ (.head _)))))) (A_cons (A_name V (.tail _ (.tail _ (.tail _ (.tail _ (.tail _ (.head _))))))) A_nil))))) (S_cons (S_assign (E_call V (.tail _ (.tail _ (.tail _ (.tail _ (.tail _ (.tail _ (.tail _ (.head _)))))))) (hnp.callee le) (E_cons (E_call V (.tail _ (.tail _ (.tail _ (.tail _ (.tail _ (.tail _ (.tail _ (.tail _ (.head _))))))))) (hjn.callee le) (E_cons (E_const _ _ _) (E_cons (E_call V (.tail _ (.tail _ (.tail _ (.tail _ (.tail _ (.tail _ (.tail _ (.tail _ (.tail _ (.head _)))))))))) (hp7.callee le) (E_cons (E_name V (.tail _ (.tail _ (.tail _ (.tail _ (.head _)))))) E_nil) (hp7.ok _ le room)) E_nil)) (hjn.ok _ le room)) E_nil) (hnp.ok _ le room)) (A_cons (A_name V (.tail _ (.tail _ (.tail _ (.tail _ (.tail _ (.tail _ (.head _)))))))) A_nil)) (S_cons (S_expr V.fn (E_meth (E_name V (.tail _ (.head _))) F.plainAttrs_list F.slot_list_append F.type_list_append (E_cons (E_call V (.tail _ (.tail _ (.tail _ (.tail _ (.tail _ (.tail _ (.tail _ (.tail _ (.tail _ (.tail _ (.head _))))))))))) (hp9.callee le) (E_cons (E_name V (.tail _ (.tail _ (.tail _ (.tail _ (.tail _ (.head _))))))) (E_cons (E_list (E_cons (E_name V (.tail _ (.tail _ (.tail _ (.tail _ (.tail _ (.tail _ (.head _)))))))) (E_cons (E_const _ _ _) E_nil))) E_nil)) (hp9.ok _ le room)) E_nil) b_append)) S_nil)) S_nil) (S_cons (S_ret (E_name V (.tail _ (.head _)))) S_nil))))
  refine main.spec ?_
  clear main
  rw [hsc]
  intro vs Q H L h
  refine by_ng fun ng => ?_
  obtain ⟨d, r0, rfl, hq0⟩ := mR_inv h
  obtain ⟨rfl, hq1⟩ := mN_inv hq0
  refine ng ?_
  clear ng
  replace h := hq1
  · skip
    refine by_ng fun ng => ?_
    obtain ⟨rs, hd, hlen, paths, hpl, hrec, hq⟩ := h
    refine ng ?_
    clear ng
    refine ⟨rfl, ?_⟩
    refine' s_start (ini34 _) ?_
    walk_at "st"
    refine' ⟨by show 0 ≤ sizeLine; decide, fun F hF => ?_⟩
    walk_at "st"
    have hdF : d ≠ F := fun z => by rw [z, hF] at hd; cases hd
    refine' s_for (k := .lst d) (xs := rs.map Value.ref) (fun i H' L' => HSub H H' ∧ i ≤ rs.length ∧ (∃ fs : List Addr, fs.length = i ∧ H' F = some (.lst (fs.map Value.ref)) ∧ ∀ (k : Nat) (r : Addr) (po : Str × Int), fs[k]? = some r → paths[k]? = some po → H r = none ∧ H' r = some (.tup [.str po.1 0, .int po.2 0])) ∧ ∃ c1 c2 c3 c4 c5, L' = [some (.ref d), some (.ref F), c1, c2, c3, c4, c5]) (.lst ((upd_ne _ _ hdF).trans hd)) ?_ ?_
    · exact ⟨(HSub.refl H).upd hF, Nat.zero_le _, ⟨[], rfl, upd_same _ _ _, fun k r po e => by cases k <;> cases e⟩, none, none, none, none, none, rfl⟩
    · intro i H' L' rr26
      refine by_ng fun ng => ?_
      obtain ⟨hs, hi6, ⟨fs, hfl, hFv, hfs⟩, c1, c2, c3, c4, c5, rfl⟩ := rr26
      refine ng ?_
      clear ng
      refine ⟨.lst (hs _ _ hd), fun e => ?_, fun x e QN hN hC => ?_⟩
      · have hi : rs.length ≤ i := by
          rw [List.getElem?_map, Option.map_eq_none_iff, List.getElem?_eq_none_iff] at e; exact e
        walk_at "st"
        exact ⟨H', HSub.refl _, hq F H' fs hF hs hFv (by (first | lia | omega)) hfs⟩
      · rw [List.getElem?_map] at e
        obtain ⟨r, hr, rfl⟩ := Option.map_eq_some_iff.mp e
        have hlt : i < rs.length := (List.getElem?_eq_some_iff.mp hr).1
        obtain ⟨po, hpo⟩ : ∃ po, paths[i]? = some po := ⟨_, List.getElem?_eq_getElem (by (first | lia | omega))⟩
        refine by_ng fun ng => ?_
        obtain ⟨pl, nm, od, dn, hrt, K⟩ := hrec i r po hr hpo
        obtain ⟨fuel, K7⟩ := K.p7
        obtain ⟨rest, cs, KN⟩ := K.nr
        obtain ⟨c, rr, w, KO⟩ := K.ow
        refine ng ?_
        clear ng
        refine' s_unpack (hs _ _ hrt) rfl ?_
        walk_at "st"
        refine' ⟨dn, fuel, K7, ?_⟩
        refine' ⟨K.j1, by decide, by decide, by decide, K.j2, ?_⟩
        refine' ⟨po.1, rest, cs, KN, ?_⟩
        walk_at "st"
        refine' s_meth_l hFv ?_
        walk_at "st"
        refine' ⟨by show 2 ≤ sizeLine; decide, fun a ha => ?_⟩
        have s1 := (HSub.refl H').upd (ho := .lst [Value.str po.1 0, Value.int 21 0]) ha
        have e1 := upd_same H' a (.lst [Value.str po.1 0, Value.int 21 0])
        generalize upd H' a (.lst [Value.str po.1 0, Value.int 21 0]) = H1 at e1 s1
        refine' ⟨po.2, c, rr, w, _, KO, e1, fun r2 hr2 => ?_⟩
        have hrH : H r2 = none := by
          cases z : H r2 with
          | none => rfl
          | some ho => have := s1 _ _ (hs _ _ z); rw [hr2] at this; cases this
        have hFr : F ≠ r2 := fun z => by
          have := s1 _ _ hFv
          rw [z, hr2] at this; cases this
        have s2 := s1.trans ((HSub.refl H1).upd (ho := .tup [Value.str po.1 0, Value.int po.2 0]) hr2)
        have e2 := upd_same H1 r2 (.tup [Value.str po.1 0, Value.int po.2 0])
        generalize upd H1 r2 (.tup [Value.str po.1 0, Value.int po.2 0]) = H2 at e2 s2
        refine' s_append (s2 _ _ hFv) (by simp; (first | lia | omega)) ?_
        walk_at "st"
        refine hN _ _ ⟨(hs.trans s2).upd hF, by (first | lia | omega), ⟨fs ++ [r2], by simp [hfl], by rw [upd_same, List.map_append]; rfl, fun k r' po' e e' => ?_⟩, _, _, _, _, _, rfl⟩
        by_cases hk : k < fs.length
        · rw [List.getElem?_append_left hk] at e
          obtain ⟨g1, g2⟩ := hfs k r' po' e e'
          have hne : r' ≠ F := fun z => by rw [z, hFv] at g2; cases g2
          exact ⟨g1, (upd_ne _ _ hne).trans (s2 _ _ g2)⟩
        · rw [List.getElem?_append_right (by (first | lia | omega))] at e
          have hk0 : k - fs.length = 0 := by
            by_cases z : k - fs.length = 0
            · exact z
            · rw [List.getElem?_eq_none (by simp; (first | lia | omega))] at e; cases e
          rw [hk0] at e
          cases e
          have hki : k = i := by (first | lia | omega)
          subst hki
          rw [hpo] at e'; cases e'
          exact ⟨hrH, (upd_ne _ _ (Ne.symm hFr)).trans e2⟩

noncomputable def T39 (dn : Addr) : List (Str × NK) := [(Str.ofString "marks", NK.slot 0 false), (Str.ofString "path", NK.slot 1 false), (Str.ofString "dirname", .glob (.ref dn))]
noncomputable def G39 (dn : Addr) : List (Str × Value) := [(Str.ofString "dirname", .ref dn)]
theorem tab39 (dn : Addr) : fnT (FS 39) (G39 dn) = T39 dn := by kernel_rfl
theorem chk39 : scOk (FS 39) [Str.ofString "marks", Str.ofString "path"] = true := by decide +kernel
theorem bind39 {fd : FuncData} (hp : fd.params = FP 39) (hd : fd.defaults = .none) (hk : fd.kwdefaults = .none) (vs : List Value) (hl : vs.length = 2) : bindArgs fd ⟨vs, []⟩ = pure ([Str.ofString "marks", Str.ofString "path"].zip vs) := by
  refine by_ng fun ng => ?_
  obtain ⟨a0, a1, rfl⟩ := len2 hl
  obtain ⟨n, q, p, bd, sc, g, cl, df, kd, doc, pm, an, cd, ct, bu⟩ := fd
  refine ng ?_
  clear ng
  subst hp; subst hd; subst hk
  kernel_rfl
theorem ini39 (a0  a1 : Value) : iniOf (FS 39) ([Str.ofString "marks", Str.ofString "path"].zip [a0, a1]) = [some a0, some a1] := by kernel_rfl

noncomputable def DirOk (x y : Str) : Prop := ∃ k hd b, Dir x y k hd b
theorem s_notin {Q : Value → HA → Ls → Prop} {H : HA} {L : Ls} {a : Addr} {es : List (Str × Value)} {ep : Nat} {x : Str} {t : Tok} (e : H a = some (.dct es ep)) (h : Q (.bool (!(es.lookup x).isSome)) H L) : cmpW .NotIn (.str x t) (.ref a) Q H L := .inr ⟨es, ep, x, t, e, rfl, h⟩
theorem s_in {Q : Value → HA → Ls → Prop} {H : HA} {L : Ls} {a : Addr} {es : List (Str × Value)} {ep : Nat} {x : Str} {t : Tok} (e : H a = some (.dct es ep)) (h : Q (.bool (es.lookup x).isSome) H L) : cmpW .In (.str x t) (.ref a) Q H L := .inr (.inl ⟨es, ep, x, t, e, rfl, h⟩)
inductive nearestB (m : Addr) (x : Str) (Q : Value → HA → Ls → Prop) (H : HA) (L : Ls) : Prop
  | mk (es : _) (ep : _) (k1 : H m = some (.dct es ep)) (n : Nat) (f : Nat → Str) (v : Value) (k2 : f 0 = x) (k3 : (∀ i, i < n → es.lookup (f i) = none ∧ DirOk (f i) (f (i + 1)))) (k4 : es.lookup (f n) = some v) (k5 : Q v H L) : nearestB m x Q H L
noncomputable def nearestW : BW := fun vs Q H L => mR (fun m => mS (fun x => mN (nearestB m x Q H L))) vs
theorem nearest_walk {B : Heap} (hB : Bas B) {n : Nat} (dn : Addr) (hdn : Fn B n dn dirnameW) {f : Addr} {fd : FuncData} (Fi : FnIn B f fd (FB 39)) (hsc : fd.scope = FS 39) (hp : fd.params = FP 39) (hg : ∀ g ∈ G39 dn, GlobOk B fd.globals fd.builtins g.1 g.2) : FnA B (n + 1) f nearestW := by
  have main := fn_ok (n := n) hB Fi (by rw [hsc]; exact chk39) hg (fun C _ vs => bind_args (bind39 hp Fi.dfl Fi.kwd) C vs) (fun C env le room V len0 =>
    have lenC : C.locs.length = 2 := len0.trans (by rw [hsc]; kernel_rfl)
    have V : EnvOk C (T39 dn) env := tab_eq (hsc ▸ tab39 dn) V
    have S := hB.stat le room
    have hh := room.handled
    (S_cons (S_while (T_cmp S (E_name V (.tail _ (.head _))) (E_name V (.head _))) (S_cons (S_assign (E_call V (.tail _ (.tail _ (.head _))) (hdn.callee le) (E_cons (E_name V (.tail _ (.head _))) E_nil) (hdn.ok _ le room)) (A_cons (A_name V (.tail _ (.head _))) A_nil)) S_nil) S_nil) (S_cons (S_ret (E_sub (E_name V (.head _)) (E_name V (.tail _ (.head _))))) S_nil)))
  refine main.spec ?_
  clear main
  rw [hsc]
  intro vs Q H L h
  refine by_ng fun ng => ?_
  obtain ⟨m, r0, rfl, hq0⟩ := mR_inv h
  obtain ⟨x, t, r1, rfl, hq1⟩ := mS_inv hq0
  obtain ⟨rfl, hq2⟩ := mN_inv hq1
  refine ng ?_
  clear ng
  replace h := hq2
  · skip
    refine by_ng fun ng => ?_
    obtain ⟨es, ep, hm, n', f, v, h0, hstep, hend, hq⟩ := h
    refine ng ?_
    clear ng
    refine ⟨rfl, ?_⟩
    refine' s_start (ini39 _ _) ?_
    walk_at "st"
    refine' s_while (fun k H' L' => H' = H ∧ k ≤ n' ∧ ∃ t', L' = [some (.ref m), some (.str (f (n' - k)) t')]) ⟨n', rfl, Nat.le_refl _, t, by rw [Nat.sub_self, h0]⟩ ?_
    intro k H' L' rr27 QN hN hC hB hR
    refine by_ng fun ng => ?_
    obtain ⟨rfl, hk, t', rfl⟩ := rr27
    refine ng ?_
    clear ng
    walk_at "st"
    refine' s_notin hm ?_
    walk_at "st"
    cases k with
    | zero =>
      refine' s_if_f (by rw [Nat.sub_zero, hend]; rfl) ?_
      walk_at "st"
      refine' s_dct hm (by rw [Nat.sub_zero]; exact hend) ?_
      walk_at "st"
      exact ⟨_, HSub.refl _, hq⟩
    | succ k =>
      refine by_ng fun ng => ?_
      obtain ⟨g1, k', hd, b, D⟩ := hstep (n' - (k + 1)) (by (first | lia | omega))
      refine ng ?_
      clear ng
      refine' s_if_t (by rw [g1]; rfl) ?_
      walk_at "st"
      refine' ⟨_, k', hd, b, D, ?_⟩
      walk_at "st"
      exact hN _ _ ⟨k, Nat.lt_succ_self _, rfl, by (first | lia | omega), 0, by rw [show n' - (k + 1) + 1 = n' - k by (first | lia | omega)]; rfl⟩


theorem Stat.sub {C C' : Ctx} (S : Stat C) (hA : C'.A = C.A) (hP : HLe C.P C'.P) : Stat C' :=
  ⟨let ⟨o, ho⟩ := S.sys; ⟨o, hP _ _ ho⟩, let ⟨mc, hm, hx⟩ := S.lim; ⟨mc, Ns_keep hm (hP _), hx⟩, by rw [hA]; exact S.units⟩
theorem E_compN {C : Ctx} {env : Env} {T : List (Str × NK)} {sc : Scope} {base : Nat} {tg iter elt : PySem.Expr} {ifs : List PySem.Expr} {pos : Pos} {w : W Value} {tw : Value → W Unit} {wt : W Bool} {we : W Value} (hb : C.locs.length = base)
    (hh : C.A.handled = none) (S : Stat C) (V : EnvOk C T env) (hc : compChk sc T = true) (hi : OkAV C (eval iter env) w) (hin : CompA C env sc T tg elt ifs tw wt we)
    (hs : ∀ x, foldedSetIterable iter env x = pure x := by intro _; rfl) : OkAV C (eval (.ListComp elt [⟨tg, iter, ifs, 0⟩] sc pos) env) (fun Q => w fun v => compW base tw wt we v Q) := by
  subst hb; exact E_comp hh S V hc hi hin hs

/-! two lists, item by item -/
noncomputable def All2 {α β : Type} (p : α → β → Prop) : List α → List β → Prop
  | [], [] => True
  | a :: as, b :: bs => p a b ∧ All2 p as bs
  | _, _ => False
section
variable {α β : Type} {p q : α → β → Prop}
theorem All2.length : ∀ {as : List α} {bs : List β}, All2 p as bs → as.length = bs.length
  | [], [], _ => rfl
  | [], _ :: _, h => h.elim
  | _ :: _, [], h => h.elim
  | _ :: as, _ :: bs, h => congrArg (· + 1) (All2.length h.2)
theorem All2.get : ∀ {as : List α} {bs : List β} {i : Nat} {a : α}, All2 p as bs → as[i]? = some a → ∃ b, bs[i]? = some b ∧ p a b
  | [], _, i, a, _, e => by cases e
  | _ :: _, [], _, _, h, _ => h.elim
  | x :: as, y :: bs, 0, a, h, e => by cases e; exact ⟨y, rfl, h.1⟩
  | x :: as, y :: bs, i + 1, a, h, e => All2.get (as := as) (bs := bs) (i := i) h.2 e
theorem All2.get' : ∀ {as : List α} {bs : List β} {i : Nat} {b : β}, All2 p as bs → bs[i]? = some b → ∃ a, as[i]? = some a ∧ p a b
  | _, [], i, a, _, e => by cases e
  | [], _ :: _, _, _, h, _ => h.elim
  | x :: as, y :: bs, 0, a, h, e => by cases e; exact ⟨x, rfl, h.1⟩
  | x :: as, y :: bs, i + 1, a, h, e => All2.get' (as := as) (bs := bs) (i := i) h.2 e
theorem All2.mono (k : ∀ a b, p a b → q a b) : ∀ {as : List α} {bs : List β}, All2 p as bs → All2 q as bs
  | [], [], _ => trivial
  | [], _ :: _, h => h.elim
  | _ :: _, [], h => h.elim
  | _ :: as, _ :: bs, h => ⟨k _ _ h.1, All2.mono k h.2⟩
theorem All2.append {as' : List α} {bs' : List β} (h' : All2 p as' bs') : ∀ {as : List α} {bs : List β}, All2 p as bs → All2 p (as ++ as') (bs ++ bs')
  | [], [], _ => h'
  | [], _ :: _, h => h.elim
  | _ :: _, [], h => h.elim
  | _ :: as, _ :: bs, h => ⟨h.1, All2.append h' h.2⟩
theorem All2.snoc {a : α} {b : β} {as : List α} {bs : List β} (h : All2 p as bs) (k : p a b) : All2 p (as ++ [a]) (bs ++ [b]) := All2.append (as' := [a]) (bs' := [b]) ⟨k, trivial⟩ h
end
theorem take_snoc {α : Type} {l : List α} {i : Nat} {x : α} (h : l[i]? = some x) : l.take (i + 1) = l.take i ++ [x] := by rw [List.take_add_one, h]; rfl
theorem refs_get {rs : List Addr} {i : Nat} {x : Value} (e : (rs.map Value.ref)[i]? = some x) : ∃ r, rs[i]? = some r ∧ x = .ref r := by
  rw [List.getElem?_map] at e
  obtain ⟨r, h, rfl⟩ := Option.map_eq_some_iff.mp e
  exact ⟨r, h, rfl⟩

/-! comprehensions that make nothing else -/
section
variable {Q : Value → HA → Ls → Prop} {QU : Unit → HA → Ls → Prop} {H : HA} {L : Ls} {t u : Tok} {i j : Int} {v : Value}
theorem s_comp {base : Nat} {tw : Value → W Unit} {wt : W Bool} {we : W Value} {k : SrcK} {xs : List Value} (I : Nat → List Value → HA → Ls → Prop) (h1 : SrcIs H v k xs) (hn : xs.length ≤ 1048575) (h0 : I 0 [] H (L.take base))
    (h : ∀ i acc H L, I i acc H L → SrcIs H v k xs ∧ (xs[i]? = none → newW (.lst acc) Q H L) ∧ ∀ x, xs[i]? = some x → tw x (fun _ => wt fun b H L => if b = true then we (fun y H L => I (i + 1) (acc ++ [y]) H (L.take base)) H L else I (i + 1) acc H (L.take base)) H L) :
    compW base tw wt we v Q H L := ⟨k, xs, h1, hn, I, h0, fun i acc H L hi => ⟨(h i acc H L hi).1, by
  obtain ⟨_, a, b⟩ := h i acc H L hi
  cases e : xs[i]? with
  | none => exact a e
  | some x => exact b x e⟩⟩
theorem s_compf {base : Nat} {tw : Value → W Unit} {wt : W Bool} {we : W Value} {k : SrcK} {xs : List Value} (A : Nat → List Value) (h1 : SrcIs H v k xs) (hn : xs.length ≤ 1048575) (hL : L.take base = L) (hA : A 0 = [])
    (step : ∀ i x, xs[i]? = some x → ∀ R : Option Value → HA → Ls → Prop, (∀ o L', L'.take base = L → A i ++ o.toList = A (i + 1) → R o H L') → tw x (fun _ => wt fun b H' L' => if b = true then we (fun y H'' L'' => R (some y) H'' L'') H' L' else R none H' L') H L)
    (h : ∀ c, H c = none → Q (.ref c) (upd H c (.lst (A xs.length))) L) : compW base tw wt we v Q H L := by
  refine s_comp (fun i acc H' L' => H' = H ∧ L' = L ∧ i ≤ xs.length ∧ acc = A i) h1 hn ⟨rfl, hL, Nat.zero_le _, hA.symm⟩ ?_
  intro i acc H' L' rr28
  refine by_ng fun ng => ?_
  obtain ⟨rfl, rfl, hi, rfl⟩ := rr28
  refine ng ?_
  clear ng
  refine ⟨h1, fun e c hc => ?_, fun x e => ?_⟩
  · have : i = xs.length := Nat.le_antisymm hi (List.getElem?_eq_none_iff.mp e)
    rw [this]; exact h c hc
  · exact step i x e (fun o H'' L'' => (H'' = H' ∧ L''.take base = L' ∧ i + 1 ≤ xs.length ∧ (match o with | some y => A i ++ [y] | none => A i) = A (i + 1))) fun o L'' hl ha => ⟨rfl, hl, (List.getElem?_eq_some_iff.mp e).1, by
      rw [← ha]; cases o <;> simp⟩
theorem s_notinL {a : Addr} {ss : List Str} {x : Str} (e : H a = some (.lst (vS ss))) (h : Q (.bool (!decide (x ∈ ss))) H L) : cmpW .NotIn (.str x 0) (.ref a) Q H L := by
  refine .inl ⟨vS ss, e, ?_, ?_⟩
  · unfold sameK; simp [isS, isI, vS]
  · have : hasV (.str x 0) (vS ss) = decide (x ∈ ss) := by
      unfold hasV vS
      rw [Bool.eq_iff_iff]
      simp
    rw [this]; exact h
theorem s_inI {a : Addr} {ss : List Int} {x : Int} (e : H a = some (.lst (vI ss))) (h : Q (.bool (decide (x ∈ ss))) H L) : cmpW .In (.int x 0) (.ref a) Q H L := by
  refine .inl ⟨vI ss, e, ?_, ?_⟩
  · unfold sameK; simp [isS, isI, vI]
  · have : hasV (.int x 0) (vI ss) = decide (x ∈ ss) := by
      unfold hasV vI
      rw [Bool.eq_iff_iff]
      simp
    rw [this]; exact h
end

/-! the tree of folders and files -/
structure Tree (nm : Nat → Str) (par : Nat → Nat) : Prop where
  root : nm 0 = Str.ofString "/"
  inj : ∀ x y, x < 10 → y < 10 → nm x = nm y → x = y
  dir : ∀ x, 0 < x → x < 10 → DirOk (nm x) (nm (par x))
  lt : ∀ x, 0 < x → x < 10 → par x < x
noncomputable def PairAt (nm : Nat → Str) (par : Nat → Nat) (H : HA) (r : Addr) (x : Nat) : Prop := H r = some (.tup [.str (nm x) 0, .str (nm (par x)) 0])
noncomputable def FileAt (nm : Nat → Str) (H : HA) (r : Addr) (p : Nat × Int) : Prop := H r = some (.tup [.str (nm p.1) 0, .int p.2 0])
noncomputable def RefsAt {β : Type} (p : HA → Addr → β → Prop) (H : HA) (a : Addr) (bs : List β) : Prop := ∃ rs : List Addr, H a = some (.lst (rs.map Value.ref)) ∧ All2 (p H) rs bs
theorem PairAt.sub {nm : Nat → Str} {par : Nat → Nat} {H H' : HA} (h : HSub H H') {r : Addr} {x : Nat} (k : PairAt nm par H r x) : PairAt nm par H' r x := h _ _ k
theorem FileAt.sub {nm : Nat → Str} {H H' : HA} (h : HSub H H') {r : Addr} {x : Nat × Int} (k : FileAt nm H r x) : FileAt nm H' r x := h _ _ k
theorem RefsAt.pairs {nm : Nat → Str} {par : Nat → Nat} {H H' : HA} (h : HSub H H') {a : Addr} {ps : List Nat} (k : RefsAt (PairAt nm par) H a ps) : RefsAt (PairAt nm par) H' a ps := let ⟨rs, h1, h2⟩ := k; ⟨rs, h _ _ h1, h2.mono fun r x q => q.sub h⟩
theorem RefsAt.files {nm : Nat → Str} {H H' : HA} (h : HSub H H') {a : Addr} {ps : List (Nat × Int)} (k : RefsAt (FileAt nm) H a ps) : RefsAt (FileAt nm) H' a ps := let ⟨rs, h1, h2⟩ := k; ⟨rs, h _ _ h1, h2.mono fun r x q => q.sub h⟩
structure PsOk (par : Nat → Nat) (fs : List Nat) (ps : List Nat) : Prop where
  nd : ps.Nodup
  rg : ∀ x ∈ ps, 0 < x ∧ x < 10
  fl : ∀ x ∈ fs, x ∈ ps
  cl : ∀ x ∈ ps, par x = 0 ∨ par x ∈ ps
theorem nodup_len : ∀ (n : Nat) (l : List Nat), l.Nodup → (∀ x ∈ l, x < n) → l.length ≤ n
  | 0, [], _, _ => Nat.le_refl _
  | 0, a :: l, _, h => absurd (h a (List.mem_cons_self ..)) (Nat.not_lt_zero _)
  | n + 1, l, nd, h => by
    have h1 := nodup_len n (l.erase n) (nd.erase n) fun x hx => by
      have h2 := List.Nodup.mem_erase_iff nd |>.mp hx
      have := h x h2.2
      (first | lia | omega)
    by_cases q : n ∈ l
    · rw [List.length_erase_of_mem q] at h1; (first | lia | omega)
    · rw [List.erase_of_not_mem q] at h1; (first | lia | omega)
theorem PsOk.len {par : Nat → Nat} {fs ps : List Nat} (h : PsOk par fs ps) : ps.length ≤ 10 := nodup_len 10 ps h.nd fun x hx => (h.rg x hx).2
inductive pairsB (F : Addr) (Q : Value → HA → Ls → Prop) (H : HA) (L : Ls) : Prop
  | mk (nm : _) (par : _) (k1 : Tree nm par) (fl : List (Nat × Int)) (k2 : RefsAt (FileAt nm) H F fl) (k3 : fl.length ≤ 6) (k4 : (∀ p ∈ fl, 0 < p.1 ∧ p.1 < 10)) (k5 : ∀ P H' ps, H P = none → HSub H H' → RefsAt (PairAt nm par) H' P ps → PsOk par (fl.map (·.1)) ps → Q (.ref P) H' L) : pairsB F Q H L
noncomputable def pairsW : BW := fun vs Q H L => mR (fun F => mN (pairsB F Q H L)) vs
noncomputable def T35 (dn : Addr) : List (Str × NK) := [(Str.ofString "files", NK.slot 0 false), (Str.ofString "pairs", NK.slot 1 false), (Str.ofString "path", NK.slot 2 false), (Str.ofString "owner", NK.slot 3 false), (Str.ofString "dirname", .glob (.ref dn))]
noncomputable def G35 (dn : Addr) : List (Str × Value) := [(Str.ofString "dirname", .ref dn)]
theorem tab35 (dn : Addr) : fnT (FS 35) (G35 dn) = T35 dn := by kernel_rfl
theorem chk35 : scOk (FS 35) [Str.ofString "files"] = true := by decide +kernel
theorem bind35 {fd : FuncData} (hp : fd.params = FP 35) (hd : fd.defaults = .none) (hk : fd.kwdefaults = .none) (vs : List Value) (hl : vs.length = 1) : bindArgs fd ⟨vs, []⟩ = pure ([Str.ofString "files"].zip vs) := by
  refine by_ng fun ng => ?_
  obtain ⟨a0, rfl⟩ := len1 hl
  obtain ⟨n, q, p, bd, sc, g, cl, df, kd, doc, pm, an, cd, ct, bu⟩ := fd
  refine ng ?_
  clear ng
  subst hp; subst hd; subst hk
  kernel_rfl
theorem ini35 (a0 : Value) : iniOf (FS 35) ([Str.ofString "files"].zip [a0]) = [some a0, none, none, none] := by kernel_rfl

theorem pairs_walk {B : Heap} (hB : Bas B) {n : Nat} (dn : Addr) (hdn : Fn B n dn dirnameW) {f : Addr} {fd : FuncData} (Fi : FnIn B f fd (FB 35)) (hsc : fd.scope = FS 35) (hp : fd.params = FP 35) (hg : ∀ g ∈ G35 dn, GlobOk B fd.globals fd.builtins g.1 g.2) : FnA B (n + 1) f pairsW := by
  have main := fn_ok (n := n) hB Fi (by rw [hsc]; exact chk35) hg (fun C _ vs => bind_args (bind35 hp Fi.dfl Fi.kwd) C vs) (fun C env le room V len0 =>
    have lenC : C.locs.length = 4 := len0.trans (by rw [hsc]; kernel_rfl)
    have V : EnvOk C (T35 dn) env := tab_eq (hsc ▸ tab35 dn) V
    have S := hB.stat le room
    have hh := room.handled
    (S_cons (S_assign (E_list E_nil) (A_cons (A_name V (.tail _ (.head _))) A_nil)) (S_cons (S_for hh S (E_name V (.head _)) (A_tuple hh (A_cons (A_name V (.tail _ (.tail _ (.head _)))) (A_cons (A_name V (.tail _ (.tail _ (.tail _ (.head _))))) A_nil))) (S_cons (S_while (T_and (T_cmp S (E_name V (.tail _ (.tail _ (.head _)))) (E_const _ _ _)) (T_cmp S (E_name V (.tail _ (.tail _ (.head _)))) (E_compN (sc := ⟨ScopeKind.function, [(Str.ofString ".0", NameKind.local), (Str.ofString "one", NameKind.local), (Str.ofString "folder", NameKind.local)], false, false, []⟩) lenC hh S V (by kernel_rfl) (E_name V (.tail _ (.head _))) (fun C1 env1 hA1 hP1 W1 len1 => have V1 : EnvOk C1 [(Str.ofString ".0", NK.slot 4 false), (Str.ofString "one", NK.slot 5 false), (Str.ofString "folder", NK.slot 6 false), (Str.ofString "dirname", .hid (.ref dn))] env1 := tab_eq (by rw [lenC]; kernel_rfl) W1; have L1 : C1.locs.length = 8 := len1.trans (by rw [lenC]; kernel_rfl); have S1 := S.sub hA1 hP1; have hh1 : C1.A.handled = none := (by rw [hA1]; exact hh); have le1 := le.trans hP1; have room1 : Room C1.A n := (by rw [hA1]; exact room); ⟨(A_tuple hh1 (A_cons (A_name V1 (.tail _ (.head _))) (A_cons (A_name V1 (.tail _ (.tail _ (.head _)))) A_nil))), C_nil, (E_name V1 (.tail _ (.head _)))⟩)))) (S_cons (S_expr V.fn (E_meth (E_name V (.tail _ (.head _))) F.plainAttrs_list F.slot_list_append F.type_list_append (E_cons (E_tuple (E_cons (E_name V (.tail _ (.tail _ (.head _)))) (E_cons (E_call V (.tail _ (.tail _ (.tail _ (.tail _ (.head _))))) (hdn.callee le) (E_cons (E_name V (.tail _ (.tail _ (.head _)))) E_nil) (hdn.ok _ le room)) E_nil))) E_nil) b_append)) (S_cons (S_assign (E_sub (E_sub (E_name V (.tail _ (.head _))) (E_neg (E_const _ _ _))) (E_const _ _ _)) (A_cons (A_name V (.tail _ (.tail _ (.head _)))) A_nil)) S_nil)) S_nil) S_nil) S_nil) (S_cons (S_ret (E_name V (.tail _ (.head _)))) S_nil))))
  refine main.spec ?_
  clear main
  rw [hsc]
  intro vs Q H L h
  refine by_ng fun ng => ?_
  obtain ⟨F, r0, rfl, hq0⟩ := mR_inv h
  obtain ⟨rfl, hq1⟩ := mN_inv hq0
  refine ng ?_
  clear ng
  replace h := hq1
  · skip
    refine by_ng fun ng => ?_
    obtain ⟨nm, par, T, fl, ⟨rs, hF, hfs⟩, hfl, hfr, hq⟩ := h
    refine ng ?_
    clear ng
    refine ⟨rfl, ?_⟩
    refine' s_start (ini35 _) ?_
    walk_at "st"
    refine' ⟨by show 0 ≤ sizeLine; decide, fun P hP => ?_⟩
    walk_at "st"
    have hFP : F ≠ P := fun z => by rw [z, hP] at hF; cases hF
    have hrl := hfs.length
    refine' s_for (k := .lst F) (xs := rs.map Value.ref) (fun i H' L' => HSub H H' ∧ i ≤ rs.length ∧ (∃ ps, RefsAt (PairAt nm par) H' P ps ∧ PsOk par ((fl.take i).map (·.1)) ps) ∧ ∃ c1 c2, L' = [some (.ref F), some (.ref P), c1, c2]) (.lst ((upd_ne _ _ hFP).trans hF)) ?_ ?_
    · exact ⟨(HSub.refl H).upd hP, Nat.zero_le _, ⟨[], ⟨[], upd_same _ _ _, trivial⟩, ⟨List.nodup_nil, by simp, by simp, by simp⟩⟩, none, none, rfl⟩
    intro i H' L' rr29
    refine by_ng fun ng => ?_
    obtain ⟨hs, hi6, ⟨ps, hps, hok⟩, c1, c2, rfl⟩ := rr29
    refine ng ?_
    clear ng
    refine ⟨.lst (hs _ _ hF), fun e => ?_, fun x e QN hN hC => ?_⟩
    · have hi : rs.length ≤ i := by
        rw [List.getElem?_map, Option.map_eq_none_iff, List.getElem?_eq_none_iff] at e; exact e
      walk_at "st"
      rw [List.take_of_length_le (by (first | lia | omega))] at hok
      exact ⟨H', HSub.refl _, hq P H' ps hP hs hps hok⟩
    · refine by_ng fun ng => ?_
      obtain ⟨r, hr, rfl⟩ := refs_get e
      obtain ⟨⟨f0, o0⟩, hfi, hft⟩ := hfs.get hr
      obtain ⟨f1, f2⟩ := hfr _ (List.mem_of_getElem? hfi)
      refine ng ?_
      clear ng
      have hlt : i < rs.length := (List.getElem?_eq_some_iff.mp hr).1
      refine' s_unpack (hs _ _ hft) rfl ?_
      walk_at "st"
      refine' s_while (fun m H' L' => HSub H H' ∧ m < 10 ∧ (∃ ps, RefsAt (PairAt nm par) H' P ps ∧ ps.Nodup ∧ (∀ x ∈ ps, 0 < x ∧ x < 10) ∧ (∀ x ∈ (fl.take i).map (·.1), x ∈ ps) ∧ (∀ x ∈ ps, par x = 0 ∨ par x ∈ ps ∨ par x = m) ∧ (m = f0 ∨ f0 ∈ ps)) ∧ L' = [some (.ref F), some (.ref P), some (.str (nm m) 0), some (.int o0 0)])
        ⟨f0, hs, f2, ⟨ps, hps, hok.nd, hok.rg, hok.fl, fun x hx => (hok.cl x hx).imp id .inl, .inl rfl⟩, rfl⟩ ?_
      clear hps hok hs
      intro m H' L' rr30 QW hNW hCW hBW hRW
      refine by_ng fun ng => ?_
      obtain ⟨hs, hm, ⟨ps, hps, nd, rg, hfl', hcl, hf0⟩, rfl⟩ := rr30
      refine ng ?_
      clear ng
      have fin : (m = 0 ∨ m ∈ ps) → ∃ ps, RefsAt (PairAt nm par) H' P ps ∧ PsOk par ((fl.take (i + 1)).map (·.1)) ps := fun h => ⟨ps, hps, nd, rg, fun x hx => by
        rw [take_snoc hfi, List.map_append] at hx
        rcases List.mem_append.mp hx with hx | hx
        · exact hfl' x hx
        · have hx : x = f0 := by simpa using hx
          subst hx
          rcases hf0 with rfl | q
          · rcases h with h | h
            · exact absurd h (Nat.ne_of_gt f1)
            · exact h
          · exact q, fun x hx => by
        rcases hcl x hx with q | q | q
        · exact .inl q
        · exact .inr q
        · subst q; exact h⟩
      walk_at "st"
      by_cases m0 : m = 0
      · subst m0
        refine' s_if_f (by rw [T.root]; simp) ?_
        refine' s_if_f rfl ?_
        walk_at "st"
        exact hN _ _ ⟨hs, hlt, fin (.inl rfl), _, _, rfl⟩
      refine' s_if_t (by
        rw [bne_iff_ne, ← T.root]
        exact fun z => m0 (T.inj _ _ hm (by decide) z)) ?_
      walk_at "st"
      obtain ⟨qs, hPv, hqs⟩ := hps
      have hql := hqs.length
      have hpl := nodup_len 10 ps nd fun x hx => (rg x hx).2
      refine' s_compf (k := .lst P) (xs := qs.map Value.ref) (fun j => vS ((ps.take j).map nm)) (.lst hPv) (by rw [List.length_map]; (first | lia | omega)) rfl (by simp [vS]) ?_ ?_
      · intro j x ej R hR
        refine by_ng fun ng => ?_
        obtain ⟨r', hr', rfl⟩ := refs_get ej
        obtain ⟨y, hy, hyt⟩ := hqs.get hr'
        refine ng ?_
        clear ng
        refine' s_unpack hyt rfl ?_
        walk_at "st"
        refine' s_if_t rfl ?_
        walk_at "st"
        refine' hR _ _ rfl ?_
        show vS ((ps.take j).map nm) ++ [.str (nm y) 0] = _
        rw [take_snoc hy, List.map_append]
        unfold vS
        rw [List.map_append]; rfl
      intro c hc
      rw [List.length_map, hql, List.take_length]
      have s1 := (HSub.refl H').upd (ho := .lst (vS (ps.map nm))) hc
      have e1 := upd_same H' c (.lst (vS (ps.map nm)))
      generalize upd H' c (.lst (vS (ps.map nm))) = H1 at e1 s1
      refine' s_notinL e1 ?_
      walk_at "st"
      have hmem : nm m ∈ ps.map nm ↔ m ∈ ps := by
        rw [List.mem_map]
        exact ⟨fun ⟨y, hy, ey⟩ => by rw [← T.inj _ _ (rg y hy).2 hm ey]; exact hy, fun h => ⟨m, h, rfl⟩⟩
      by_cases hmp : m ∈ ps
      · refine' s_if_f (by simp only [hmem, hmp, decide_true, Bool.not_true]) ?_
        walk_at "st"
        obtain ⟨ps', a, b⟩ := fin (.inr hmp)
        exact hN _ _ ⟨hs.trans s1, hlt, ⟨ps', a.pairs s1, b⟩, _, _, rfl⟩
      refine' s_if_t (by simp only [hmem, hmp, decide_false, Bool.not_false]) ?_
      walk_at "st"
      refine' s_meth_l (s1 _ _ hPv) ?_
      walk_at "st"
      refine by_ng fun ng => ?_
      obtain ⟨k', hd, b, D⟩ := T.dir m (Nat.pos_of_ne_zero m0) hm
      refine ng ?_
      clear ng
      refine' ⟨_, k', hd, b, D, ?_⟩
      refine' ⟨by show 2 ≤ sizeLine; decide, fun r2 hr2 => ?_⟩
      have hPr : P ≠ r2 := fun z => by
        have := s1 _ _ hPv
        rw [z, hr2] at this; cases this
      have s2 := s1.trans ((HSub.refl H1).upd (ho := .tup [Value.str (nm m) 0, Value.str (nm (par m)) 0]) hr2)
      have e2 := upd_same H1 r2 (.tup [Value.str (nm m) 0, Value.str (nm (par m)) 0])
      generalize upd H1 r2 (.tup [Value.str (nm m) 0, Value.str (nm (par m)) 0]) = H2 at e2 s2
      refine' s_append (s2 _ _ hPv) (by simp; (first | lia | omega)) ?_
      walk_at "st"
      have hPv2 : upd H2 P (.lst (qs.map Value.ref ++ [.ref r2])) P = some (.lst ((qs ++ [r2]).map Value.ref)) := by rw [upd_same, List.map_append]; rfl
      have hrefs : RefsAt (PairAt nm par) (upd H2 P (.lst (qs.map Value.ref ++ [.ref r2]))) P (ps ++ [m]) := ⟨qs ++ [r2], hPv2, (hqs.mono fun r x q => by
        have hne : r ≠ P := fun z => by unfold PairAt at q; rw [z, hPv] at q; cases q
        exact (upd_ne _ _ hne).trans (s2 _ _ q)).snoc ((upd_ne _ _ (Ne.symm hPr)).trans e2)⟩
      have hup := (hs.trans s2).upd (ho := .lst (qs.map Value.ref ++ [.ref r2])) hP
      generalize upd H2 P (.lst (qs.map Value.ref ++ [.ref r2])) = H3 at hPv2 hrefs hup
      refine' s_list hPv2 (by unfold fits; decide) (by rw [List.map_append]; exact at_last _ _) ?_
      walk_at "st"
      obtain ⟨rs3, g1, g2⟩ := hrefs
      have g3 : H3 r2 = some (.tup [Value.str (nm m) 0, Value.str (nm (par m)) 0]) := by
        rw [hPv2] at g1
        have g1' : (qs ++ [r2]).map Value.ref = rs3.map Value.ref := HO.lst.inj (Option.some.inj g1)
        have g1 : qs ++ [r2] = rs3 := (List.map_inj_right (fun _ _ z => by cases z; rfl)).mp g1'
        subst g1
        obtain ⟨y, hy, hyt⟩ := g2.get (i := qs.length) (a := r2) (by simp)
        rw [hql] at hy
        have : y = m := by simpa using hy.symm
        subst this
        exact hyt
      refine' s_tup g3 (by unfold fits; decide) rfl ?_
      walk_at "st"
      have hpm := T.lt m (Nat.pos_of_ne_zero m0) hm
      refine hNW _ _ ⟨par m, hpm, hup, by (first | lia | omega), ⟨ps ++ [m], ⟨rs3, g1, g2⟩, List.nodup_append.mpr ⟨nd, by simp, fun a ha b hb => ?_⟩, fun x hx => ?_, fun x hx => List.mem_append_left _ (hfl' x hx), fun x hx => ?_, ?_⟩, rfl⟩
      · rintro rfl
        rw [List.mem_singleton] at hb; subst hb; exact hmp ha
      · rcases List.mem_append.mp hx with hx | hx
        · exact rg x hx
        · rw [List.mem_singleton] at hx; subst hx; exact ⟨Nat.pos_of_ne_zero m0, hm⟩
      · rcases List.mem_append.mp hx with hx | hx
        · rcases hcl x hx with q | q | q
          · exact .inl q
          · exact .inr (.inl (List.mem_append_left _ q))
          · exact .inr (.inl (List.mem_append_right _ (by rw [q]; simp)))
        · rw [List.mem_singleton] at hx; subst hx; exact .inr (.inr rfl)
      · rcases hf0 with q | q
        · exact .inr (List.mem_append_right _ (by rw [q]; simp))
        · exact .inr (List.mem_append_left _ q)


theorem s_compg {Q : Value → HA → Ls → Prop} {H : HA} {L : Ls} {v : Value} {base : Nat} {tw : Value → W Unit} {wt : W Bool} {we : W Value} {k : SrcK} {xs : List Value} (PL : Ls → Prop) (A : Nat → List Value) (h1 : SrcIs H v k xs) (hn : xs.length ≤ 1048575) (hL : PL (L.take base)) (hA : A 0 = [])
    (step : ∀ i x, xs[i]? = some x → ∀ L₀, PL L₀ → ∀ R : Option Value → HA → Ls → Prop, (∀ o L', PL (L'.take base) → A i ++ o.toList = A (i + 1) → R o H L') → tw x (fun _ => wt fun b H' L' => if b = true then we (fun y H'' L'' => R (some y) H'' L'') H' L' else R none H' L') H L₀)
    (h : ∀ c L₀, PL L₀ → H c = none → Q (.ref c) (upd H c (.lst (A xs.length))) L₀) : compW base tw wt we v Q H L := by
  refine s_comp (fun i acc H' L' => H' = H ∧ PL L' ∧ i ≤ xs.length ∧ acc = A i) h1 hn ⟨rfl, hL, Nat.zero_le _, hA.symm⟩ ?_
  intro i acc H' L' rr31
  refine by_ng fun ng => ?_
  obtain ⟨rfl, hp, hi, rfl⟩ := rr31
  refine ng ?_
  clear ng
  refine ⟨h1, fun e c hc => ?_, fun x e => ?_⟩
  · have : i = xs.length := Nat.le_antisymm hi (List.getElem?_eq_none_iff.mp e)
    rw [this]; exact h c _ hp hc
  · exact step i x e L' hp (fun o H'' L'' => (H'' = H' ∧ PL (L''.take base) ∧ i + 1 ≤ xs.length ∧ (match o with | some y => A i ++ [y] | none => A i) = A (i + 1))) fun o L'' hl ha => ⟨rfl, hl, (List.getElem?_eq_some_iff.mp e).1, by
      rw [← ha]; cases o <;> simp⟩
section
variable {C : Ctx} {env : Env} {T : List (Str × NK)}
theorem S_assign_cell {x : Str} {i : Nat} {p' p pos : Pos} {elt : PySem.Expr} {gens : List Comprehension} {sc : Scope} {w : W Value} (V : EnvOk C T env) (hk : (x, NK.slot i true) ∈ T) (hx : OkAV C (eval (.ListComp elt gens sc pos) env) w)
    (hw : swappedStores [.Name x p'] (.ListComp elt gens sc pos) env = pure none := by rfl) : OkAF C (exec (.Assign [.Name x p'] (.ListComp elt gens sc pos) p) env) (fun Q => w fun v => allW [storeW (.slot i true)] v fun _ => nextW Q) :=
  S_assign hx (A_cons (A_name V hk) A_nil) (by
    obtain ⟨c, hkd, _⟩ := V.nm x _ hk
    show swapsWith (.ListComp elt gens sc pos) (some (.Name x p')) p.line env = pure false
    unfold swapsWith
    have key : ∀ k, env.kindOf x = some k → (k == NameKind.local) = false → (pure (env.blockKind == .function && env.kindOf x == some .local && p'.line == (PySem.Expr.ListComp elt gens sc pos).pos.line && !(sc.names.any fun (n, k) => n == x && (k == .local || k == .cell))) : Sem Bool) = pure false := fun k h1 h2 => by
      have h3 : (env.kindOf x == some NameKind.local) = false := by rw [h1]; exact h2
      rw [h3, Bool.and_false, Bool.false_and, Bool.false_and]
    rcases hkd with hkd | ⟨hkd, _⟩
    · exact key _ hkd rfl
    · exact key _ hkd rfl) hw
theorem S_assign_compN {sc : Scope} {base : Nat} {x : Str} {i : Nat} {p' : Pos} {tg iter elt : PySem.Expr} {ifs : List PySem.Expr} {pos p : Pos} {w : W Value} {tw : Value → W Unit} {wt : W Bool} {we : W Value}
    (V : EnvOk C T env) (hk : (x, NK.slot i false) ∈ T) (hb : C.locs.length = base) (hh : C.A.handled = none) (S : Stat C) (V' : EnvOk C T env) (hc : compChk sc T = true) (hi : OkAV C (eval iter env) w) (hin : CompA C env sc T tg elt ifs tw wt we)
    (hl : (p'.line == pos.line) = true := by rfl) (hn : (sc.names.any fun (n, k) => n == x && (k == .local || k == .cell)) = false := by kernel_rfl)
    (hs : ∀ x, foldedSetIterable iter env x = pure x := by intro _; rfl) : OkAF C (exec (.Assign [.Name x p'] (.ListComp elt [⟨tg, iter, ifs, 0⟩] sc pos) p) env) (fun Q => w fun v => compW base tw wt we v fun a => storeW (.slot i false) a fun _ => nextW Q) := by
  subst hb
  refine S_assign_comp hh S V hk hc hi hin ?_ hs
  obtain ⟨hkd, _⟩ := V.nm x _ hk
  have hb : env.blockKind = .function := by unfold Env.blockKind; rw [V.fn]; rfl
  unfold swapsWith
  simp only [hkd, hb, PySem.Expr.pos, hl, hn]
  rfl
end
noncomputable def T37  : List (Str × NK) := [(Str.ofString "pairs", NK.slot 0 false), (Str.ofString "order", NK.slot 1 false), (Str.ofString "files", NK.slot 2 false), (Str.ofString "wanted", NK.slot 3 true), (Str.ofString "path", NK.slot 4 true), (Str.ofString "owner", NK.slot 5 false), (Str.ofString "rows", NK.slot 6 true), (Str.ofString "counts", NK.slot 7 true), (Str.ofString "range", .glob (.type "range")), (Str.ofString "len", .hid (.builtin "len")), (Str.ofString "max", .hid (.builtin "max"))]
noncomputable def G37  : List (Str × Value) := [(Str.ofString "range", .type "range"), (Str.ofString "len", .builtin "len"), (Str.ofString "max", .builtin "max")]
theorem tab37  : fnT (FS 37) (G37 ) = T37  := by kernel_rfl
theorem chk37 : scOk (FS 37) [Str.ofString "pairs", Str.ofString "order", Str.ofString "files"] = true := by decide +kernel
theorem bind37 {fd : FuncData} (hp : fd.params = FP 37) (hd : fd.defaults = .none) (hk : fd.kwdefaults = .none) (vs : List Value) (hl : vs.length = 3) : bindArgs fd ⟨vs, []⟩ = pure ([Str.ofString "pairs", Str.ofString "order", Str.ofString "files"].zip vs) := by
  refine by_ng fun ng => ?_
  obtain ⟨a0, a1, a2, rfl⟩ := len3 hl
  obtain ⟨n, q, p, bd, sc, g, cl, df, kd, doc, pm, an, cd, ct, bu⟩ := fd
  refine ng ?_
  clear ng
  subst hp; subst hd; subst hk
  kernel_rfl
theorem ini37 (a0  a1  a2 : Value) : iniOf (FS 37) ([Str.ofString "pairs", Str.ofString "order", Str.ofString "files"].zip [a0, a1, a2]) = [some a0, some a1, some a2, none, none, none, none, none] := by kernel_rfl

noncomputable def cntW (ps : List Nat) (par : Nat → Nat) (W : Nat → List Int) (y : Nat) (o : Int) : Nat := ((ps.filter fun x => par x == y).filter fun x => decide (o ∈ W x)).length
theorem putE_lookup (es : List (Str × Value)) (k k' : Str) (v : Value) : (putE es k v).lookup k' = if k' = k then some v else es.lookup k' := by
  unfold putE
  by_cases h : (es.any fun kv => decide (kv.1 = k)) = true
  · rw [if_pos h]
    induction es with
    | nil => cases h
    | cons p r ih =>
      obtain ⟨a, b⟩ := p
      rw [List.map_cons, List.lookup_cons]
      by_cases q : a = k
      · subst q
        rw [if_pos rfl]
        by_cases z : k' = a
        · subst z; simp [List.lookup_cons]
        · have zb : (k' == a) = false := by simp [z]
          rw [List.lookup_cons, zb, if_neg z]
          by_cases h' : (r.any fun kv => decide (kv.1 = a)) = true
          · rw [ih h', if_neg z]
          · have : (r.map fun kv => if kv.1 = a then (kv.1, v) else kv) = r := by
              rw [List.map_congr_left (g := id), List.map_id]
              intro kv hkv
              have : ¬ kv.1 = a := fun e => h' (List.any_eq_true.mpr ⟨kv, hkv, by simp [e]⟩)
              simp [this]
            rw [this]
      · rw [if_neg q]
        have h' : (r.any fun kv => decide (kv.1 = k)) = true := by simpa [q] using h
        rw [List.lookup_cons, ih h']
        by_cases z : k' = a
        · subst z; simp [q]
        · have zb : (k' == a) = false := by simp [z]
          rw [zb]
  · rw [if_neg h, lookup_append, List.lookup_cons, List.lookup_nil]
    by_cases z : k' = k
    · subst z
      have : es.lookup k' = none := by
        rw [List.lookup_eq_none_iff]
        intro p hp
        have : ¬ p.1 = k' := fun e => h (List.any_eq_true.mpr ⟨p, hp, by simp [e]⟩)
        simp [Ne.symm this]
      rw [this, if_pos rfl]; simp
    · have zb : (k' == k) = false := by simp [z]
      rw [zb, if_neg z]; simp
theorem putE_len (es : List (Str × Value)) (k : Str) (v : Value) : (putE es k v).length = if (es.lookup k).isSome = true then es.length else es.length + 1 := by
  have e : (es.lookup k).isSome = es.any fun kv => decide (kv.1 = k) := by
    induction es with
    | nil => rfl
    | cons p r ih =>
      rw [List.lookup_cons, List.any_cons]
      by_cases z : k = p.1
      · subst z; simp
      · have zb : (k == p.1) = false := by simp [z]
        rw [zb, ih]; simp [Ne.symm z]
  unfold putE
  rw [e]
  split <;> simp
noncomputable def bestW (c : Int → Nat) : List Int := owns.filter fun o => owns.all fun o' => decide (c o' ≤ c o)
structure WAt (nm : Nat → Str) (W : Nat → List Int) (H : HA) (es : List (Str × Value)) (S : List Nat) : Prop where
  has : ∀ x ∈ S, ∃ r, es.lookup (nm x) = some (.ref r) ∧ H r = some (.lst (vI (W x)))
  no : ∀ x, x < 10 → x ∉ S → es.lookup (nm x) = none
theorem WAt.same {nm : Nat → Str} {W : Nat → List Int} {H : HA} {es : List (Str × Value)} {S S' : List Nat} (h : WAt nm W H es S) (k : ∀ x, x < 10 → (x ∈ S ↔ x ∈ S')) (k' : ∀ x ∈ S', x < 10) : WAt nm W H es S' :=
  ⟨fun x hx => h.has x ((k x (k' x hx)).mpr hx), fun x hx hn => h.no x hx fun q => hn ((k x hx).mp q)⟩
theorem WAt.put {nm : Nat → Str} {par : Nat → Nat} (T : Tree nm par) {W : Nat → List Int} {H : HA} {es : List (Str × Value)} {S : List Nat} (h : WAt nm W H es S) (hS : ∀ x ∈ S, x < 10) {y : Nat} (hy : y < 10) {r : Addr} (hr : H r = some (.lst (vI (W y)))) : WAt nm W H (putE es (nm y) (.ref r)) (S ++ [y]) := by
  refine ⟨fun x hx => ?_, fun x hx hn => ?_⟩
  · rw [putE_lookup]
    by_cases q : nm x = nm y
    · rw [if_pos q]
      have hx10 : x < 10 := by
        rcases List.mem_append.mp hx with hx | hx
        · exact hS x hx
        · rw [List.mem_singleton] at hx; rw [hx]; exact hy
      have := T.inj _ _ hx10 hy q
      subst this
      exact ⟨r, rfl, hr⟩
    · rw [if_neg q]
      rcases List.mem_append.mp hx with hx | hx
      · exact h.has x hx
      · rw [List.mem_singleton] at hx; rw [hx] at q; exact absurd rfl q
  · rw [putE_lookup]
    rw [List.mem_append, List.mem_singleton, not_or] at hn
    rw [if_neg fun q => hn.2 (T.inj _ _ hx hy q)]
    exact h.no x hx hn.1
theorem WAt.sub {nm : Nat → Str} {W : Nat → List Int} {H H' : HA} {es : List (Str × Value)} {S : List Nat} (h : WAt nm W H es S) (k : HSub H H') : WAt nm W H' es S := ⟨fun x hx => let ⟨r, a, b⟩ := h.has x hx; ⟨r, a, k _ _ b⟩, h.no⟩
theorem WAt.upd {nm : Nat → Str} {W : Nat → List Int} {H : HA} {es es' : List (Str × Value)} {S : List Nat} (h : WAt nm W H es S) {D : Addr} {ep ep' : Nat} {es₀ : List (Str × Value)} (hD : H D = some (.dct es₀ ep)) : WAt nm W (upd H D (.dct es' ep')) es S := ⟨fun x hx => let ⟨r, a, b⟩ := h.has x hx; ⟨r, a, (upd_ne _ _ fun z => by rw [z, hD] at b; cases b).trans b⟩, h.no⟩
theorem HSub.upd_new {H H' : HA} (h : HSub H H') {a : Addr} {ho : HO} (e : H' a = none) : HSub H (Mine.upd H' a ho) := h.trans ((HSub.refl H').upd e)
inductive wantedB (P : Addr) (O : Addr) (F : Addr) (Q : Value → HA → Ls → Prop) (H : HA) (L : Ls) : Prop
  | mk (nm : _) (par : _) (k1 : Tree nm par) (ps od : List Nat) (fl : List (Nat × Int)) (W : Nat → List Int) (k2 : RefsAt (PairAt nm par) H P ps) (k3 : H O = some (.lst (vS (od.map nm)))) (k4 : RefsAt (FileAt nm) H F fl) (k5 : ps.length ≤ 10) (k6 : fl.length ≤ 6) (k7 : od.length ≤ 10) (k8 : (∀ x ∈ ps, 0 < x ∧ x < 10)) (k9 : (∀ x ∈ od, x < 10)) (k10 : (∀ i y, od[i]? = some y → y ∉ fl.map (·.1) → ∀ x ∈ ps, par x = y → x ∈ od.take i)) (k11 : (∀ p ∈ fl, p.1 < 10)) (k12 : (∀ p ∈ fl, W p.1 = [p.2])) (k13 : (∀ y ∈ od, y ∉ fl.map (·.1) → W y = bestW (cntW ps par W y))) (k14 : ∀ D H' es ep, H D = none → HSub H H' → H' D = some (.dct es ep) → WAt nm W H' es (fl.map (·.1) ++ od) → Q (.ref D) H' L) : wantedB P O F Q H L
noncomputable def wantedW : BW := fun vs Q H L => mR (fun P => mR (fun O => mR (fun F => mN (wantedB P O F Q H L)))) vs
theorem wanted_walk {B : Heap} (hB : Bas B) {n : Nat}   {f : Addr} {fd : FuncData} (Fi : FnIn B f fd (FB 37)) (hsc : fd.scope = FS 37) (hp : fd.params = FP 37) (hg : ∀ g ∈ G37 , GlobOk B fd.globals fd.builtins g.1 g.2) : FnA B (n + 1) f wantedW := by
  have main := fn_ok (n := n) hB Fi (by rw [hsc]; exact chk37) hg (fun C _ vs => bind_args (bind37 hp Fi.dfl Fi.kwd) C vs) (fun C env le room V len0 =>
    have lenC : C.locs.length = 8 := len0.trans (by rw [hsc]; kernel_rfl)
    have V : EnvOk C (T37 ) env := tab_eq (hsc ▸ tab37 ) V
    have S := hB.stat le room
    have hh := room.handled
    (S_cons (S_assign (E_dict0) (A_cons (A_name V (.tail _ (.tail _ (.tail _ (.head _))))) A_nil)) (S_cons (S_for hh S (E_name V (.tail _ (.tail _ (.head _)))) (A_tuple hh (A_cons (A_name V (.tail _ (.tail _ (.tail _ (.tail _ (.head _)))))) (A_cons (A_name V (.tail _ (.tail _ (.tail _ (.tail _ (.tail _ (.head _))))))) A_nil))) (S_cons (S_assign (E_list (E_cons (E_name V (.tail _ (.tail _ (.tail _ (.tail _ (.tail _ (.head _))))))) E_nil)) (A_cons (A_sub (E_name V (.tail _ (.tail _ (.tail _ (.head _))))) (E_name V (.tail _ (.tail _ (.tail _ (.tail _ (.head _))))))) A_nil)) S_nil) S_nil) (S_cons (S_for hh S (E_name V (.tail _ (.head _))) (A_name V (.tail _ (.tail _ (.tail _ (.tail _ (.head _)))))) (S_cons (S_if (T_cmp S (E_name V (.tail _ (.tail _ (.tail _ (.tail _ (.head _)))))) (E_name V (.tail _ (.tail _ (.tail _ (.head _)))))) (S_cons (S_assign_cell V (.tail _ (.tail _ (.tail _ (.tail _ (.tail _ (.tail _ (.head _))))))) (E_compN (sc := ⟨ScopeKind.function, [(Str.ofString ".0", NameKind.local), (Str.ofString "one", NameKind.local), (Str.ofString "folder", NameKind.local), (Str.ofString "path", NameKind.free), (Str.ofString "wanted", NameKind.free)], false, false, []⟩) lenC hh S V (by kernel_rfl) (E_name V (.head _)) (fun C4 env4 hA4 hP4 W4 len4 => have V4 : EnvOk C4 [(Str.ofString ".0", NK.slot 8 false), (Str.ofString "one", NK.slot 9 false), (Str.ofString "folder", NK.slot 10 false), (Str.ofString "wanted", NK.slot 3 true), (Str.ofString "path", NK.slot 4 true), (Str.ofString "range", .hid (.type "range")), (Str.ofString "len", .hid (.builtin "len")), (Str.ofString "max", .hid (.builtin "max"))] env4 := tab_eq (by rw [lenC]; kernel_rfl) W4; have L4 : C4.locs.length = 12 := len4.trans (by rw [lenC]; kernel_rfl); have S4 := S.sub hA4 hP4; have hh4 : C4.A.handled = none := (by rw [hA4]; exact hh); have le4 := le.trans hP4; have room4 : Room C4.A n := (by rw [hA4]; exact room); ⟨(A_tuple hh4 (A_cons (A_name V4 (.tail _ (.head _))) (A_cons (A_name V4 (.tail _ (.tail _ (.head _)))) A_nil))), (C_one (T_cmp S4 (E_name V4 (.tail _ (.tail _ (.head _)))) (E_name V4 (.tail _ (.tail _ (.tail _ (.tail _ (.head _)))))))), (E_sub (E_name V4 (.tail _ (.tail _ (.tail _ (.head _))))) (E_name V4 (.tail _ (.head _))))⟩))) (S_cons (S_assign_cell V (.tail _ (.tail _ (.tail _ (.tail _ (.tail _ (.tail _ (.tail _ (.head _)))))))) (E_compN (sc := ⟨ScopeKind.function, [(Str.ofString ".0", NameKind.local), (Str.ofString "who", NameKind.cell), (Str.ofString "len", NameKind.globalImplicit), (Str.ofString "rows", NameKind.free)], false, false, []⟩) lenC hh S V (by kernel_rfl) (E_list (E_consts (vs := [.int 0 0, .int 7 0, .int 40 0]) (by kernel_rfl))) (fun C2 env2 hA2 hP2 W2 len2 => have V2 : EnvOk C2 [(Str.ofString ".0", NK.slot 8 false), (Str.ofString "who", NK.slot 9 true), (Str.ofString "rows", NK.slot 6 true), (Str.ofString "range", .hid (.type "range")), (Str.ofString "len", .glob (.builtin "len")), (Str.ofString "max", .hid (.builtin "max"))] env2 := tab_eq (by rw [lenC]; kernel_rfl) W2; have L2 : C2.locs.length = 11 := len2.trans (by rw [lenC]; kernel_rfl); have S2 := S.sub hA2 hP2; have hh2 : C2.A.handled = none := (by rw [hA2]; exact hh); have le2 := le.trans hP2; have room2 : Room C2.A n := (by rw [hA2]; exact room); ⟨(A_name V2 (.tail _ (.head _))), C_nil, (E_call V2 (.tail _ (.tail _ (.tail _ (.tail _ (.head _))))) (.inl ⟨_, rfl⟩) (E_cons (E_compN (sc := ⟨ScopeKind.function, [(Str.ofString ".0", NameKind.local), (Str.ofString "row", NameKind.local), (Str.ofString "who", NameKind.free)], false, false, []⟩) L2 hh2 S2 V2 (by kernel_rfl) (E_name V2 (.tail _ (.tail _ (.head _)))) (fun C3 env3 hA3 hP3 W3 len3 => have V3 : EnvOk C3 [(Str.ofString ".0", NK.slot 11 false), (Str.ofString "row", NK.slot 12 false), (Str.ofString "who", NK.slot 9 true), (Str.ofString "range", .hid (.type "range")), (Str.ofString "len", .hid (.builtin "len")), (Str.ofString "max", .hid (.builtin "max"))] env3 := tab_eq (by rw [L2]; kernel_rfl) W3; have L3 : C3.locs.length = 14 := len3.trans (by rw [L2]; kernel_rfl); have S3 := S2.sub hA3 hP3; have hh3 : C3.A.handled = none := (by rw [hA3]; exact hh2); have le3 := le2.trans hP3; have room3 : Room C3.A n := (by rw [hA3]; exact room2); ⟨(A_name V3 (.tail _ (.head _))), (C_one (T_cmp S3 (E_name V3 (.tail _ (.tail _ (.head _)))) (E_name V3 (.tail _ (.head _))))), (E_name V3 (.tail _ (.head _)))⟩)) E_nil) b_len)⟩))) (S_cons (S_assign (E_compN (sc := ⟨ScopeKind.function, [(Str.ofString ".0", NameKind.local), (Str.ofString "k", NameKind.local), (Str.ofString "max", NameKind.globalImplicit), (Str.ofString "counts", NameKind.free)], false, false, []⟩) lenC hh S V (by kernel_rfl) (E_call V (.tail _ (.tail _ (.tail _ (.tail _ (.tail _ (.tail _ (.tail _ (.tail _ (.head _))))))))) (.inr (.inl ⟨_, rfl⟩)) (E_cons (E_const _ _ _) E_nil) b_range) (fun C1 env1 hA1 hP1 W1 len1 => have V1 : EnvOk C1 [(Str.ofString ".0", NK.slot 8 false), (Str.ofString "k", NK.slot 9 false), (Str.ofString "counts", NK.slot 7 true), (Str.ofString "range", .hid (.type "range")), (Str.ofString "len", .hid (.builtin "len")), (Str.ofString "max", .glob (.builtin "max"))] env1 := tab_eq (by rw [lenC]; kernel_rfl) W1; have L1 : C1.locs.length = 11 := len1.trans (by rw [lenC]; kernel_rfl); have S1 := S.sub hA1 hP1; have hh1 : C1.A.handled = none := (by rw [hA1]; exact hh); have le1 := le.trans hP1; have room1 : Room C1.A n := (by rw [hA1]; exact room); ⟨(A_name V1 (.tail _ (.head _))), (C_one (T_cmp S1 (E_sub (E_name V1 (.tail _ (.tail _ (.head _)))) (E_name V1 (.tail _ (.head _)))) (E_call V1 (.tail _ (.tail _ (.tail _ (.tail _ (.tail _ (.head _)))))) (.inl ⟨_, rfl⟩) (E_cons (E_name V1 (.tail _ (.tail _ (.head _)))) E_nil) (b_max hh1)))), (E_sub (E_list (E_consts (vs := [.int 0 0, .int 7 0, .int 40 0]) (by kernel_rfl))) (E_name V1 (.tail _ (.head _))))⟩)) (A_cons (A_sub (E_name V (.tail _ (.tail _ (.tail _ (.head _))))) (E_name V (.tail _ (.tail _ (.tail _ (.tail _ (.head _))))))) A_nil)) S_nil))) S_nil) S_nil) S_nil) (S_cons (S_ret (E_name V (.tail _ (.tail _ (.tail _ (.head _)))))) S_nil)))))
  refine main.spec ?_
  clear main
  rw [hsc]
  intro vs Q H L h
  refine by_ng fun ng => ?_
  obtain ⟨P, r0, rfl, hq0⟩ := mR_inv h
  obtain ⟨O, r1, rfl, hq1⟩ := mR_inv hq0
  obtain ⟨F, r2, rfl, hq2⟩ := mR_inv hq1
  obtain ⟨rfl, hq3⟩ := mN_inv hq2
  refine ng ?_
  clear ng
  replace h := hq3
  · skip
    refine by_ng fun ng => ?_
    obtain ⟨nm, par, T, ps, od, fl, W, hP, hO, hF, hpl, hfl, hol, hpr, hor, hch, hfr, hWf, hWo, hq⟩ := h
    refine ng ?_
    clear ng
    refine ⟨rfl, ?_⟩
    refine' s_start (ini37 _ _ _) ?_
    walk_at "st"
    intro D hD
    have hne : ∀ {a : Addr} {ho : HO}, H a = some ho → a ≠ D := fun e z => by rw [z, hD] at e; cases e
    walk_at "st"
    obtain ⟨frs, hFv, hfs⟩ := hF
    have hrl := hfs.length
    refine' s_for (k := .lst F) (xs := frs.map Value.ref) (fun i H' L' => HSub H H' ∧ i ≤ frs.length ∧ (∃ es ep, H' D = some (.dct es ep) ∧ WAt nm W H' es ((fl.take i).map (·.1)) ∧ es.length ≤ i) ∧ ∃ c1 c2, L' = [some (.ref P), some (.ref O), some (.ref F), some (.ref D), c1, c2, none, none]) (.lst ((upd_ne _ _ (hne hFv)).trans hFv)) ?_ ?_
    · exact ⟨(HSub.refl H).upd hD, Nat.zero_le _, ⟨[], 0, upd_same _ _ _, ⟨fun x hx => by simp at hx, fun x _ _ => rfl⟩, Nat.le_refl _⟩, none, none, rfl⟩
    · intro i H' L' rr32
      refine by_ng fun ng => ?_
      obtain ⟨hs, hi6, ⟨es, ep, hDv, hW, hel⟩, c1, c2, rfl⟩ := rr32
      refine ng ?_
      clear ng
      refine ⟨.lst (hs _ _ hFv), fun e => ?_, fun x e QN hN hC => ?_⟩
      · have hi : frs.length ≤ i := by
          rw [List.getElem?_map, Option.map_eq_none_iff, List.getElem?_eq_none_iff] at e; exact e
        rw [List.take_of_length_le (by (first | lia | omega))] at hW
        walk_at "st"
        have hOv := hs _ _ hO
        refine' s_for (k := .lst O) (xs := vS (od.map nm)) (fun j H' L' => HSub H H' ∧ j ≤ od.length ∧ (∃ es ep, H' D = some (.dct es ep) ∧ WAt nm W H' es (fl.map (·.1) ++ od.take j) ∧ es.length ≤ 6 + j) ∧ ∃ c1 c2 c3 c4, L' = [some (.ref P), some (.ref O), some (.ref F), some (.ref D), c1, c2, c3, c4]) (.lst hOv) ?_ ?_
        · exact ⟨hs, Nat.zero_le _, ⟨es, ep, hDv, by rw [List.take_zero, List.append_nil]; exact hW, by (first | lia | omega)⟩, c1, c2, none, none, rfl⟩
        clear hW hDv hs hOv
        intro j H' L' rr33
        refine by_ng fun ng => ?_
        obtain ⟨hs, hjl, ⟨es, ep, hDv, hW, hel⟩, c1, c2, c3, c4, rfl⟩ := rr33
        refine ng ?_
        clear ng
        have hOv := hs _ _ hO
        refine ⟨.lst hOv, fun e => ?_, fun x e QN hN hC => ?_⟩
        · have hj : od.length ≤ j := by
            rw [List.getElem?_eq_none_iff] at e; simpa using e
          rw [List.take_of_length_le hj] at hW
          walk_at "st"
          exact ⟨H', HSub.refl _, hq D H' es ep hD hs hDv hW⟩
        · obtain ⟨y, hy, rfl⟩ : ∃ y, od[j]? = some y ∧ x = .str (nm y) 0 := by
            unfold vS at e
            rw [List.map_map, List.getElem?_map] at e
            obtain ⟨y, h1, h2⟩ := Option.map_eq_some_iff.mp e
            exact ⟨y, h1, h2.symm⟩
          have hjlt : j < od.length := (List.getElem?_eq_some_iff.mp hy).1
          have hy10 := hor y (List.mem_of_getElem? hy)
          walk_at "st"
          refine' s_notin hDv ?_
          walk_at "st"
          by_cases hin : y ∈ fl.map (·.1) ++ od.take j
          · obtain ⟨r, hr, _⟩ := hW.has y hin
            refine' s_if_f (by rw [hr]; rfl) ?_
            walk_at "st"
            refine hN _ _ ⟨hs, hjlt, ⟨es, ep, hDv, hW.same (fun x hx => ?_) ?_, by (first | lia | omega)⟩, _, _, _, _, rfl⟩
            rotate_left
            · intro x hx
              rcases List.mem_append.mp hx with hx | hx
              · obtain ⟨p, hp, rfl⟩ := List.mem_map.mp hx; exact hfr p hp
              · exact hor x (List.mem_of_mem_take hx)
            rw [take_snoc hy]
            rw [← List.append_assoc, List.mem_append (t := [y]), List.mem_singleton]
            exact ⟨fun h => .inl h, fun h => h.elim id fun h => h ▸ hin⟩
          refine' s_if_t (by rw [hW.no y hy10 hin]; rfl) ?_
          walk_at "st"
          have hPx := hP.pairs hs
          obtain ⟨prs, hPv, hps⟩ := hPx
          have hprl := hps.length
          have hnf : y ∉ fl.map (·.1) := fun h => hin (List.mem_append_left _ h)
          have hkids : ∀ x ∈ ps, par x = y → ∃ r, es.lookup (nm x) = some (.ref r) ∧ H' r = some (.lst (vI (W x))) := fun x hx hxy => hW.has x (List.mem_append_right _ (hch j y hy hnf x hx hxy))
          refine' s_compf (k := .lst P) (xs := prs.map Value.ref) (fun i => ((ps.take i).filter fun x => par x == y).map fun x => (es.lookup (nm x)).getD .none) (.lst hPv) (by rw [List.length_map]; (first | lia | omega)) rfl rfl ?_ ?_
          · intro i x ei R hR
            refine by_ng fun ng => ?_
            obtain ⟨r', hr', rfl⟩ := refs_get ei
            obtain ⟨z, hz, hzt⟩ := hps.get hr'
            refine ng ?_
            clear ng
            refine' s_unpack hzt rfl ?_
            walk_at "st"
            have hz10 := hpr z (List.mem_of_getElem? hz)
            by_cases hzy : par z = y
            · refine' s_if_t (by rw [hzy]; simp) ?_
              walk_at "st"
              obtain ⟨r3, hr3, _⟩ := hkids z (List.mem_of_getElem? hz) hzy
              refine' s_dct hDv hr3 ?_
              refine' hR (some (.ref r3)) _ rfl ?_
              rw [take_snoc hz, List.filter_append, List.map_append]
              congr 1
              simp [hzy, hr3]
            · refine' s_if_f (by
                rw [beq_eq_false_iff_ne]
                exact fun q => hzy (T.inj _ _ (by have := T.lt z hz10.1 hz10.2; (first | lia | omega)) hy10 q)) ?_
              refine' hR none _ rfl ?_
              rw [take_snoc hz, List.filter_append, List.map_append]
              simp [hzy]
          intro Rw hRw
          rw [List.length_map, hprl, List.take_length]
          generalize hrw : ((ps.filter fun x => par x == y).map fun x => (es.lookup (nm x)).getD .none) = rws
          have s1 := (HSub.refl H').upd (ho := .lst rws) hRw
          have e1 := upd_same H' Rw (.lst rws)
          generalize upd H' Rw (.lst rws) = H1 at e1 s1
          walk_at "st"
          refine' ⟨by show 3 ≤ sizeLine; decide, fun ow how => ?_⟩
          have s2 := s1.trans ((HSub.refl H1).upd (ho := .lst [Value.int 0 0, Value.int 7 0, Value.int 40 0]) how)
          have e1' := (HSub.refl H1).upd (ho := .lst [Value.int 0 0, Value.int 7 0, Value.int 40 0]) how _ _ e1
          have e2 := upd_same H1 ow (.lst [Value.int 0 0, Value.int 7 0, Value.int 40 0])
          generalize upd H1 ow (.lst [Value.int 0 0, Value.int 7 0, Value.int 40 0]) = H2 at e1' e2 s2
          refine' s_comp (k := .lst ow) (xs := [Value.int 0 0, Value.int 7 0, Value.int 40 0]) (fun i acc H' L' => HSub H2 H' ∧ i ≤ 3 ∧ acc = vI ((owns.take i).map fun o => (cntW ps par W y o : Int)) ∧ L' = [some (.ref P), some (.ref O), some (.ref F), some (.ref D), some (.str (nm y) 0), c2, some (.ref Rw), c4]) (.lst e2) (by decide) ⟨HSub.refl _, Nat.zero_le _, rfl, rfl⟩ ?_
          intro i acc H3 L3 rr34
          refine by_ng fun ng => ?_
          obtain ⟨s3, hi3, rfl, rfl⟩ := rr34
          refine ng ?_
          clear ng
          refine ⟨.lst (s3 _ _ e2), fun ei cn hcn => ?_, fun x ei => ?_⟩
          · have hi : i = 3 := by
              have : 3 ≤ i := by simpa using List.getElem?_eq_none_iff.mp ei
              (first | lia | omega)
            subst hi
            have s4 := s3.trans ((HSub.refl H3).upd (ho := .lst (vI (owns.map fun o => (cntW ps par W y o : Int)))) hcn)
            have e4 := upd_same H3 cn (.lst (vI (owns.map fun o => (cntW ps par W y o : Int))))
            rw [show owns.take 3 = owns from rfl]
            generalize upd H3 cn (.lst (vI (owns.map fun o => (cntW ps par W y o : Int)))) = H4 at s4 e4
            walk_at "st"
            refine' s_range1 (by decide) fun rg hrg => ?_
            have s5 := (HSub.refl H4).upd (ho := .rng 0 (Int.toNat 3)) hrg
            have e5 := upd_same H4 rg (.rng 0 (Int.toNat 3))
            generalize upd H4 rg (.rng 0 (Int.toNat 3)) = H5 at s5 e5
            refine' s_comp (k := .rng 0 3) (xs := (List.range 3).map fun (i : Nat) => Value.int (0 + (i : Int)) 0) (fun i acc H' L' => HSub H5 H' ∧ i ≤ 3 ∧ acc = vI ((owns.take i).filter fun o => owns.all fun o' => decide (cntW ps par W y o' ≤ cntW ps par W y o)) ∧ L' = [some (.ref P), some (.ref O), some (.ref F), some (.ref D), some (.str (nm y) 0), c2, some (.ref Rw), some (.ref cn)]) (.rng e5) (by decide) ⟨HSub.refl _, Nat.zero_le _, rfl, rfl⟩ ?_
            intro i acc H6 L6 rr35
            refine by_ng fun ng => ?_
            obtain ⟨s6, hi6', rfl, rfl⟩ := rr35
            refine ng ?_
            clear ng
            refine ⟨.rng (s6 _ _ e5), fun ej bw hbw => ?_, fun x ej => ?_⟩
            · have hi : i = 3 := by
                have : 3 ≤ i := by simpa using List.getElem?_eq_none_iff.mp ej
                (first | lia | omega)
              subst hi
              rw [show owns.take 3 = owns from rfl]
              have hWy : W y = bestW (cntW ps par W y) := hWo y (List.mem_of_getElem? hy) hnf
              have hbe : (owns.filter fun o => owns.all fun o' => decide (cntW ps par W y o' ≤ cntW ps par W y o)) = W y := hWy.symm
              rw [hbe]
              have s7 := (((s2.trans s4).trans s5).trans s6).trans ((HSub.refl H6).upd (ho := .lst (vI (W y))) hbw)
              have e7 := upd_same H6 bw (.lst (vI (W y)))
              generalize upd H6 bw (.lst (vI (W y))) = H7 at s7 e7
              walk_at "st"
              refine' s_setd (s7 _ _ hDv) (by (first | lia | omega)) fun ep' => ?_
              walk_at "st"
              refine hN _ _ ⟨(hs.trans s7).upd hD, hjlt, ⟨_, ep', upd_same _ _ _, ?_, ?_⟩, _, _, _, _, rfl⟩
              · rw [take_snoc hy, ← List.append_assoc]
                refine WAt.upd ((hW.sub s7).put T (fun x hx => ?_) hy10 e7) (s7 _ _ hDv)
                rcases List.mem_append.mp hx with hx | hx
                · obtain ⟨p, hp, rfl⟩ := List.mem_map.mp hx; exact hfr p hp
                · exact hor x (List.mem_of_mem_take hx)
              · rw [putE_len]; split <;> (first | lia | omega)
            · obtain ⟨hi, rfl⟩ := rng_get ej
              obtain ⟨o, ho⟩ : ∃ o, owns[i]? = some o := ⟨_, List.getElem?_eq_getElem hi⟩
              have hom := List.mem_of_getElem? ho
              walk_at "st"
              refine' s_list (s6 _ _ (s5 _ _ e4)) (by unfold fits; (first | lia | omega)) (v := .int (cntW ps par W y o : Int) 0) (at_lt (by (first | lia | omega)) (by rw [vI_len, List.length_map]; show _ < ((3 : Nat) : Int); (first | lia | omega)) (by
                have : (0 + (i : Int)).toNat = i := by (first | lia | omega)
                rw [this]; unfold vI; rw [List.map_map, List.getElem?_map, ho]; rfl)) ?_
              walk_at "st"
              refine' ⟨owns.map fun o => (cntW ps par W y o : Int), s6 _ _ (s5 _ _ e4), by simp [owns], fun M hM hle => ?_⟩
              walk_at "st"
              have htest : ((cntW ps par W y o : Int) == M) = owns.all fun o' => decide (cntW ps par W y o' ≤ cntW ps par W y o) := by
                rw [Bool.eq_iff_iff, beq_iff_eq, List.all_eq_true]
                obtain ⟨om, hm1, hm2⟩ := List.mem_map.mp hM
                have h1 := hle _ (List.mem_map.mpr ⟨o, hom, rfl⟩)
                refine ⟨fun h o' ho' => ?_, fun h => ?_⟩
                · have := hle _ (List.mem_map.mpr ⟨o', ho', rfl⟩)
                  rw [decide_eq_true_eq]; (first | lia | omega)
                · have := of_decide_eq_true (h om hm1)
                  (first | lia | omega)
              rw [htest]
              by_cases hb : (owns.all fun o' => decide (cntW ps par W y o' ≤ cntW ps par W y o)) = true
              · refine' s_if_t hb ?_
                refine' ⟨by show 3 ≤ sizeLine; decide, fun o2 ho2 => ?_⟩
                have s7 := (HSub.refl H6).upd (ho := .lst [Value.int 0 0, Value.int 7 0, Value.int 40 0]) ho2
                have e7 := upd_same H6 o2 (.lst [Value.int 0 0, Value.int 7 0, Value.int 40 0])
                generalize upd H6 o2 (.lst [Value.int 0 0, Value.int 7 0, Value.int 40 0]) = H7 at s7 e7
                walk_at "st"
                refine' s_list e7 (by unfold fits; (first | lia | omega)) (v := .int o 0) (at_lt (by (first | lia | omega)) (by show _ < ((3 : Nat) : Int); (first | lia | omega)) (by
                  have : (0 + (i : Int)).toNat = i := by (first | lia | omega)
                  rw [this]
                  show (vI owns)[i]? = _
                  unfold vI; rw [List.getElem?_map, ho]; rfl)) ?_
                refine ⟨s6.trans s7, hi, ?_, rfl⟩
                have hf : [o].filter (fun o => owns.all fun o' => decide (cntW ps par W y o' ≤ cntW ps par W y o)) = [o] := by rw [List.filter_cons, if_pos hb]; rfl
                rw [take_snoc ho, List.filter_append, hf]
                unfold vI
                rw [List.map_append]; rfl
              · refine' s_if_f (by simpa using hb) ?_
                refine ⟨s6, hi, ?_, rfl⟩
                have hf : [o].filter (fun o => owns.all fun o' => decide (cntW ps par W y o' ≤ cntW ps par W y o)) = [] := by rw [List.filter_cons, if_neg hb]; rfl
                rw [take_snoc ho, List.filter_append, hf, List.append_nil]
          · obtain ⟨o, ho, rfl⟩ : ∃ o, owns[i]? = some o ∧ x = .int o 0 := by
              have e' : (vI owns)[i]? = some x := ei
              unfold vI at e'
              rw [List.getElem?_map] at e'
              obtain ⟨y, h1, h2⟩ := Option.map_eq_some_iff.mp e'
              exact ⟨y, h1, h2.symm⟩
            have hi : i < 3 := (List.getElem?_eq_some_iff.mp ho).1
            walk_at "st"
            refine' s_if_t rfl ?_
            walk_at "st"
            have hrl2 : rws.length ≤ 10 := by
              rw [← hrw, List.length_map]
              exact Nat.le_trans (List.length_filter_le _ _) hpl
            refine' s_compg (k := .lst Rw) (xs := rws) (fun L' => L' = [some (.ref P), some (.ref O), some (.ref F), some (.ref D), some (.str (nm y) 0), c2, some (.ref Rw), c4, none, some (.int o 0)] ∨ L' = [some (.ref P), some (.ref O), some (.ref F), some (.ref D), some (.str (nm y) 0), c2, some (.ref Rw), c4, none, some (.int o 0), none]) (fun i => (((ps.filter fun x => par x == y).take i).filter fun x => decide (o ∈ W x)).map fun x => (es.lookup (nm x)).getD .none) (.lst (s3 _ _ e1')) (by (first | lia | omega)) (.inl rfl) rfl ?_ ?_
            · intro k x ek L0 hL0 R hR
              rw [← hrw, List.getElem?_map] at ek
              obtain ⟨z, hz, rfl⟩ := Option.map_eq_some_iff.mp ek
              have hzm := List.mem_filter.mp (List.mem_of_getElem? hz)
              obtain ⟨r3, hr3, hr4⟩ := hkids z hzm.1 (by simpa using hzm.2)
              rw [hr3, Option.getD_some]
              rcases hL0 with rfl | rfl
              all_goals
                walk_at "st"
                refine' s_inI (s3 _ _ (s2 _ _ hr4)) ?_
                walk_at "st"
                by_cases hb : o ∈ W z
                · refine' s_if_t (decide_eq_true hb) ?_
                  walk_at "st"
                  refine' hR (some (.ref r3)) _ (.inr rfl) ?_
                  rw [take_snoc hz, List.filter_append, List.map_append]
                  congr 1
                  simp [hb, hr3]
                · refine' s_if_f (decide_eq_false hb) ?_
                  refine' hR none _ (.inr rfl) ?_
                  rw [take_snoc hz, List.filter_append, List.map_append]
                  simp [hb]
            intro cc L0 hL0 hcc
            have hrwl : rws.length = (ps.filter fun x => par x == y).length := by rw [← hrw, List.length_map]
            rw [hrwl, List.take_length]
            refine' s_len_l (upd_same _ _ _) (by
              rw [List.length_map]
              exact Nat.le_trans (List.length_filter_le _ _) (by (first | lia | omega))) ?_
            refine ⟨s3.upd_new hcc, hi, ?_, by rcases hL0 with rfl | rfl <;> rfl⟩
            rw [take_snoc ho, List.map_append, List.length_map]
            unfold vI
            rw [List.map_append]; rfl
      · refine by_ng fun ng => ?_
        obtain ⟨r, hr, rfl⟩ := refs_get e
        obtain ⟨⟨f0, o0⟩, hfi, hft⟩ := hfs.get hr
        refine ng ?_
        clear ng
        have hlt : i < frs.length := (List.getElem?_eq_some_iff.mp hr).1
        refine' s_unpack (hs _ _ hft) rfl ?_
        walk_at "st"
        refine' ⟨by show 1 ≤ sizeLine; decide, fun ol hol' => ?_⟩
        have s1 := (HSub.refl H').upd (ho := .lst (vI [o0])) hol'
        have e1 := upd_same H' ol (.lst (vI [o0]))
        generalize hH1 : upd H' ol (.lst (vI [o0])) = H1 at e1 s1
        have hH1' : upd H' ol (.lst [Value.int o0 0]) = H1 := hH1
        rw [hH1']
        walk_at "st"
        refine' s_setd (s1 _ _ hDv) (by (first | lia | omega)) fun ep' => ?_
        walk_at "st"
        refine hN _ _ ⟨(hs.trans s1).upd hD, hlt, ⟨_, ep', upd_same _ _ _, ?_, ?_⟩, _, _, rfl⟩
        · rw [take_snoc hfi, List.map_append]
          have hW0 : W f0 = [o0] := hWf _ (List.mem_of_getElem? hfi)
          refine WAt.upd ((hW.sub s1).put T (fun x hx => ?_) (hfr _ (List.mem_of_getElem? hfi)) (by rw [hW0]; exact e1)) (s1 _ _ hDv)
          obtain ⟨p, hp, rfl⟩ := List.mem_map.mp hx
          exact hfr p (List.mem_of_mem_take hp)
        · rw [putE_len]; split <;> (first | lia | omega)


theorem S_assign_two {C : Ctx} {env : Env} {T : List (Str × NK)} {a b : Str} {i j : Nat} {pa pb : Pos} {k k2 : Nat} {p1 p2 p : Pos} {e1 e2 : PySem.Expr} {w : W Value} {ys} (V : EnvOk C T env) (ha : (a, NK.slot i true) ∈ T) (hb : (b, NK.slot j false) ∈ T)
    (hx : OkAV C (eval (.Tuple [e1, e2] k2 p2) env) w) (ht : AsgnsOk C (assignEach [.Tuple [.Name a pa, .Name b pb] k p1] env) ys) :
    OkAF C (exec (.Assign [.Tuple [.Name a pa, .Name b pb] k p1] (.Tuple [e1, e2] k2 p2) p) env) (fun Q => w fun v => allW ys v fun _ => nextW Q) :=
  S_assign hx ht (by rfl) (by
    refine by_ng fun ng => ?_
    obtain ⟨c, hkd, _⟩ := V.nm a _ ha
    obtain ⟨hb', _⟩ := V.nm b _ hb
    refine ng ?_
    clear ng
    have hka : (env.kindOf a == some NameKind.local) = false := by rcases hkd with hkd | ⟨hkd, _⟩ <;> rw [hkd] <;> rfl
    unfold swappedStores
    have hbk : (env.blockKind != .function) = false := by unfold Env.blockKind; rw [V.fn]; rfl
    have hff : ∀ l, ([PySem.Expr.Name a pa, PySem.Expr.Name b pb].filterMap fun
      | .Name id pos => if (env.kindOf id == some .local && pos.line == l) = true then some id else none
      | _ => none).length ≤ 1 := fun l => by
      simp only [List.filterMap_cons, hka, Bool.false_and, Bool.false_eq_true, if_false, List.filterMap_nil]
      split <;> simp
    simp only [List.length_cons, List.length_nil, hbk]
    rw [if_neg (by decide)]
    have h2 := hff ((([PySem.Expr.Name a pa, PySem.Expr.Name b pb].head?).map (·.pos.line)).getD 0)
    generalize (List.filterMap _ [PySem.Expr.Name a pa, PySem.Expr.Name b pb]) = nms at h2 ⊢
    split
    · rfl
    · rw [if_pos]
      rw [Bool.or_eq_true]
      left
      rw [bne_iff_ne]
      exact fun z => by (first | lia | omega))
noncomputable def T38  : List (Str × NK) := [(Str.ofString "pairs", NK.slot 0 false), (Str.ofString "order", NK.slot 1 false), (Str.ofString "wanted", NK.slot 2 false), (Str.ofString "pick", NK.slot 3 false), (Str.ofString "rights", NK.slot 4 true), (Str.ofString "marks", NK.slot 5 false), (Str.ofString "path", NK.slot 6 true), (Str.ofString "over", NK.slot 7 false), (Str.ofString "len", .glob (.builtin "len"))]
noncomputable def G38  : List (Str × Value) := [(Str.ofString "len", .builtin "len")]
theorem tab38  : fnT (FS 38) (G38 ) = T38  := by kernel_rfl
theorem chk38 : scOk (FS 38) [Str.ofString "pairs", Str.ofString "order", Str.ofString "wanted", Str.ofString "pick"] = true := by decide +kernel
theorem bind38 {fd : FuncData} (hp : fd.params = FP 38) (hd : fd.defaults = .none) (hk : fd.kwdefaults = .none) (vs : List Value) (hl : vs.length = 4) : bindArgs fd ⟨vs, []⟩ = pure ([Str.ofString "pairs", Str.ofString "order", Str.ofString "wanted", Str.ofString "pick"].zip vs) := by
  refine by_ng fun ng => ?_
  obtain ⟨a0, a1, a2, a3, rfl⟩ := len4 hl
  obtain ⟨n, q, p, bd, sc, g, cl, df, kd, doc, pm, an, cd, ct, bu⟩ := fd
  refine ng ?_
  clear ng
  subst hp; subst hd; subst hk
  kernel_rfl
theorem ini38 (a0  a1  a2  a3 : Value) : iniOf (FS 38) ([Str.ofString "pairs", Str.ofString "order", Str.ofString "wanted", Str.ofString "pick"].zip [a0, a1, a2, a3]) = [some a0, some a1, some a2, some a3, none, none, none, none] := by kernel_rfl

theorem RdAll.ints (H : HA) : ∀ xs : List Int, RdAll H (vI xs) (xs.map PyData.int)
  | [] => .nil
  | x :: xs => .cons (.int x) (RdAll.ints H xs)
theorem s_neI {Q : Value → HA → Ls → Prop} {H : HA} {L : Ls} {a b : Addr} {xs ys : List Int} {r : Bool} (e1 : H a = some (.lst (vI xs))) (e2 : H b = some (.lst (vI ys))) (h1 : SeqAt.shaped (.list (xs.map .int)) = true) (h2 : SeqAt.shaped (.list (ys.map .int)) = true) (e : (!PyData.eqv (.list (xs.map .int)) (.list (ys.map .int))) = r) (h : Q (.bool r) H L) : cmpW .NotEq (.ref a) (.ref b) Q H L :=
  ⟨_, _, .lst e1 (RdAll.ints H xs), .lst e2 (RdAll.ints H ys), h1, h2, by rw [e]; exact h⟩
theorem s_rev {Q : Value → HA → Ls → Prop} {H : HA} {L : Ls} {a : Addr} {xs ys : List Value} (e : H a = some (.lst xs)) (f : xs.length ≤ 1048576) (er : xs.reverse = ys) (h : ∀ c, H c = none → Q (.ref c) (upd H c (.lst ys)) L) : (Value.int (-1) 0 = Value.int (-1) 0 ∧ ∃ b xs, Value.ref a = Value.ref b ∧ H b = some (HO.lst xs) ∧ xs.length ≤ 1048576 ∧ newW (HO.lst xs.reverse) Q H L) := ⟨rfl, a, xs, rfl, e, f, by rw [er]; exact h⟩
theorem filter_one {l : List Nat} (nd : l.Nodup) {y : Nat} (h : y ∈ l) : (l.filter fun x => x == y) = [y] := by
  induction l with
  | nil => cases h
  | cons a r ih =>
    rw [List.nodup_cons] at nd
    rw [List.filter_cons]
    by_cases q : a = y
    · subst q
      have : (r.filter fun x => x == a) = [] := by
        rw [List.filter_eq_nil_iff]
        intro x hx
        have : x ≠ a := fun z => nd.1 (z ▸ hx)
        simpa using this
      simp [this]
    · have hr := ih nd.2 ((List.mem_cons.mp h).resolve_left (Ne.symm q))
      simp [q, hr]
noncomputable def mkd (par : Nat → Nat) (W : Nat → List Int) (R : Nat → Int) (y : Nat) : Bool := decide (y = 0 ∨ R (par y) ∉ W y)
structure MAt (nm : Nat → Str) (R : Nat → Int) (mk : Nat → Bool) (es : List (Str × Value)) (S : List Nat) : Prop where
  at_ : ∀ x, x < 10 → es.lookup (nm x) = if x ∈ S ∧ mk x = true then some (.int (R x) 0) else none
  len : es.length = (S.filter mk).length
theorem MAt.skip {nm : Nat → Str} {R : Nat → Int} {mk : Nat → Bool} {es : List (Str × Value)} {S : List Nat} (h : MAt nm R mk es S) {y : Nat} (hy : mk y = false) : MAt nm R mk es (S ++ [y]) := by
  refine ⟨fun x hx => ?_, ?_⟩
  · rw [h.at_ x hx]
    by_cases q : x ∈ S ∧ mk x = true
    · rw [if_pos q, if_pos ⟨List.mem_append_left _ q.1, q.2⟩]
    · rw [if_neg q, if_neg]
      intro rr36
      obtain ⟨a, b⟩ := rr36
      rcases List.mem_append.mp a with a | a
      · exact q ⟨a, b⟩
      · rw [List.mem_singleton] at a; subst a; rw [hy] at b; cases b
  · rw [List.filter_append, h.len]; simp [hy]
theorem MAt.put {nm : Nat → Str} {par : Nat → Nat} (T : Tree nm par) {R : Nat → Int} {mk : Nat → Bool} {es : List (Str × Value)} {S : List Nat} (h : MAt nm R mk es S) {y : Nat} (hy : mk y = true) (hy10 : y < 10) (hn : y ∉ S) : MAt nm R mk (putE es (nm y) (.int (R y) 0)) (S ++ [y]) := by
  refine ⟨fun x hx => ?_, ?_⟩
  · rw [putE_lookup]
    by_cases q : nm x = nm y
    · have := T.inj _ _ hx hy10 q
      subst this
      rw [if_pos rfl, if_pos ⟨List.mem_append_right _ (List.mem_singleton.mpr rfl), hy⟩]
    · rw [if_neg q, h.at_ x hx]
      have hxy : x ≠ y := fun z => q (by rw [z])
      by_cases q' : x ∈ S ∧ mk x = true
      · rw [if_pos q', if_pos ⟨List.mem_append_left _ q'.1, q'.2⟩]
      · rw [if_neg q', if_neg]
        intro rr37
        obtain ⟨a, b⟩ := rr37
        rcases List.mem_append.mp a with a | a
        · exact q' ⟨a, b⟩
        · rw [List.mem_singleton] at a; exact hxy a
  · rw [putE_len, h.at_ y hy10, if_neg (c := y ∈ S ∧ mk y = true) fun z => hn z.1, List.filter_append, List.length_append, h.len]
    simp [hy]
inductive marksB (P : Addr) (O : Addr) (Wd : Addr) (pick : Int) (Q : Value → HA → Ls → Prop) (H : HA) (L : Ls) : Prop
  | mk (nm : _) (par : _) (k1 : Tree nm par) (ps od rv : List Nat) (W : Nat → List Int) (R : Nat → Int) (es : List (Str × Value)) (ep : Nat) (S : List Nat) (k2 : RefsAt (PairAt nm par) H P ps) (k3 : H O = some (.lst (vS (od.map nm)))) (k4 : od.reverse = rv) (k5 : H Wd = some (.dct es ep)) (k6 : WAt nm W H es S) (k7 : ps.length ≤ 10) (k8 : od.length ≤ 10) (k9 : ps.Nodup) (k10 : (∀ x ∈ ps, 0 < x ∧ x < 10)) (k11 : (∀ x ∈ rv, x < 10 ∧ x ∈ S ∧ (x = 0 ∨ x ∈ ps))) (k12 : rv.Nodup) (k13 : (∀ i y, rv[i]? = some y → 0 < y → par y ∈ rv.take i)) (k14 : (∀ y ∈ rv, W y ≠ [] ∧ (W y).length ≤ 3)) (k15 : (∀ y ∈ rv, mkd par W R y = true → (W y)[(pick.fmod (W y).length).toNat]? = some (R y))) (k16 : (∀ y ∈ rv, mkd par W R y = false → R y = R (par y))) (k17 : ∀ M H' es' ep', H M = none → HSub H H' → H' M = some (.dct es' ep') → MAt nm R (mkd par W R) es' rv → Q (.ref M) H' L) : marksB P O Wd pick Q H L
noncomputable def marksW : BW := fun vs Q H L => mR (fun P => mR (fun O => mR (fun Wd => mI (fun pick => mN (marksB P O Wd pick Q H L))))) vs
theorem marks_walk {B : Heap} (hB : Bas B) {n : Nat}   {f : Addr} {fd : FuncData} (Fi : FnIn B f fd (FB 38)) (hsc : fd.scope = FS 38) (hp : fd.params = FP 38) (hg : ∀ g ∈ G38 , GlobOk B fd.globals fd.builtins g.1 g.2) : FnA B (n + 1) f marksW := by
  have main := fn_ok (n := n) hB Fi (by rw [hsc]; exact chk38) hg (fun C _ vs => bind_args (bind38 hp Fi.dfl Fi.kwd) C vs) (fun C env le room V len0 =>
    have lenC : C.locs.length = 8 := len0.trans (by rw [hsc]; kernel_rfl)
    have V : EnvOk C (T38 ) env := tab_eq (hsc ▸ tab38 ) V
    have S := hB.stat le room
    have hh := room.handled
    (S_cons (S_assign_two V (.tail _ (.tail _ (.tail _ (.tail _ (.head _))))) (.tail _ (.tail _ (.tail _ (.tail _ (.tail _ (.head _)))))) (E_tuple (E_cons (E_dict0) (E_cons (E_dict0) E_nil))) (A_cons (A_tuple hh (A_cons (A_name V (.tail _ (.tail _ (.tail _ (.tail _ (.head _)))))) (A_cons (A_name V (.tail _ (.tail _ (.tail _ (.tail _ (.tail _ (.head _))))))) A_nil))) A_nil)) (S_cons (S_for hh S (E_rev (E_name V (.tail _ (.head _))) (E_neg (E_const _ _ _))) (A_name V (.tail _ (.tail _ (.tail _ (.tail _ (.tail _ (.tail _ (.head _)))))))) (S_cons (S_assign_compN V (.tail _ (.tail _ (.tail _ (.tail _ (.tail _ (.tail _ (.tail _ (.head _)))))))) (sc := ⟨ScopeKind.function, [(Str.ofString ".0", NameKind.local), (Str.ofString "one", NameKind.local), (Str.ofString "folder", NameKind.local), (Str.ofString "path", NameKind.free), (Str.ofString "rights", NameKind.free)], false, false, []⟩) lenC hh S V (by kernel_rfl) (E_name V (.head _)) (fun C1 env1 hA1 hP1 W1 len1 => have V1 : EnvOk C1 [(Str.ofString ".0", NK.slot 8 false), (Str.ofString "one", NK.slot 9 false), (Str.ofString "folder", NK.slot 10 false), (Str.ofString "rights", NK.slot 4 true), (Str.ofString "path", NK.slot 6 true), (Str.ofString "len", .hid (.builtin "len"))] env1 := tab_eq (by rw [lenC]; kernel_rfl) W1; have L1 : C1.locs.length = 12 := len1.trans (by rw [lenC]; kernel_rfl); have S1 := S.sub hA1 hP1; have hh1 : C1.A.handled = none := (by rw [hA1]; exact hh); have le1 := le.trans hP1; have room1 : Room C1.A n := (by rw [hA1]; exact room); ⟨(A_tuple hh1 (A_cons (A_name V1 (.tail _ (.head _))) (A_cons (A_name V1 (.tail _ (.tail _ (.head _)))) A_nil))), (C_one (T_cmp S1 (E_name V1 (.tail _ (.head _))) (E_name V1 (.tail _ (.tail _ (.tail _ (.tail _ (.head _)))))))), (E_sub (E_name V1 (.tail _ (.tail _ (.tail _ (.head _))))) (E_name V1 (.tail _ (.tail _ (.head _)))))⟩)) (S_cons (S_if (T_and (T_cmp S (E_name V (.tail _ (.tail _ (.tail _ (.tail _ (.tail _ (.tail _ (.tail _ (.head _))))))))) (E_list E_nil)) (T_cmp S (E_sub (E_name V (.tail _ (.tail _ (.tail _ (.tail _ (.tail _ (.tail _ (.tail _ (.head _))))))))) (E_const _ _ _)) (E_sub (E_name V (.tail _ (.tail _ (.head _)))) (E_name V (.tail _ (.tail _ (.tail _ (.tail _ (.tail _ (.tail _ (.head _))))))))))) (S_cons (S_assign (E_sub (E_name V (.tail _ (.tail _ (.tail _ (.tail _ (.tail _ (.tail _ (.tail _ (.head _))))))))) (E_const _ _ _)) (A_cons (A_sub (E_name V (.tail _ (.tail _ (.tail _ (.tail _ (.head _)))))) (E_name V (.tail _ (.tail _ (.tail _ (.tail _ (.tail _ (.tail _ (.head _))))))))) A_nil)) S_nil) (S_cons (S_assign (E_sub (E_sub (E_name V (.tail _ (.tail _ (.head _)))) (E_name V (.tail _ (.tail _ (.tail _ (.tail _ (.tail _ (.tail _ (.head _))))))))) (E_bin (E_name V (.tail _ (.tail _ (.tail _ (.head _))))) (E_call V (.tail _ (.tail _ (.tail _ (.tail _ (.tail _ (.tail _ (.tail _ (.tail _ (.head _))))))))) (.inl ⟨_, rfl⟩) (E_cons (E_sub (E_name V (.tail _ (.tail _ (.head _)))) (E_name V (.tail _ (.tail _ (.tail _ (.tail _ (.tail _ (.tail _ (.head _))))))))) E_nil) b_len))) (A_cons (A_sub (E_name V (.tail _ (.tail _ (.tail _ (.tail _ (.head _)))))) (E_name V (.tail _ (.tail _ (.tail _ (.tail _ (.tail _ (.tail _ (.head _))))))))) A_nil)) (S_cons (S_assign (E_sub (E_name V (.tail _ (.tail _ (.tail _ (.tail _ (.head _)))))) (E_name V (.tail _ (.tail _ (.tail _ (.tail _ (.tail _ (.tail _ (.head _))))))))) (A_cons (A_sub (E_name V (.tail _ (.tail _ (.tail _ (.tail _ (.tail _ (.head _))))))) (E_name V (.tail _ (.tail _ (.tail _ (.tail _ (.tail _ (.tail _ (.head _))))))))) A_nil)) S_nil))) S_nil)) S_nil) (S_cons (S_ret (E_name V (.tail _ (.tail _ (.tail _ (.tail _ (.tail _ (.head _)))))))) S_nil))))
  refine main.spec ?_
  clear main
  rw [hsc]
  intro vs Q H L h
  refine by_ng fun ng => ?_
  obtain ⟨P, r0, rfl, hq0⟩ := mR_inv h
  obtain ⟨O, r1, rfl, hq1⟩ := mR_inv hq0
  obtain ⟨Wd, r2, rfl, hq2⟩ := mR_inv hq1
  obtain ⟨pick, tpk, r3, rfl, hq3⟩ := mI_inv hq2
  obtain ⟨rfl, hq4⟩ := mN_inv hq3
  refine ng ?_
  clear ng
  replace h := hq4
  · skip
    refine by_ng fun ng => ?_
    obtain ⟨nm, par, T, ps, od, rv, W, R, wes, wep, S, hP, hO, hrv, hWd, hWA, hpl, hol, hpn, hpr, hrr, hrn, hch, hW1, hR1, hR2, hq⟩ := h
    refine ng ?_
    clear ng
    have hrl : rv.length = od.length := by rw [← hrv, List.length_reverse]
    refine ⟨rfl, ?_⟩
    refine' s_start (ini38 _ _ _ _) ?_
    walk_at "st"
    intro d1 hd1 d2 hd2
    obtain ⟨hd2', hd21⟩ := none_upd hd2
    refine' ⟨by show 2 ≤ sizeLine; decide, fun tt htt => ?_⟩
    obtain ⟨htt1, htt2⟩ := none_upd htt
    walk_at "st"
    refine' s_unpack (upd_same _ _ _) rfl ?_
    walk_at "st"
    have s0 : HSub H (upd (upd (upd H d1 (HO.dct [] 0)) d2 (HO.dct [] 0)) tt (HO.tup [Value.ref d1, Value.ref d2])) := (((HSub.refl H).upd hd1).trans ((HSub.refl _).upd hd2)).trans ((HSub.refl _).upd htt)
    have g1 : upd (upd (upd H d1 (HO.dct [] 0)) d2 (HO.dct [] 0)) tt (HO.tup [Value.ref d1, Value.ref d2]) d1 = some (.dct [] 0) := by
      obtain ⟨a, b⟩ := none_upd htt1
      rw [upd_ne _ _ (Ne.symm b), upd_ne _ _ (Ne.symm hd21), upd_same]
    have g2 : upd (upd (upd H d1 (HO.dct [] 0)) d2 (HO.dct [] 0)) tt (HO.tup [Value.ref d1, Value.ref d2]) d2 = some (.dct [] 0) := by
      rw [upd_ne _ _ (Ne.symm htt2), upd_same]
    generalize upd (upd (upd H d1 (HO.dct [] 0)) d2 (HO.dct [] 0)) tt (HO.tup [Value.ref d1, Value.ref d2]) = H0 at s0 g1 g2
    refine' s_rev (s0 _ _ hO) (by simp only [vS_len, List.length_map]; (first | lia | omega)) (ys := vS (rv.map nm)) (by rw [← hrv]; unfold vS; simp) fun rl hrl' => ?_
    have s1 := s0.upd_new (ho := .lst (vS (rv.map nm))) hrl'
    have e1 := upd_same H0 rl (.lst (vS (rv.map nm)))
    have g1' := (HSub.refl H0).upd (ho := .lst (vS (rv.map nm))) hrl' _ _ g1
    have g2' := (HSub.refl H0).upd (ho := .lst (vS (rv.map nm))) hrl' _ _ g2
    have rd1 : rl ≠ d1 := fun z => by rw [z, g1] at hrl'; cases hrl'
    have rd2 : rl ≠ d2 := fun z => by rw [z, g2] at hrl'; cases hrl'
    generalize upd H0 rl (.lst (vS (rv.map nm))) = H1 at s1 e1 g1' g2'
    clear g1 g2 s0 htt htt1 htt2
    refine' s_for (k := .lst rl) (xs := vS (rv.map nm)) (fun i H' L' => HSub H H' ∧ H' rl = some (.lst (vS (rv.map nm))) ∧ i ≤ rv.length ∧ (∃ re rep me mep, H' d1 = some (.dct re rep) ∧ H' d2 = some (.dct me mep) ∧ re.length ≤ i ∧ (∀ x ∈ rv.take i, re.lookup (nm x) = some (.int (R x) 0)) ∧ MAt nm R (mkd par W R) me (rv.take i)) ∧ ∃ c1 c2, L' = [some (.ref P), some (.ref O), some (.ref Wd), some (.int pick tpk), some (.ref d1), some (.ref d2), c1, c2]) (.lst e1) ?_ ?_
    · exact ⟨s1, e1, Nat.zero_le _, ⟨[], 0, [], 0, g1', g2', Nat.le_refl _, fun x hx => (by simp at hx), ⟨fun x hx => by simp, rfl⟩⟩, none, none, rfl⟩
    clear g1' g2' s1 e1
    intro i H' L' rr38
    refine by_ng fun ng => ?_
    obtain ⟨hs, hrlv, hi, ⟨re, rep, me, mep, hd1v, hd2v, hrel, hre, hme⟩, c1, c2, rfl⟩ := rr38
    refine ng ?_
    clear ng
    refine ⟨.lst hrlv, fun e => ?_, fun x e QN hN hC => ?_⟩
    · have hi' : rv.length ≤ i := by
        rw [List.getElem?_eq_none_iff] at e; simpa using e
      rw [List.take_of_length_le hi'] at hme
      walk_at "st"
      exact ⟨H', HSub.refl _, hq d2 H' me mep hd2' hs hd2v hme⟩
    · obtain ⟨y, hy, rfl⟩ : ∃ y, rv[i]? = some y ∧ x = .str (nm y) 0 := by
        unfold vS at e
        rw [List.map_map, List.getElem?_map] at e
        obtain ⟨y, h1, h2⟩ := Option.map_eq_some_iff.mp e
        exact ⟨y, h1, h2.symm⟩
      have hilt : i < rv.length := (List.getElem?_eq_some_iff.mp hy).1
      have hym := List.mem_of_getElem? hy
      refine by_ng fun ng => ?_
      obtain ⟨hy10, hyS, hyp⟩ := hrr y hym
      obtain ⟨hWn, hWl⟩ := hW1 y hym
      obtain ⟨wr, hwr1, hwr2⟩ := hWA.has y hyS
      refine ng ?_
      clear ng
      have hyn : y ∉ rv.take i := fun h => by
        obtain ⟨j, hj, hjy⟩ := List.getElem_of_mem h
        rw [List.getElem_take] at hjy
        have hj' : j < i := by rw [List.length_take] at hj; (first | lia | omega)
        have h1 := List.getElem?_eq_some_iff.mp hy
        obtain ⟨h2, h3⟩ := h1
        exact absurd ((List.getElem_inj hrn).mp (hjy.trans h3.symm)) (by (first | lia | omega))
      walk_at "st"
      obtain ⟨prs, hPv, hps⟩ := hP.pairs hs
      have hprl := hps.length
      refine' s_compf (k := .lst P) (xs := prs.map Value.ref) (fun i => ((ps.take i).filter fun x => x == y).map fun x => .int (R (par x)) 0) (.lst hPv) (by rw [List.length_map]; (first | lia | omega)) rfl rfl ?_ ?_
      · intro k x ek Rr hR
        refine by_ng fun ng => ?_
        obtain ⟨r', hr', rfl⟩ := refs_get ek
        obtain ⟨z, hz, hzt⟩ := hps.get hr'
        refine ng ?_
        clear ng
        have hzp := hpr z (List.mem_of_getElem? hz)
        refine' s_unpack hzt rfl ?_
        walk_at "st"
        by_cases hzy : z = y
        · subst hzy
          refine' s_if_t (by simp) ?_
          walk_at "st"
          refine' s_dct hd1v (hre _ (hch i z hy hzp.1)) ?_
          refine' hR (some (.int (R (par z)) 0)) _ rfl ?_
          rw [take_snoc hz, List.filter_append, List.map_append]
          congr 1
          simp
        · refine' s_if_f (by
            rw [beq_eq_false_iff_ne]
            exact fun q => hzy (T.inj _ _ hzp.2 hy10 q)) ?_
          refine' hR none _ rfl ?_
          rw [take_snoc hz, List.filter_append, List.map_append]
          simp [hzy]
      intro ov hov
      rw [List.length_map, hprl, List.take_length]
      have hover : ((ps.filter fun x => x == y).map fun x => Value.int (R (par x)) 0) = vI (if y = 0 then [] else [R (par y)]) := by
        by_cases y0 : y = 0
        · subst y0
          rw [if_pos rfl]
          have : (ps.filter fun x => x == 0) = [] := by
            rw [List.filter_eq_nil_iff]
            intro x hx
            have := (hpr x hx).1
            simp; (first | lia | omega)
          rw [this]; rfl
        · rw [if_neg y0]
          have hyps : y ∈ ps := hyp.resolve_left y0
          have : (ps.filter fun x => x == y) = [y] := filter_one hpn hyps
          rw [this]; rfl
      rw [hover]
      have s2 := (HSub.refl H').upd (ho := .lst (vI (if y = 0 then [] else [R (par y)]))) hov
      have e2 := upd_same H' ov (.lst (vI (if y = 0 then [] else [R (par y)])))
      generalize upd H' ov (.lst (vI (if y = 0 then [] else [R (par y)]))) = H2 at s2 e2
      walk_at "st"
      refine' ⟨by show 0 ≤ sizeLine; decide, fun nl hnl => ?_⟩
      have s3 := s2.upd_new (ho := .lst []) hnl
      have e3 := upd_same H2 nl (.lst [])
      have e2' := (HSub.refl H2).upd (ho := .lst []) hnl _ _ e2
      generalize upd H2 nl (.lst []) = H3 at s3 e3 e2'
      have hre' : ∀ x ∈ rv.take (i + 1), (putE re (nm y) (.int (R y) 0)).lookup (nm x) = some (.int (R x) 0) := fun x hx => by
        rw [take_snoc hy] at hx
        rw [putE_lookup]
        by_cases q : nm x = nm y
        · have hx10 : x < 10 := by
            rcases List.mem_append.mp hx with hx | hx
            · exact (hrr x (List.mem_of_mem_take hx)).1
            · rw [List.mem_singleton] at hx; rw [hx]; exact hy10
          have := T.inj _ _ hx10 hy10 q
          rw [if_pos q, this]
        · rw [if_neg q]
          rcases List.mem_append.mp hx with hx | hx
          · exact hre x hx
          · rw [List.mem_singleton] at hx; rw [hx] at q; exact absurd rfl q
      have hrel' : (putE re (nm y) (.int (R y) 0)).length ≤ i + 1 := by rw [putE_len]; split <;> (first | lia | omega)
      have hmel : me.length ≤ i := by
        rw [hme.len]
        exact Nat.le_trans (List.length_filter_le _ _) (by rw [List.length_take]; (first | lia | omega))
      have hd1v3 := s3 _ _ hd1v
      have hd2v3 := s3 _ _ hd2v
      have hrlv3 := s3 _ _ hrlv
      have hWd3 := s3 _ _ (hs _ _ hWd)
      have hwr3 := s3 _ _ (hs _ _ hwr2)
      have hs3 := hs.trans s3
      have hd12 : d2 ≠ d1 := hd21
      clear hs s2 s3 e2 hd1v hd2v hrlv hWd hwr2 hPv hps hprl hP hO hWA hnl hov
      by_cases y0 : y = 0
      · have hmk : mkd par W R y = true := by unfold mkd; rw [decide_eq_true_eq]; exact .inl y0
        rw [if_pos y0] at e2'
        refine' s_neI (xs := []) (ys := []) (r := false) e2' e3 rfl rfl rfl ?_
        walk_at "st"
        refine' s_if_f rfl ?_
        refine' s_if_f rfl ?_
        walk_at "st"
        refine' s_dct hWd3 hwr1 ?_
        walk_at "st"
        refine' s_dct hWd3 hwr1 ?_
        refine' s_len_l hwr3 (by rw [vI_len]; (first | lia | omega)) ?_
        have hpos : 0 < (W y).length := List.length_pos_iff.mpr hWn
        rw [vI_len]
        refine' s_mod (by (first | lia | omega)) ?_
        have h1 : 0 ≤ pick.fmod (W y).length := Int.fmod_nonneg_of_pos _ (by (first | lia | omega))
        have h2 : pick.fmod (W y).length < (W y).length := Int.fmod_lt_of_pos _ (by (first | lia | omega))
        refine' s_list hwr3 (by unfold fits; (first | lia | omega)) (v := .int (R y) 0) (at_lt h1 (by rw [vI_len]; exact h2) (by unfold vI; rw [List.getElem?_map, hR1 y hym hmk]; rfl)) ?_
        walk_at "st"
        refine' s_setd hd1v3 (by (first | lia | omega)) fun ep1 => ?_
        walk_at "st"
        refine' s_dct (upd_same _ _ _) (by rw [putE_lookup, if_pos rfl]) ?_
        walk_at "st"
        refine' s_setd ((upd_ne _ _ hd12).trans hd2v3) (by (first | lia | omega)) fun ep2 => ?_
        walk_at "st"
        refine hN _ _ ⟨(hs3.upd hd1).upd hd2', (upd_ne _ _ (fun z => by rw [z, hd2v3] at hrlv3; cases hrlv3)).trans ((upd_ne _ _ (fun z => by rw [z, hd1v3] at hrlv3; cases hrlv3)).trans hrlv3), hilt, ⟨_, ep1, _, ep2, (upd_ne _ _ (Ne.symm hd12)).trans (upd_same _ _ _), upd_same _ _ _, hrel', hre', ?_⟩, _, _, rfl⟩
        rw [take_snoc hy]; exact hme.put T hmk hy10 hyn
      · rw [if_neg y0] at e2'
        refine' s_neI (xs := [R (par y)]) (ys := []) (r := true) e2' e3 rfl rfl rfl ?_
        walk_at "st"
        refine' s_if_t rfl ?_
        walk_at "st"
        refine' s_list e2' (by unfold fits; decide) (v := .int (R (par y)) 0) rfl ?_
        walk_at "st"
        refine' s_dct hWd3 hwr1 ?_
        refine' s_inI hwr3 ?_
        walk_at "st"
        by_cases hin : R (par y) ∈ W y
        · have hmk : mkd par W R y = false := by
            unfold mkd; rw [decide_eq_false_iff_not, not_or, Classical.not_not]; exact ⟨y0, hin⟩
          refine' s_if_t (decide_eq_true hin) ?_
          walk_at "st"
          refine' s_list e2' (by unfold fits; decide) (v := .int (R (par y)) 0) rfl ?_
          walk_at "st"
          refine' s_setd hd1v3 (by (first | lia | omega)) fun ep1 => ?_
          walk_at "st"
          rw [← hR2 y hym hmk]
          refine hN _ _ ⟨hs3.upd hd1, (upd_ne _ _ (fun z => by rw [z, hd1v3] at hrlv3; cases hrlv3)).trans hrlv3, hilt, ⟨_, ep1, me, mep, upd_same _ _ _, (upd_ne _ _ hd12).trans hd2v3, hrel', hre', ?_⟩, _, _, rfl⟩
          rw [take_snoc hy]; exact hme.skip hmk
        · have hmk : mkd par W R y = true := by unfold mkd; rw [decide_eq_true_eq]; exact .inr hin
          refine' s_if_f (decide_eq_false hin) ?_
          walk_at "st"
          refine' s_dct hWd3 hwr1 ?_
          walk_at "st"
          refine' s_dct hWd3 hwr1 ?_
          refine' s_len_l hwr3 (by rw [vI_len]; (first | lia | omega)) ?_
          have hpos : 0 < (W y).length := List.length_pos_iff.mpr hWn
          rw [vI_len]
          refine' s_mod (by (first | lia | omega)) ?_
          have h1 : 0 ≤ pick.fmod (W y).length := Int.fmod_nonneg_of_pos _ (by (first | lia | omega))
          have h2 : pick.fmod (W y).length < (W y).length := Int.fmod_lt_of_pos _ (by (first | lia | omega))
          refine' s_list hwr3 (by unfold fits; (first | lia | omega)) (v := .int (R y) 0) (at_lt h1 (by rw [vI_len]; exact h2) (by unfold vI; rw [List.getElem?_map, hR1 y hym hmk]; rfl)) ?_
          walk_at "st"
          refine' s_setd hd1v3 (by (first | lia | omega)) fun ep1 => ?_
          walk_at "st"
          refine' s_dct (upd_same _ _ _) (by rw [putE_lookup, if_pos rfl]) ?_
          walk_at "st"
          refine' s_setd ((upd_ne _ _ hd12).trans hd2v3) (by (first | lia | omega)) fun ep2 => ?_
          walk_at "st"
          refine hN _ _ ⟨(hs3.upd hd1).upd hd2', (upd_ne _ _ (fun z => by rw [z, hd2v3] at hrlv3; cases hrlv3)).trans ((upd_ne _ _ (fun z => by rw [z, hd1v3] at hrlv3; cases hrlv3)).trans hrlv3), hilt, ⟨_, ep1, _, ep2, (upd_ne _ _ (Ne.symm hd12)).trans (upd_same _ _ _), upd_same _ _ _, hrel', hre', ?_⟩, _, _, rfl⟩
          rw [take_snoc hy]; exact hme.put T hmk hy10 hyn


section
variable {C : Ctx} {env : Env} {T : List (Str × NK)}
theorem E_and {l r : PySem.Expr} {p : Pos} {x y : W Value} (hl : OkAV C (eval l env) x) (hr : OkAV C (eval r env) y) : OkAV C (eval (.BoolOp .And [l, r] p) env) (fun Q => x fun a => truthW a fun b H L => if b = true then y Q H L else Q a H L) := by
  rw [arm_eval_BoolOp]
  show OkAV C (boolOp p .And [eval l env, eval r env]) _
  unfold boolOp
  refine OkA.bind (y := fun a Q => truthW a fun b H L => if b = true then y Q H L else Q a H L) hl fun a => OkA.stand ?_
  refine OkA.bind (e := fun b : Bool => b) (y := fun b Q H L => if b = true then y Q H L else Q (er a) H L) (OkA.holding <| OkA.mk fun P h => truth_ok a) fun b => ?_
  cases b with
  | false => exact OkA.ret a
  | true => exact hr
noncomputable def addLW (a b : Value) : W Value := fun Q H L => ∃ p q xs ys, a = .ref p ∧ b = .ref q ∧ H p = some (.lst xs) ∧ H q = some (.lst ys) ∧ xs.length + ys.length ≤ 1048575 ∧ newW (.lst (xs ++ ys)) Q H L
theorem addL_ok (a b : Value) : OkV C (binaryOp .Add a b) (addLW (er a) (er b)) := by
  intro s H L Q _ r rr39
  refine by_ng fun ng => ?_
  obtain ⟨p, q, xs, ys, ha, hb, h1, h2, h3, h4⟩ := rr39
  refine ng ?_
  clear ng
  rw [er_ref ha, er_ref hb]
  refine by_ng fun ng => ?_
  obtain ⟨_, its, n, ho, hx⟩ := r.hp _ _ h1
  obtain ⟨_, its2, n2, ho2, hx2⟩ := r.hp _ _ h2
  refine ng ?_
  clear ng
  have l1 : its.size = xs.length := by rw [← hx]; simp
  have l2 : its2.size = ys.length := by rw [← hx2]; simp
  refine PySem.P.add_list ho ho2 (Post.hp0 (r.alloc (ho := .lst (xs ++ ys)) _ ⟨its ++ its2, _, Heap.get?_push_size _ rfl, by rw [← hx, ← hx2]; simp⟩) (h4 _ r.fresh)) (Nat.le_trans (by (first | lia | omega) : its.size + its2.size ≤ 1048575) (by decide))
theorem E_addL {l r : PySem.Expr} {p : Pos} {x y : W Value} (hl : OkAV C (eval l env) x) (hr : OkAV C (eval r env) y) : OkAV C (eval (.BinOp l .Add r p) env) (fun Q => x fun a => y fun b => addLW a b Q) := by
  rw [arm_eval_BinOp]
  exact OkA.bind (y := fun a Q => y fun b => addLW a b Q) hl fun a => OkA.bind (y := fun b Q => addLW (er a) b Q) hr.holding fun b => OkA.stand (OkA.operate <| OkA.mk fun P h => addL_ok a b)
end
noncomputable def T40  : List (Str × NK) := [(Str.ofString "above", NK.slot 0 false), (Str.ofString "drawn", NK.slot 1 false), (Str.ofString "ways", NK.slot 2 false), (Str.ofString "k", NK.slot 3 true), (Str.ofString "wider", NK.slot 4 false), (Str.ofString "who", NK.slot 5 true), (Str.ofString "others", NK.slot 6 false), (Str.ofString "rights", NK.slot 7 false), (Str.ofString "marks", NK.slot 8 false), (Str.ofString "same", NK.slot 9 false), (Str.ofString "fewest", NK.slot 10 true), (Str.ofString "heads", NK.slot 11 true), (Str.ofString "range", .glob (.type "range")), (Str.ofString "len", .glob (.builtin "len")), (Str.ofString "min", .glob (.builtin "min"))]
noncomputable def G40  : List (Str × Value) := [(Str.ofString "range", .type "range"), (Str.ofString "len", .builtin "len"), (Str.ofString "min", .builtin "min")]
theorem tab40  : fnT (FS 40) (G40 ) = T40  := by kernel_rfl
theorem chk40 : scOk (FS 40) [Str.ofString "above", Str.ofString "drawn"] = true := by decide +kernel
theorem bind40 {fd : FuncData} (hp : fd.params = FP 40) (hd : fd.defaults = .none) (hk : fd.kwdefaults = .none) (vs : List Value) (hl : vs.length = 2) : bindArgs fd ⟨vs, []⟩ = pure ([Str.ofString "above", Str.ofString "drawn"].zip vs) := by
  refine by_ng fun ng => ?_
  obtain ⟨a0, a1, rfl⟩ := len2 hl
  obtain ⟨n, q, p, bd, sc, g, cl, df, kd, doc, pm, an, cd, ct, bu⟩ := fd
  refine ng ?_
  clear ng
  subst hp; subst hd; subst hk
  kernel_rfl
theorem ini40 (a0  a1 : Value) : iniOf (FS 40) ([Str.ofString "above", Str.ofString "drawn"].zip [a0, a1]) = [some a0, some a1, none, none, none, none, none, none, none, none, none, none] := by kernel_rfl

theorem HSub.none {H H' : HA} (h : HSub H H') {a : Addr} (e : H' a = none) : H a = none := by
  cases q : H a with
  | none => rfl
  | some ho => rw [h _ _ q] at e; cases e
theorem s_ife {Q : Value → HA → Ls → Prop} {H : HA} {L : Ls} {b : Bool} {i j : Int} (h : Q (.int (if b = true then i else j) 0) H L) : if b = true then constW (.int i) Q H L else constW (.int j) Q H L := by
  cases b <;> exact h
theorem s_addL {Q : Value → HA → Ls → Prop} {H : HA} {L : Ls} {p q : Addr} {xs ys : List Value} (h1 : H p = some (.lst xs)) (h2 : H q = some (.lst ys)) (h3 : xs.length + ys.length ≤ 1048575) (h : ∀ c, H c = none → Q (.ref c) (upd H c (.lst (xs ++ ys))) L) : addLW (.ref p) (.ref q) Q H L := ⟨p, q, xs, ys, rfl, rfl, h1, h2, h3, h⟩
noncomputable def wstep (abv : Nat → Nat) (oth : Nat → Int → Nat) (k : Nat) (o : Int) (w : List Int × Nat) : List Int × Nat := (w.1 ++ [o], w.2 + oth k o + if decide (0 < k ∧ w.1[abv k]? = some o) = true then 0 else 1)
noncomputable def ways (abv : Nat → Nat) (oth : Nat → Int → Nat) : Nat → List (List Int × Nat)
  | 0 => [([], 0)]
  | k + 1 => owns.flatMap fun o => (ways abv oth k).map (wstep abv oth k o)
theorem ways_len (abv : Nat → Nat) (oth : Nat → Int → Nat) : ∀ k, (ways abv oth k).length = 3 ^ k
  | 0 => rfl
  | k + 1 => by
    have := ways_len abv oth k
    unfold ways owns
    simp only [List.flatMap_cons, List.flatMap_nil, List.length_append, List.length_map, this, List.length_nil]
    (first | lia | omega)
theorem ways_at (abv : Nat → Nat) (oth : Nat → Int → Nat) : ∀ k, ∀ w ∈ ways abv oth k, w.1.length = k
  | 0, w, h => by rw [List.mem_singleton.mp h]; rfl
  | k + 1, w, h => by
    refine by_ng fun ng => ?_
    obtain ⟨o, _, h⟩ := List.mem_flatMap.mp h
    obtain ⟨w', h', rfl⟩ := List.mem_map.mp h
    refine ng ?_
    clear ng
    show (w'.1 ++ [o]).length = k + 1
    rw [List.length_append, ways_at abv oth k w' h']; rfl
noncomputable def othersOf (dl : List (Nat × Int)) (k : Nat) (o : Int) : Nat := (dl.filter fun p => p.1 == k && p.2 != o).length
noncomputable def DrAt (H : HA) (r : Addr) (p : Nat × Int) : Prop := ∃ a b, H r = some (.tup [.int (p.1 : Int) 0, .int p.2 0, .str a 0, .str b 0])
noncomputable def WayAt (H : HA) (r : Addr) (w : List Int × Nat) : Prop := ∃ q, H r = some (.tup [.ref q, .int (w.2 : Int) 0]) ∧ H q = some (.lst (vI w.1))
noncomputable def WayX (X : Addr) (H : HA) (r : Addr) (w : List Int × Nat) : Prop := ∃ q, q ≠ X ∧ r ≠ X ∧ H r = some (.tup [.ref q, .int (w.2 : Int) 0]) ∧ H q = some (.lst (vI w.1))
theorem WayAt.sub {H H' : HA} (h : HSub H H') {r : Addr} {w : List Int × Nat} (k : WayAt H r w) : WayAt H' r w := let ⟨q, a, b⟩ := k; ⟨q, h _ _ a, h _ _ b⟩
theorem WayX.sub {X : Addr} {H H' : HA} (h : ∀ a, a ≠ X → ∀ ho, H a = some ho → H' a = some ho) {r : Addr} {w : List Int × Nat} (k : WayX X H r w) : WayX X H' r w := let ⟨q, c, d, a, b⟩ := k; ⟨q, c, d, h _ d _ a, h _ c _ b⟩
inductive fewestB (A : Addr) (D : Addr) (Q : Value → HA → Ls → Prop) (H : HA) (L : Ls) : Prop
  | mk (abv : Nat → Nat) (dl : List (Nat × Int)) (k1 : H A = some (.lst (vI ((List.range 4).map fun k => (abv k : Int))))) (k2 : (∀ k, 0 < k → k < 4 → abv k < k)) (k3 : RefsAt DrAt H D dl) (k4 : dl.length ≤ 6) (k5 : ∀ T H' hr (M : Nat), H T = none → HSub H H' → H' T = some (.tup [.int (M : Int) 0, .ref hr]) → H' hr = some (.lst (vI (owns.filter fun o => (ways abv (othersOf dl) 4).any fun w => w.2 == M && w.1.head? == some o))) → (∃ w ∈ ways abv (othersOf dl) 4, w.2 = M) → (∀ w ∈ ways abv (othersOf dl) 4, M ≤ w.2) → Q (.ref T) H' L) : fewestB A D Q H L
noncomputable def fewestW : BW := fun vs Q H L => mR (fun A => mR (fun D => mN (fewestB A D Q H L))) vs
theorem fewest_walk {B : Heap} (hB : Bas B) {n : Nat}   {f : Addr} {fd : FuncData} (Fi : FnIn B f fd (FB 40)) (hsc : fd.scope = FS 40) (hp : fd.params = FP 40) (hg : ∀ g ∈ G40 , GlobOk B fd.globals fd.builtins g.1 g.2) : FnA B (n + 1) f fewestW := by
  have main := fn_ok (n := n) hB Fi (by rw [hsc]; exact chk40) hg (fun C _ vs => bind_args (bind40 hp Fi.dfl Fi.kwd) C vs) (fun C env le room V len0 =>
    have lenC : C.locs.length = 12 := len0.trans (by rw [hsc]; kernel_rfl)
    have V : EnvOk C (T40 ) env := tab_eq (hsc ▸ tab40 ) V
    have S := hB.stat le room
    have hh := room.handled
    (S_cons (S_assign (E_list (E_cons (E_tuple (E_cons (E_list E_nil) (E_cons (E_const _ _ _) E_nil))) E_nil)) (A_cons (A_name V (.tail _ (.tail _ (.head _)))) A_nil)) (S_cons (S_for hh S (E_call V (.tail _ (.tail _ (.tail _ (.tail _ (.tail _ (.tail _ (.tail _ (.tail _ (.tail _ (.tail _ (.tail _ (.tail _ (.head _))))))))))))) (.inr (.inl ⟨_, rfl⟩)) (E_cons (E_const _ _ _) E_nil) b_range) (A_name V (.tail _ (.tail _ (.tail _ (.head _))))) (S_cons (S_assign (E_list E_nil) (A_cons (A_name V (.tail _ (.tail _ (.tail _ (.tail _ (.head _)))))) A_nil)) (S_cons (S_for hh S (E_list (E_consts (vs := [.int 0 0, .int 7 0, .int 40 0]) (by kernel_rfl))) (A_name V (.tail _ (.tail _ (.tail _ (.tail _ (.tail _ (.head _))))))) (S_cons (S_assign (E_call V (.tail _ (.tail _ (.tail _ (.tail _ (.tail _ (.tail _ (.tail _ (.tail _ (.tail _ (.tail _ (.tail _ (.tail _ (.tail _ (.head _)))))))))))))) (.inl ⟨_, rfl⟩) (E_cons (E_compN (sc := ⟨ScopeKind.function, [(Str.ofString ".0", NameKind.local), (Str.ofString "place", NameKind.local), (Str.ofString "owner", NameKind.local), (Str.ofString "named", NameKind.local), (Str.ofString "owned", NameKind.local), (Str.ofString "k", NameKind.free), (Str.ofString "who", NameKind.free)], false, false, []⟩) lenC hh S V (by kernel_rfl) (E_name V (.tail _ (.head _))) (fun C4 env4 hA4 hP4 W4 len4 => have V4 : EnvOk C4 [(Str.ofString ".0", NK.slot 12 false), (Str.ofString "place", NK.slot 13 false), (Str.ofString "owner", NK.slot 14 false), (Str.ofString "named", NK.slot 15 false), (Str.ofString "owned", NK.slot 16 false), (Str.ofString "k", NK.slot 3 true), (Str.ofString "who", NK.slot 5 true), (Str.ofString "range", .hid (.type "range")), (Str.ofString "len", .hid (.builtin "len")), (Str.ofString "min", .hid (.builtin "min"))] env4 := tab_eq (by rw [lenC]; kernel_rfl) W4; have L4 : C4.locs.length = 18 := len4.trans (by rw [lenC]; kernel_rfl); have S4 := S.sub hA4 hP4; have hh4 : C4.A.handled = none := (by rw [hA4]; exact hh); have le4 := le.trans hP4; have room4 : Room C4.A n := (by rw [hA4]; exact room); ⟨(A_tuple hh4 (A_cons (A_name V4 (.tail _ (.head _))) (A_cons (A_name V4 (.tail _ (.tail _ (.head _)))) (A_cons (A_name V4 (.tail _ (.tail _ (.tail _ (.head _))))) (A_cons (A_name V4 (.tail _ (.tail _ (.tail _ (.tail _ (.head _)))))) A_nil))))), (C_one (T_and (T_cmp S4 (E_name V4 (.tail _ (.head _))) (E_name V4 (.tail _ (.tail _ (.tail _ (.tail _ (.tail _ (.head _)))))))) (T_cmp S4 (E_name V4 (.tail _ (.tail _ (.head _)))) (E_name V4 (.tail _ (.tail _ (.tail _ (.tail _ (.tail _ (.tail _ (.head _))))))))))), (E_name V4 (.tail _ (.head _)))⟩)) E_nil) b_len) (A_cons (A_name V (.tail _ (.tail _ (.tail _ (.tail _ (.tail _ (.tail _ (.head _)))))))) A_nil)) (S_cons (S_for hh S (E_name V (.tail _ (.tail _ (.head _)))) (A_tuple hh (A_cons (A_name V (.tail _ (.tail _ (.tail _ (.tail _ (.tail _ (.tail _ (.tail _ (.head _))))))))) (A_cons (A_name V (.tail _ (.tail _ (.tail _ (.tail _ (.tail _ (.tail _ (.tail _ (.tail _ (.head _)))))))))) A_nil))) (S_cons (S_assign (E_and (E_cmp S (E_name V (.tail _ (.tail _ (.tail _ (.head _))))) (E_const _ _ _)) (E_cmp S (E_sub (E_name V (.tail _ (.tail _ (.tail _ (.tail _ (.tail _ (.tail _ (.tail _ (.head _))))))))) (E_sub (E_name V (.head _)) (E_name V (.tail _ (.tail _ (.tail _ (.head _))))))) (E_name V (.tail _ (.tail _ (.tail _ (.tail _ (.tail _ (.head _))))))))) (A_cons (A_name V (.tail _ (.tail _ (.tail _ (.tail _ (.tail _ (.tail _ (.tail _ (.tail _ (.tail _ (.head _))))))))))) A_nil)) (S_cons (S_expr V.fn (E_meth (E_name V (.tail _ (.tail _ (.tail _ (.tail _ (.head _)))))) F.plainAttrs_list F.slot_list_append F.type_list_append (E_cons (E_tuple (E_cons (E_addL (E_name V (.tail _ (.tail _ (.tail _ (.tail _ (.tail _ (.tail _ (.tail _ (.head _))))))))) (E_list (E_cons (E_name V (.tail _ (.tail _ (.tail _ (.tail _ (.tail _ (.head _))))))) E_nil))) (E_cons (E_bin (E_bin (E_name V (.tail _ (.tail _ (.tail _ (.tail _ (.tail _ (.tail _ (.tail _ (.tail _ (.head _)))))))))) (E_name V (.tail _ (.tail _ (.tail _ (.tail _ (.tail _ (.tail _ (.head _))))))))) (E_ifexp (T_val (E_name V (.tail _ (.tail _ (.tail _ (.tail _ (.tail _ (.tail _ (.tail _ (.tail _ (.tail _ (.head _)))))))))))) (E_const _ _ _) (E_const _ _ _))) E_nil))) E_nil) b_append)) S_nil)) S_nil) S_nil)) S_nil) (S_cons (S_assign (E_name V (.tail _ (.tail _ (.tail _ (.tail _ (.head _)))))) (A_cons (A_name V (.tail _ (.tail _ (.head _)))) A_nil)) S_nil))) S_nil) (S_cons (S_assign (E_call V (.tail _ (.tail _ (.tail _ (.tail _ (.tail _ (.tail _ (.tail _ (.tail _ (.tail _ (.tail _ (.tail _ (.tail _ (.tail _ (.tail _ (.head _))))))))))))))) (.inl ⟨_, rfl⟩) (E_cons (E_compN (sc := ⟨ScopeKind.function, [(Str.ofString ".0", NameKind.local), (Str.ofString "rights", NameKind.local), (Str.ofString "marks", NameKind.local)], false, false, []⟩) lenC hh S V (by kernel_rfl) (E_name V (.tail _ (.tail _ (.head _)))) (fun C3 env3 hA3 hP3 W3 len3 => have V3 : EnvOk C3 [(Str.ofString ".0", NK.slot 12 false), (Str.ofString "rights", NK.slot 13 false), (Str.ofString "marks", NK.slot 14 false), (Str.ofString "range", .hid (.type "range")), (Str.ofString "len", .hid (.builtin "len")), (Str.ofString "min", .hid (.builtin "min"))] env3 := tab_eq (by rw [lenC]; kernel_rfl) W3; have L3 : C3.locs.length = 16 := len3.trans (by rw [lenC]; kernel_rfl); have S3 := S.sub hA3 hP3; have hh3 : C3.A.handled = none := (by rw [hA3]; exact hh); have le3 := le.trans hP3; have room3 : Room C3.A n := (by rw [hA3]; exact room); ⟨(A_tuple hh3 (A_cons (A_name V3 (.tail _ (.head _))) (A_cons (A_name V3 (.tail _ (.tail _ (.head _)))) A_nil))), C_nil, (E_name V3 (.tail _ (.tail _ (.head _))))⟩)) E_nil) (b_min hh)) (A_cons (A_name V (.tail _ (.tail _ (.tail _ (.tail _ (.tail _ (.tail _ (.tail _ (.tail _ (.tail _ (.tail _ (.head _)))))))))))) A_nil)) (S_cons (S_assign_cell V (.tail _ (.tail _ (.tail _ (.tail _ (.tail _ (.tail _ (.tail _ (.tail _ (.tail _ (.tail _ (.tail _ (.head _)))))))))))) (E_compN (sc := ⟨ScopeKind.function, [(Str.ofString ".0", NameKind.local), (Str.ofString "rights", NameKind.local), (Str.ofString "marks", NameKind.local), (Str.ofString "fewest", NameKind.free)], false, false, []⟩) lenC hh S V (by kernel_rfl) (E_name V (.tail _ (.tail _ (.head _)))) (fun C2 env2 hA2 hP2 W2 len2 => have V2 : EnvOk C2 [(Str.ofString ".0", NK.slot 12 false), (Str.ofString "rights", NK.slot 13 false), (Str.ofString "marks", NK.slot 14 false), (Str.ofString "fewest", NK.slot 10 true), (Str.ofString "range", .hid (.type "range")), (Str.ofString "len", .hid (.builtin "len")), (Str.ofString "min", .hid (.builtin "min"))] env2 := tab_eq (by rw [lenC]; kernel_rfl) W2; have L2 : C2.locs.length = 16 := len2.trans (by rw [lenC]; kernel_rfl); have S2 := S.sub hA2 hP2; have hh2 : C2.A.handled = none := (by rw [hA2]; exact hh); have le2 := le.trans hP2; have room2 : Room C2.A n := (by rw [hA2]; exact room); ⟨(A_tuple hh2 (A_cons (A_name V2 (.tail _ (.head _))) (A_cons (A_name V2 (.tail _ (.tail _ (.head _)))) A_nil))), (C_one (T_cmp S2 (E_name V2 (.tail _ (.tail _ (.head _)))) (E_name V2 (.tail _ (.tail _ (.tail _ (.head _))))))), (E_sub (E_name V2 (.tail _ (.head _))) (E_const _ _ _))⟩))) (S_cons (S_ret (E_tuple (E_cons (E_name V (.tail _ (.tail _ (.tail _ (.tail _ (.tail _ (.tail _ (.tail _ (.tail _ (.tail _ (.tail _ (.head _)))))))))))) (E_cons (E_compN (sc := ⟨ScopeKind.function, [(Str.ofString ".0", NameKind.local), (Str.ofString "who", NameKind.local), (Str.ofString "heads", NameKind.free)], false, false, []⟩) lenC hh S V (by kernel_rfl) (E_list (E_consts (vs := [.int 0 0, .int 7 0, .int 40 0]) (by kernel_rfl))) (fun C1 env1 hA1 hP1 W1 len1 => have V1 : EnvOk C1 [(Str.ofString ".0", NK.slot 12 false), (Str.ofString "who", NK.slot 13 false), (Str.ofString "heads", NK.slot 11 true), (Str.ofString "range", .hid (.type "range")), (Str.ofString "len", .hid (.builtin "len")), (Str.ofString "min", .hid (.builtin "min"))] env1 := tab_eq (by rw [lenC]; kernel_rfl) W1; have L1 : C1.locs.length = 15 := len1.trans (by rw [lenC]; kernel_rfl); have S1 := S.sub hA1 hP1; have hh1 : C1.A.handled = none := (by rw [hA1]; exact hh); have le1 := le.trans hP1; have room1 : Room C1.A n := (by rw [hA1]; exact room); ⟨(A_name V1 (.tail _ (.head _))), (C_one (T_cmp S1 (E_name V1 (.tail _ (.head _))) (E_name V1 (.tail _ (.tail _ (.head _)))))), (E_name V1 (.tail _ (.head _)))⟩)) E_nil)))) S_nil))))))
  refine main.spec ?_
  clear main
  rw [hsc]
  intro vs Q H L h
  refine by_ng fun ng => ?_
  obtain ⟨A, r0, rfl, hq0⟩ := mR_inv h
  obtain ⟨D, r1, rfl, hq1⟩ := mR_inv hq0
  obtain ⟨rfl, hq2⟩ := mN_inv hq1
  refine ng ?_
  clear ng
  replace h := hq2
  · skip
    refine by_ng fun ng => ?_
    obtain ⟨abv, dl, hA, hab, ⟨drs, hD, hds⟩, hdl, hq⟩ := h
    refine ng ?_
    clear ng
    have hdrl := hds.length
    refine ⟨rfl, ?_⟩
    refine' s_start (ini40 _ _) ?_
    walk_at "st"
    refine' ⟨by show 0 ≤ sizeLine; decide, fun q0 hq0 => ?_⟩
    walk_at "st"
    refine' ⟨by show 2 ≤ sizeLine; decide, fun t0 ht0 => ?_⟩
    walk_at "st"
    refine' ⟨by show 1 ≤ sizeLine; decide, fun w0 hw0 => ?_⟩
    walk_at "st"
    have s0 := (((HSub.refl H).upd_new (ho := .lst []) hq0).upd_new (ho := .tup [.ref q0, .int 0 0]) ht0).upd_new (ho := .lst [.ref t0]) hw0
    have g0 : RefsAt WayAt (upd (upd (upd H q0 (.lst [])) t0 (.tup [.ref q0, .int 0 0])) w0 (.lst [.ref t0])) w0 (ways abv (othersOf dl) 0) := ⟨[t0], upd_same _ _ _, ⟨q0, (upd_ne _ _ (fun z => by rw [← z, upd_same] at hw0; cases hw0)).trans (upd_same _ _ _),
      (upd_ne _ _ (fun z => by rw [← z, upd_ne _ _ (fun y => by rw [← y, upd_same] at ht0; cases ht0), upd_same] at hw0; cases hw0)).trans ((upd_ne _ _ (fun y => by rw [← y, upd_same] at ht0; cases ht0)).trans (upd_same _ _ _))⟩, trivial⟩
    generalize upd (upd (upd H q0 (.lst [])) t0 (.tup [.ref q0, .int 0 0])) w0 (.lst [.ref t0]) = H0 at s0 g0
    refine' s_range1 (by decide) fun rg hrg => ?_
    have s1 := s0.upd_new (ho := .rng 0 (Int.toNat 4)) hrg
    have e1 := upd_same H0 rg (.rng 0 (Int.toNat 4))
    have g1 : RefsAt WayAt (upd H0 rg (.rng 0 (Int.toNat 4))) w0 (ways abv (othersOf dl) 0) := let ⟨rs, a, b⟩ := g0; ⟨rs, (HSub.refl H0).upd_new hrg _ _ a, b.mono fun r w k => k.sub ((HSub.refl H0).upd_new hrg)⟩
    generalize upd H0 rg (.rng 0 (Int.toNat 4)) = Hb at s1 e1 g1
    clear g0 s0 hw0 ht0 hq0 hrg
    refine' s_for (k := .rng 0 4) (xs := (List.range 4).map fun (i : Nat) => Value.int (0 + (i : Int)) 0) (fun k H' L' => HSub Hb H' ∧ k ≤ 4 ∧ ∃ Wy, RefsAt WayAt H' Wy (ways abv (othersOf dl) k) ∧ ∃ c3 c4 c5 c6 c7 c8 c9, L' = [some (.ref A), some (.ref D), some (.ref Wy), c3, c4, c5, c6, c7, c8, c9, none, none]) (.rng e1) ?_ ?_
    · exact ⟨HSub.refl _, Nat.zero_le _, w0, g1, none, none, none, none, none, none, none, rfl⟩
    clear g1
    intro k H' L' rr40
    refine by_ng fun ng => ?_
    obtain ⟨hs, hk4, Wy, ⟨wrs, hWy, hws⟩, c3, c4, c5, c6, c7, c8, c9, rfl⟩ := rr40
    refine ng ?_
    clear ng
    have hwl := hws.length
    have hwn : (ways abv (othersOf dl) k).length ≤ 81 := by
      rw [ways_len]; exact Nat.pow_le_pow_right (by decide) hk4
    refine ⟨.rng (hs _ _ e1), fun e => ?_, fun x e QN0 hN0 hC0 => ?_⟩
    · have hk : k = 4 := by
        have : 4 ≤ k := by simpa using List.getElem?_eq_none_iff.mp e
        (first | lia | omega)
      subst hk
      walk_at "st"
      refine' s_compf (k := .lst Wy) (xs := wrs.map Value.ref) (fun i => vI (((ways abv (othersOf dl) 4).take i).map fun w => (w.2 : Int))) (.lst hWy) (by rw [List.length_map]; (first | lia | omega)) rfl rfl ?_ ?_
      · intro i x ei R hR
        refine by_ng fun ng => ?_
        obtain ⟨r, hr, rfl⟩ := refs_get ei
        obtain ⟨w, hw, q, hrt, _⟩ := hws.get hr
        refine ng ?_
        clear ng
        refine' s_unpack hrt rfl ?_
        walk_at "st"
        refine' s_if_t rfl ?_
        walk_at "st"
        refine' hR (some _) _ rfl ?_
        rw [take_snoc hw, List.map_append]
        unfold vI
        rw [List.map_append]; rfl
      intro mc hmc
      rw [List.length_map, hwl, List.take_length]
      have hne : (ways abv (othersOf dl) 4) ≠ [] := fun z => by
        have := ways_len abv (othersOf dl) 4
        rw [z] at this; cases this
      have s2 := (HSub.refl H').upd_new (ho := .lst (vI ((ways abv (othersOf dl) 4).map fun w => (w.2 : Int)))) hmc
      have e2 := upd_same H' mc (.lst (vI ((ways abv (othersOf dl) 4).map fun w => (w.2 : Int))))
      generalize upd H' mc (.lst (vI ((ways abv (othersOf dl) 4).map fun w => (w.2 : Int)))) = H2 at s2 e2
      refine' ⟨_, e2, by simpa using hne, fun M hM hle => ?_⟩
      obtain ⟨w₀, hw₀, rfl⟩ := List.mem_map.mp hM
      have hle' : ∀ w ∈ ways abv (othersOf dl) 4, w₀.2 ≤ w.2 := fun w hw => by
        have := hle _ (List.mem_map.mpr ⟨w, hw, rfl⟩)
        (first | lia | omega)
      walk_at "st"
      refine' s_compf (k := .lst Wy) (xs := wrs.map Value.ref) (fun i => vI ((((ways abv (othersOf dl) 4).take i).filter fun w => w.2 == w₀.2).map fun w => w.1.headD 0)) (.lst (s2 _ _ hWy)) (by rw [List.length_map]; (first | lia | omega)) rfl rfl ?_ ?_
      · intro i x ei R hR
        refine by_ng fun ng => ?_
        obtain ⟨r, hr, rfl⟩ := refs_get ei
        obtain ⟨w, hw, q, hrt, hqt⟩ := hws.get hr
        refine ng ?_
        clear ng
        have hwlen := ways_at abv (othersOf dl) 4 w (List.mem_of_getElem? hw)
        refine' s_unpack (s2 _ _ hrt) rfl ?_
        walk_at "st"
        by_cases hb : w.2 = w₀.2
        · refine' s_if_t (by rw [hb]; simp) ?_
          walk_at "st"
          refine' s_list (s2 _ _ hqt) (by unfold fits; decide) (v := .int (w.1.headD 0) 0) (at_lt (by decide) (by rw [vI_len, hwlen]; decide) (by
            unfold vI
            match hw1 : w.1, hwlen with
            | a :: r, _ => rfl)) ?_
          refine' hR (some _) _ rfl ?_
          have hf : [w].filter (fun w => w.2 == w₀.2) = [w] := by simp [hb]
          rw [take_snoc hw, List.filter_append, hf, List.map_append]
          unfold vI
          rw [List.map_append]; rfl
        · refine' s_if_f (by
            rw [beq_eq_false_iff_ne]
            exact fun z => hb (by (first | lia | omega))) ?_
          refine' hR none _ rfl ?_
          have hf : [w].filter (fun w => w.2 == w₀.2) = [] := by simp [hb]
          rw [take_snoc hw, List.filter_append, hf, List.append_nil]
          exact List.append_nil _
      intro hc hhc
      rw [List.length_map, hwl, List.take_length]
      generalize hhd : (((ways abv (othersOf dl) 4).filter fun w => w.2 == w₀.2).map fun w => w.1.headD 0) = hds'
      have s3 := s2.upd_new (ho := .lst (vI hds')) hhc
      have e3 := upd_same H2 hc (.lst (vI hds'))
      generalize upd H2 hc (.lst (vI hds')) = H3 at s3 e3
      walk_at "st"
      refine' ⟨by show 3 ≤ sizeLine; decide, fun ow how => ?_⟩
      have s4 := s3.upd_new (ho := .lst (vI owns)) how
      have e3' := (HSub.refl H3).upd_new (ho := .lst (vI owns)) how _ _ e3
      have e4 : upd H3 ow (.lst [Value.int 0 0, Value.int 7 0, Value.int 40 0]) ow = some (.lst (vI owns)) := upd_same H3 ow (.lst (vI owns))
      have e4' : upd H3 ow (.lst [Value.int 0 0, Value.int 7 0, Value.int 40 0]) = upd H3 ow (.lst (vI owns)) := rfl
      rw [e4'] at e4 ⊢
      generalize upd H3 ow (.lst (vI owns)) = H4 at s4 e3' e4
      refine' s_compf (k := .lst ow) (xs := vI owns) (fun i => vI ((owns.take i).filter fun o => decide (o ∈ hds'))) (.lst e4) (by decide) rfl rfl ?_ ?_
      · intro i x ei R hR
        obtain ⟨o, ho, rfl⟩ : ∃ o, owns[i]? = some o ∧ x = .int o 0 := by
          unfold vI at ei
          rw [List.getElem?_map] at ei
          obtain ⟨y, h1, h2⟩ := Option.map_eq_some_iff.mp ei
          exact ⟨y, h1, h2.symm⟩
        walk_at "st"
        refine' s_inI e3' ?_
        walk_at "st"
        by_cases hb : o ∈ hds'
        · refine' s_if_t (decide_eq_true hb) ?_
          walk_at "st"
          refine' hR (some _) _ rfl ?_
          have hf : [o].filter (fun o => decide (o ∈ hds')) = [o] := by simp [hb]
          rw [take_snoc ho, List.filter_append, hf]
          unfold vI
          rw [List.map_append]; rfl
        · refine' s_if_f (decide_eq_false hb) ?_
          refine' hR none _ rfl ?_
          have hf : [o].filter (fun o => decide (o ∈ hds')) = [] := by simp [hb]
          rw [take_snoc ho, List.filter_append, hf, List.append_nil]
          exact List.append_nil _
      intro oc hoc
      have hlen3 : (owns.take (vI owns).length) = owns := rfl
      rw [hlen3]
      refine' ⟨by show 2 ≤ sizeLine; decide, fun T hT => ?_⟩
      walk_at "st"
      have hfin : (owns.filter fun o => decide (o ∈ hds')) = owns.filter fun o => (ways abv (othersOf dl) 4).any fun w => w.2 == w₀.2 && w.1.head? == some o := by
        refine List.filter_congr fun o _ => ?_
        rw [Bool.eq_iff_iff, decide_eq_true_eq, List.any_eq_true, ← hhd, List.mem_map]
        refine ⟨fun ⟨w, h1, h2⟩ => ?_, fun ⟨w, h1, h2⟩ => ?_⟩
        · obtain ⟨h3, h4⟩ := List.mem_filter.mp h1
          refine ⟨w, h3, ?_⟩
          have hwlen := ways_at abv (othersOf dl) 4 w h3
          rw [h4, Bool.true_and, ← h2]
          match hw1 : w.1, hwlen with
          | a :: r, _ => simp
        · rw [Bool.and_eq_true] at h2
          refine ⟨w, List.mem_filter.mpr ⟨h1, h2.1⟩, ?_⟩
          have h3 := h2.2
          rw [beq_iff_eq] at h3
          match hw1 : w.1, h3 with
          | a :: r, h3 => exact Option.some.inj h3
      have s5 := s4.upd_new (ho := .lst (vI (owns.filter fun o => decide (o ∈ hds')))) hoc
      have sall := ((s1.trans hs).trans s5).upd_new (ho := .tup [.int (w₀.2 : Int) 0, .ref oc]) hT
      refine ⟨_, HSub.refl _, hq T _ oc w₀.2 (((s1.trans hs).trans s5).none hT) sall (upd_same _ _ _) ?_ ⟨w₀, hw₀, rfl⟩ hle'⟩
      rw [← hfin]
      exact (upd_ne _ _ (fun z => by rw [← z, upd_same] at hT; cases hT)).trans (upd_same _ _ _)
    · obtain ⟨hk, rfl⟩ := rng_get e
      rw [show (0 + (k : Int)) = (k : Int) by (first | lia | omega)]
      walk_at "st"
      refine' ⟨by show 0 ≤ sizeLine; decide, fun X hX => ?_⟩
      walk_at "st"
      refine' ⟨by show 3 ≤ sizeLine; decide, fun ow how => ?_⟩
      obtain ⟨how1, howX⟩ := none_upd how
      have e4' : upd (upd H' X (.lst [])) ow (.lst [Value.int 0 0, Value.int 7 0, Value.int 40 0]) = upd (upd H' X (.lst [])) ow (.lst (vI owns)) := rfl
      rw [e4']
      have s2 : HSub H' (upd (upd H' X (.lst [])) ow (.lst (vI owns))) := ((HSub.refl H').upd_new hX).upd_new how
      have eX : upd (upd H' X (.lst [])) ow (.lst (vI owns)) X = some (.lst []) := (upd_ne _ _ (Ne.symm howX)).trans (upd_same _ _ _)
      have eo : upd (upd H' X (.lst [])) ow (.lst (vI owns)) ow = some (.lst (vI owns)) := upd_same _ _ _
      generalize upd (upd H' X (.lst [])) ow (.lst (vI owns)) = H1 at s2 eX eo
      clear e4' how how1
      refine' s_for (k := .lst ow) (xs := vI owns) (fun j H'' L'' => HSub H' H'' ∧ H'' ow = some (.lst (vI owns)) ∧ j ≤ 3 ∧ (∃ rs : List Addr, H'' X = some (.lst (rs.map Value.ref)) ∧ All2 (WayX X H'') rs ((owns.take j).flatMap fun o => (ways abv (othersOf dl) k).map (wstep abv (othersOf dl) k o))) ∧ ∃ c5 c6 c7 c8 c9, L'' = [some (.ref A), some (.ref D), some (.ref Wy), some (.int (k : Int) 0), some (.ref X), c5, c6, c7, c8, c9, none, none]) (.lst eo) ?_ ?_
      · exact ⟨s2, eo, Nat.zero_le _, ⟨[], eX, trivial⟩, c5, c6, c7, c8, c9, rfl⟩
      clear s2 eX eo
      intro j H2 L2 rr41
      refine by_ng fun ng => ?_
      obtain ⟨s3, eo2, hj, ⟨xrs, hXv, hxs⟩, c5, c6, c7, c8, c9, rfl⟩ := rr41
      refine ng ?_
      clear ng
      refine ⟨.lst eo2, fun e => ?_, fun x e QN1 hN1 hC1 => ?_⟩
      · have hj3 : j = 3 := by
          have : 3 ≤ j := by simpa [vI, owns] using List.getElem?_eq_none_iff.mp e
          (first | lia | omega)
        subst hj3
        rw [show owns.take 3 = owns from rfl] at hxs
        walk_at "st"
        exact hN0 _ _ ⟨hs.trans s3, hk, X, ⟨xrs, hXv, hxs.mono fun r w ⟨q, _, _, a, b⟩ => ⟨q, a, b⟩⟩, _, _, _, _, _, _, _, rfl⟩
      obtain ⟨o, ho, rfl⟩ : ∃ o, owns[j]? = some o ∧ x = .int o 0 := by
        unfold vI at e
        rw [List.getElem?_map] at e
        obtain ⟨y, h1, h2⟩ := Option.map_eq_some_iff.mp e
        exact ⟨y, h1, h2.symm⟩
      have hjlt : j < 3 := (List.getElem?_eq_some_iff.mp ho).1
      walk_at "st"
      refine' s_compf (k := .lst D) (xs := drs.map Value.ref) (fun i => vI (((dl.take i).filter fun p => p.1 == k && p.2 != o).map fun p => (p.1 : Int))) (.lst (s3 _ _ (hs _ _ (s1 _ _ hD)))) (by rw [List.length_map]; (first | lia | omega)) rfl rfl ?_ ?_
      · intro i x ei R hR
        refine by_ng fun ng => ?_
        obtain ⟨r, hr, rfl⟩ := refs_get ei
        obtain ⟨p, hp, a, b, hrt⟩ := hds.get hr
        refine ng ?_
        clear ng
        refine' s_unpack (s3 _ _ (hs _ _ (s1 _ _ hrt))) rfl ?_
        walk_at "st"
        have hno : (p.1 == k && p.2 != o) = false → R none H2 (setL (setL (setL (setL [some (.ref A), some (.ref D), some (.ref Wy), some (.int (k : Int) 0), some (.ref X), some (.int o 0), c6, c7, c8, c9, none, none] 13 (some (.int (p.1 : Int) 0))) 14 (some (.int p.2 0))) 15 (some (.str a 0))) 16 (some (.str b 0))) := fun h => hR none _ rfl (by
          have hf : [p].filter (fun p => p.1 == k && p.2 != o) = [] := by rw [List.filter_cons, h]; rfl
          rw [take_snoc hp, List.filter_append, hf, List.append_nil]
          exact List.append_nil _)
        by_cases hb : p.1 = k
        · refine' s_if_t (by rw [hb]; simp) ?_
          walk_at "st"
          by_cases hb2 : p.2 = o
          · refine' s_if_f (by rw [hb2]; simp) ?_
            exact hno (by rw [hb2]; simp)
          · refine' s_if_t (by simpa using hb2) ?_
            walk_at "st"
            refine' hR (some _) _ rfl ?_
            have hf : [p].filter (fun p => p.1 == k && p.2 != o) = [p] := by simp [hb, hb2]
            rw [take_snoc hp, List.filter_append, hf, List.map_append]
            unfold vI
            rw [List.map_append]; rfl
        · refine' s_if_f (by
            rw [beq_eq_false_iff_ne]
            exact fun z => hb (by (first | lia | omega))) ?_
          refine' s_if_f rfl ?_
          exact hno (by simp [hb])
      intro cc hcc
      rw [List.length_map, hdrl, List.take_length]
      have hol : (vI ((dl.filter fun p => p.1 == k && p.2 != o).map fun p => (p.1 : Int))).length = othersOf dl k o := by rw [vI_len, List.length_map]; rfl
      have hol6 : othersOf dl k o ≤ 6 := Nat.le_trans (List.length_filter_le _ _) hdl
      refine' s_len_l (upd_same _ _ _) (by (first | lia | omega)) ?_
      rw [hol]
      have s4 := s3.upd_new (ho := .lst (vI ((dl.filter fun p => p.1 == k && p.2 != o).map fun p => (p.1 : Int)))) hcc
      have t4 := (HSub.refl H2).upd_new (ho := .lst (vI ((dl.filter fun p => p.1 == k && p.2 != o).map fun p => (p.1 : Int)))) hcc
      generalize upd H2 cc (.lst (vI ((dl.filter fun p => p.1 == k && p.2 != o).map fun p => (p.1 : Int)))) = H3 at s4 t4
      walk_at "st"
      refine' s_for (k := .lst Wy) (xs := wrs.map Value.ref) (fun i H4 L4 => HSub H' H4 ∧ H4 ow = some (.lst (vI owns)) ∧ i ≤ wrs.length ∧ (∃ rs : List Addr, H4 X = some (.lst (rs.map Value.ref)) ∧ All2 (WayX X H4) rs (((owns.take j).flatMap fun o => (ways abv (othersOf dl) k).map (wstep abv (othersOf dl) k o)) ++ ((ways abv (othersOf dl) k).take i).map (wstep abv (othersOf dl) k o))) ∧ ∃ c7 c8 c9, L4 = [some (.ref A), some (.ref D), some (.ref Wy), some (.int (k : Int) 0), some (.ref X), some (.int o 0), some (.int (othersOf dl k o : Int) 0), c7, c8, c9, none, none]) (.lst (s4 _ _ hWy)) ?_ ?_
      · exact ⟨s4, t4 _ _ eo2, Nat.zero_le _, ⟨xrs, t4 _ _ hXv, by
          rw [List.take_zero, List.map_nil, List.append_nil]
          exact hxs.mono fun r w q => q.sub fun a _ ho z => t4 _ _ z⟩, c7, c8, c9, rfl⟩
      clear s4 t4 hxs hXv eo2 hcc s3
      intro i H4 L4 rr42
      refine by_ng fun ng => ?_
      obtain ⟨s4, eo4, hi, ⟨rs, hXv, hxs⟩, c7, c8, c9, rfl⟩ := rr42
      refine ng ?_
      clear ng
      refine ⟨.lst (s4 _ _ hWy), fun e => ?_, fun x e QN hN hC => ?_⟩
      · have hi' : wrs.length ≤ i := by simpa using List.getElem?_eq_none_iff.mp e
        rw [List.take_of_length_le (l := ways abv (othersOf dl) k) (by (first | lia | omega))] at hxs
        walk_at "st"
        refine hN1 _ _ ⟨s4, eo4, hjlt, ⟨rs, hXv, ?_⟩, _, _, _, _, _, rfl⟩
        rw [take_snoc ho, List.flatMap_append, List.flatMap_cons, List.flatMap_nil, List.append_nil]
        exact hxs
      refine by_ng fun ng => ?_
      obtain ⟨r, hr, rfl⟩ := refs_get e
      obtain ⟨w, hw, q, hrt, hqt⟩ := hws.get hr
      refine ng ?_
      clear ng
      have hilt : i < wrs.length := (List.getElem?_eq_some_iff.mp hr).1
      have hwm := List.mem_of_getElem? hw
      have hwk := ways_at abv (othersOf dl) k w hwm
      have hrs := hxs.length
      have hrsl : rs.length ≤ 1000 := by
        rw [hrs, List.length_append, List.length_map, List.length_take]
        have : ((owns.take j).flatMap fun o => (ways abv (othersOf dl) k).map (wstep abv (othersOf dl) k o)).length ≤ 3 * 81 := by
          have h3 : ∀ l : List Int, (l.flatMap fun o => (ways abv (othersOf dl) k).map (wstep abv (othersOf dl) k o)).length ≤ l.length * 81 := fun l => by
            induction l with
            | nil => simp
            | cons a r ih => rw [List.flatMap_cons, List.length_append, List.length_map, List.length_cons]; (first | lia | omega)
          have := h3 (owns.take j)
          rw [List.length_take] at this
          have h4 : min j owns.length ≤ 3 := by (first | lia | omega)
          (first | lia | omega)
        (first | lia | omega)
      refine' s_unpack (s4 _ _ hrt) rfl ?_
      walk_at "st"
      have same : ∀ (QQ : Value → HA → Ls → Prop), QQ (.bool (decide (0 < k ∧ w.1[abv k]? = some o))) H4 [some (.ref A), some (.ref D), some (.ref Wy), some (.int (k : Int) 0), some (.ref X), some (.int o 0), some (.int (othersOf dl k o : Int) 0), some (.ref q), some (.int (w.2 : Int) 0), c9, none, none] →
          (if decide ((0 : Int) < (k : Int)) = true then nameW (NK.slot 7 false) (fun a => nameW (NK.slot 0 false) fun a_1 => nameW (NK.slot 3 true) fun b => itemW a_1 b fun b => itemW a b fun a => nameW (NK.slot 5 true) fun b => cmpW CmpOp.Eq a b QQ) H4 [some (.ref A), some (.ref D), some (.ref Wy), some (.int (k : Int) 0), some (.ref X), some (.int o 0), some (.int (othersOf dl k o : Int) 0), some (.ref q), some (.int (w.2 : Int) 0), c9, none, none]
            else QQ (.bool (decide ((0 : Int) < (k : Int)))) H4 [some (.ref A), some (.ref D), some (.ref Wy), some (.int (k : Int) 0), some (.ref X), some (.int o 0), some (.int (othersOf dl k o : Int) 0), some (.ref q), some (.int (w.2 : Int) 0), c9, none, none]) := fun QQ h => by
        by_cases hk0 : 0 < k
        · refine' s_if_t (by rw [decide_eq_true_eq]; (first | lia | omega)) ?_
          walk_at "st"
          have habk := hab k hk0 hk
          refine' s_list (s4 _ _ (hs _ _ (s1 _ _ hA))) (by unfold fits; (first | lia | omega)) (v := .int (abv k : Int) 0) (at_lt (by (first | lia | omega)) (by rw [vI_len, List.length_map, List.length_range]; (first | lia | omega)) (by
            unfold vI
            rw [Int.toNat_natCast, List.getElem?_map, List.getElem?_map, List.getElem?_range hk]; rfl)) ?_
          obtain ⟨z, hz⟩ : ∃ z, w.1[abv k]? = some z := ⟨_, List.getElem?_eq_getElem (by (first | lia | omega))⟩
          refine' s_list (s4 _ _ hqt) (by unfold fits; (first | lia | omega)) (v := .int z 0) (at_lt (by (first | lia | omega)) (by rw [vI_len]; (first | lia | omega)) (by
            unfold vI
            rw [Int.toNat_natCast, List.getElem?_map, hz]; rfl)) ?_
          walk_at "st"
          have he : (z == o) = decide (0 < k ∧ w.1[abv k]? = some o) := by
            rw [hz, Bool.eq_iff_iff, decide_eq_true_eq]
            simp [hk0]
          rw [he]; exact h
        · have hf : decide ((0 : Int) < (k : Int)) = false := by rw [decide_eq_false_iff_not]; (first | lia | omega)
          have hf2 : decide (0 < k ∧ w.1[abv k]? = some o) = false := by rw [decide_eq_false_iff_not]; exact fun z => hk0 z.1
          refine' s_if_f hf ?_
          rw [hf]; rw [hf2] at h; exact h
      refine' same _ ?_
      clear same
      walk_at "st"
      refine' s_meth_l hXv ?_
      walk_at "st"
      refine' ⟨by show 1 ≤ sizeLine; decide, fun n1 hn1 => ?_⟩
      have e5 : upd H4 n1 (.lst [Value.int o 0]) n1 = some (.lst [Value.int o 0]) := upd_same _ _ _
      have t5 := (HSub.refl H4).upd_new (ho := .lst [Value.int o 0]) hn1
      generalize upd H4 n1 (.lst [Value.int o 0]) = H5 at e5 t5
      refine' s_addL (t5 _ _ (s4 _ _ hqt)) e5 (by rw [vI_len, List.length_cons, List.length_nil]; (first | lia | omega)) fun n2 hn2 => ?_
      have hvo : vI w.1 ++ [Value.int o 0] = vI (w.1 ++ [o]) := by unfold vI; rw [List.map_append]; rfl
      rw [hvo]
      have e6 : upd H5 n2 (.lst (vI (w.1 ++ [o]))) n2 = some (.lst (vI (w.1 ++ [o]))) := upd_same _ _ _
      have t6 := t5.upd_new (ho := .lst (vI (w.1 ++ [o]))) hn2
      generalize upd H5 n2 (.lst (vI (w.1 ++ [o]))) = H6 at e6 t6
      walk_at "st"
      refine' s_ife ?_
      walk_at "st"
      refine' ⟨by show 2 ≤ sizeLine; decide, fun n3 hn3 => ?_⟩
      have hm : (w.2 : Int) + (othersOf dl k o : Int) + (if decide (0 < k ∧ w.1[abv k]? = some o) = true then 0 else 1) = ((wstep abv (othersOf dl) k o w).2 : Int) := by
        show _ = ((w.2 + othersOf dl k o + if decide (0 < k ∧ w.1[abv k]? = some o) = true then 0 else 1 : Nat) : Int)
        cases decide (0 < k ∧ w.1[abv k]? = some o) <;> simp
      rw [hm]
      have e7 : upd H6 n3 (.tup [.ref n2, .int ((wstep abv (othersOf dl) k o w).2 : Int) 0]) n3 = some (.tup [.ref n2, .int ((wstep abv (othersOf dl) k o w).2 : Int) 0]) := upd_same _ _ _
      have e6' := (HSub.refl H6).upd_new (ho := .tup [.ref n2, .int ((wstep abv (othersOf dl) k o w).2 : Int) 0]) hn3 _ _ e6
      have n2X : n2 ≠ X := fun z => by
        have := t5 _ _ hXv
        rw [← z, hn2] at this; cases this
      have n3X : n3 ≠ X := fun z => by
        have := t6 _ _ hXv
        rw [← z, hn3] at this; cases this
      have t7 := t6.upd_new (ho := .tup [.ref n2, .int ((wstep abv (othersOf dl) k o w).2 : Int) 0]) hn3
      generalize upd H6 n3 (.tup [.ref n2, .int ((wstep abv (othersOf dl) k o w).2 : Int) 0]) = H7 at e7 e6' t7
      refine' s_append (t7 _ _ hXv) (by rw [List.length_map]; (first | lia | omega)) ?_
      walk_at "st"
      have howX' : ow ≠ X := howX
      refine hN _ _ ⟨(s4.trans t7).upd hX, (upd_ne _ _ howX').trans (t7 _ _ eo4), hilt, ⟨rs ++ [n3], by rw [upd_same, List.map_append]; rfl, ?_⟩, _, _, _, rfl⟩
      rw [take_snoc hw, List.map_append, ← List.append_assoc]
      refine All2.snoc (hxs.mono fun r w k => k.sub fun a ha ho z => (upd_ne _ _ ha).trans (t7 _ _ z)) ?_
      exact ⟨n2, n2X, n3X, (upd_ne _ _ n3X).trans e7, (upd_ne _ _ n2X).trans e6'⟩

open Builtin Builtin.ObjectAttr Builtin.Getset_descriptor

/-! attributes of objects -/
noncomputable def plainV : Value → Bool
  | .builtin _ => false
  | _ => true
theorem handed_plain {v : Value} (h : plainV (er v) = true) : handedIn v = true := by cases v <;> first | rfl | cases h
noncomputable def GetOk (C : Ctx) (name : Str) (gw : Value → W Value) : Prop := ∀ v, OkAV C (getAttr v name true) (gw (er v))
noncomputable def SetOk (C : Ctx) (name : Str) (sw : Value → Value → W Unit) : Prop := ∀ v x, OkAU C (setAttr v name x) (sw (er v) (er x))
section
variable {C : Ctx} {env : Env} {T : List (Str × NK)}
theorem E_attr {o : PySem.Expr} {name : Str} {pos : Pos} {w : W Value} {gw : Value → W Value} (ho : OkAV C (eval o env) w) (hg : GetOk C name gw)
    (he : eval (.Attribute o name pos) env = (do
      let o' ← eval o env
      standAt pos.atName
      let r ← PySem.holding [o'] (getAttr o' name true)
      letTemporaryGo o o' r
      pure r) := by with_unfolding_all rfl) : OkAV C (eval (.Attribute o name pos) env) (fun Q => w fun a => gw a Q) := OkA.mk fun P hP s H L Q tk r e =>
  Attribute_any_ (wpAny_with_toks (n := 0) tk (wpAny_mono (ho.ok P hP s H L _ tk r e) (fun v s₁ ⟨o₁, H₁, L₁, r₁, e₁⟩ t₁ => wpAny_mono ((hg v).ok P hP s₁ H₁ L₁ Q t₁ r₁ e₁) (fun _ _ p => p.from o₁) fun _ _ q => q) fun _ _ q => q.elim)) he
theorem A_attr {o : PySem.Expr} {name : Str} {pos : Pos} {w : W Value} {sw : Value → Value → W Unit} (ho : OkAV C (eval o env) w) (hs : SetOk C name sw) : AsgnOk C (assign (.Attribute o name pos) env) (fun v Q => w fun a => sw a v Q) := fun v => by
  rw [arm_assign_Attribute]
  exact OkA.bind (y := fun a Q => sw a (er v) Q) ho.holding fun ov => OkA.stand (OkA.bind (e := fun u : Unit => u) (y := fun _ Q => Q ()) (OkA.holding (hs ov v)) fun _ => OkA.release')
theorem S_aug_attr {o : PySem.Expr} {name : Str} {p p' : Pos} {op : Operator} {v : PySem.Expr} {w wv : W Value} {gw : Value → W Value} {sw : Value → Value → W Unit} (ho : OkAV C (eval o env) w) (hv : OkAV C (eval v env) wv) (hg : GetOk C name gw) (hs : SetOk C name sw) :
    OkAF C (exec (.AugAssign (.Attribute o name p) op v p') env) (fun Q => w fun a => gw a fun old => wv fun b => augW op old b fun r => sw a r fun _ => nextW Q) := by
  rw [arm_exec_AugAssign_2]
  refine OkA.stand (OkA.bind (y := fun a Q => gw a fun old => wv fun b => augW op old b fun r => sw a r fun _ => nextW Q) ho fun ov => ?_)
  refine OkA.bind (e := er) (x := fun Q => gw (er ov) fun old => wv fun b => augW op old b Q) (y := fun r Q => sw (er ov) r fun _ => nextW Q) (OkA.holding (OkA.stand ?_)) fun new => OkA.stand ?_
  · exact OkA.bind (y := fun old Q => wv fun b => augW op old b Q) (hg ov) fun old => OkA.bind (y := fun b Q => augW op (er old) b Q) hv.holding fun b => OkA.stand (OkA.operate <| OkA.mk fun P hP => aug_ok op old b)
  · exact OkA.bind (e := fun u : Unit => u) (y := fun _ Q => nextW Q) (OkA.holding (hs ov new)) fun _ => OkA.release (OkA.ret _)

structure DAttr (K : Frag) (Cl : Addr) (name : Str) : Prop where
  hg : plainGet K Cl name = true
  hh : hasDictIn K Cl = true
  no : findIn K (.ref Cl) name = some none
  st : findIn K (.ref Cl) "__setattr__" = some (some (.builtin "object.__setattr__"))
  po : plainOver K Cl = true
theorem DAttr.tk {K : Frag} {Cl : Addr} {name : Str} (h : DAttr K Cl name) : takerIn K Cl name = some none := by unfold takerIn; rw [h.no]; rfl
noncomputable def getDW (Cl : Addr) (name : Str) (v : Value) : W Value := fun Q H L => ∃ x dx es a, v = .ref x ∧ H x = some (.raw (instObj Cl dx)) ∧ H dx = some (.ns es) ∧ es.lookup name = some a ∧ plainV a = true ∧ Q a H L
noncomputable def setDW (Cl : Addr) (name : Str) (v a : Value) : W Unit := fun Q H L => ∃ x dx es, v = .ref x ∧ H x = some (.raw (instObj Cl dx)) ∧ H dx = some (.ns es) ∧ es.length ≤ 100 ∧ Q () (upd H dx (.ns (putE es name a))) L
theorem ns_look {h : Heap} {a : Addr} {m : Str → Option Value} {name : Str} (x : h.Ns1 a m) : ∃ od, h.get? a = some od ∧ lookIn name od = some (m name) := by
  refine by_ng fun ng => ?_
  obtain ⟨o, es, ep, ho, hd, hk, hu, hm⟩ := x
  refine ng ?_
  clear ng
  refine ⟨o, ho, ?_⟩
  unfold lookIn
  rw [hd]
  dsimp only
  rw [← hm name]
  have hany : es.toList.any (·.refKey) = false := by
    rw [List.any_eq_false]
    intro e he
    obtain ⟨n, t, hke⟩ := hk e (Array.mem_toList_iff.mp he)
    simp [DictEntry.refKey, hke]
  show _ = some ((es.find? fun e => e.key.isStr name).map fun e => e.val)
  rw [← Array.find?_toList]
  cases q : es.toList.find? (fun e => e.key.isStr name) with
  | none => rw [hany]; rfl
  | some e => rfl
theorem lookup_some_mem {es : List (Str × Value)} {y : Str} (h : es.lookup y ≠ none) : y ∈ es.map (·.1) := by
  obtain ⟨v, hv⟩ := Option.ne_none_iff_exists'.mp h
  exact List.mem_map.mpr ⟨_, mem_of_lookup hv, rfl⟩
theorem getD_ok {K : Frag} {Cl : Addr} {name : Str} (X : K.In C.P) (A : DAttr K Cl name) : GetOk C name (getDW Cl name) := fun v => OkA.mk fun P hP s H L Q tk r rrq => by
  refine by_ng fun ng => ?_
  obtain ⟨x, dx, es, a, hv, h1, h2, h3, h4, h5⟩ := rrq
  refine ng ?_
  clear ng
  cases er_ref hv
  have hx := (r.hp _ _ h1).2
  obtain ⟨m, hn, hm⟩ := (r.hp _ _ h2).2
  have hma := hm name
  rw [h3] at hma
  refine by_ng fun ng => ?_
  obtain ⟨a', ha', rfl⟩ := Option.map_eq_some_iff.mp hma
  obtain ⟨od, hod, hl⟩ := ns_look (name := name) hn
  refine ng ?_
  clear ng
  rw [ha'] at hl
  have I : InstAt s.heap x (instObj Cl dx) Cl (some od) := ⟨hx, rfl, rfl, hod⟩
  exact get_value (X.keeps fun b o q => r.keep b o (hP b o q)) I (plainGet_of A.hg).1 (findObj_own A.hh A.no rfl hl) (handed_plain h4) (Post.tok r h5)
theorem setD_ok {K : Frag} {Cl : Addr} {name : Str} (X : K.In C.P) (A : DAttr K Cl name) : SetOk C name (setDW Cl name) := fun v a => OkA.mk fun P hP s H L Q tk r rrq => by
  refine by_ng fun ng => ?_
  obtain ⟨x, dx, es, hv, h1, h2, h3, h4⟩ := rrq
  refine ng ?_
  clear ng
  cases er_ref hv
  have hx := (r.hp _ _ h1).2
  refine by_ng fun ng => ?_
  obtain ⟨m, hn, hm⟩ := (r.hp _ _ h2).2
  obtain ⟨od, hod, _⟩ := ns_look (name := name) hn
  refine ng ?_
  clear ng
  have X' : K.In s.heap := X.keeps fun b o q => r.keep b o (hP b o q)
  have I : InstAt s.heap x (instObj Cl dx) Cl (some od) := ⟨hx, rfl, rfl, hod⟩
  obtain ⟨cd, hc, hd⟩ := any_some A.hh
  refine set_plain X' I A.st ?_
  have I' : InstAt ({ s with toks := s.toks + 1 } : Shared).heap x (instObj Cl dx) Cl (some od) := I
  refine osa_open (s := { s with toks := s.toks + 1 }) X' I' A.po A.tk fun b => ?_
  refine wpAny_bind (wpAny_pure (wpAny_bind (wpAny_bind (wpAny_loadPart hx (wpAny_bind ((looks_clsIn (h := ({ s with toks := s.toks + 1 } : Shared).heap) X' hc).here ?_))))))
  rw [hd]
  refine wpAny_pure (a := some dx) ?_
  show wpAny _ _ (storeInDict dx (.str name s.toks) name a) _ _ _
  unfold storeInDict newKeyGuard
  refine wpAny_bind (wpAny_pure (wpAny_bind (wpAny_nsSet1 (s := { s with toks := s.toks + 1 }) hn fun h' hn' hs => ?_)))
  have hw : Within m (es.map (·.1)) := fun y hy => lookup_some_mem (fun z => hy (by have := hm y; rw [z] at this; simpa using this))
  refine by_ng fun ng => ?_
  obtain ⟨oD, esD, epD, hoD, hdD, hcD⟩ := hn'.count (Within.cons name a hw)
  refine ng ?_
  clear ng
  refine wpAny_bind (wpAny_lookBehind hoD (by rw [hdD]; exact pastItsLine_dict (Nat.le_trans hcD (by rw [List.length_cons, List.length_map, sizeLine_eq]; (first | lia | omega)))) ?_)
  refine wpAny_pure (Post.hp (k := s.toks + 1 + 1) (r.turn (ho' := .ns (putE es name (er a))) h2 hs ⟨_, hn', fun y => ?_⟩) h4)
  rw [putE_lookup, ← hm y]
  by_cases z : y = name <;> simp [z]

structure SAttr (K : Frag) (Cl : Addr) (name : Str) (p : Addr) (i : Nat) : Prop where
  hg : plainGet K Cl name = true
  hc : isClsIn K Cl = true
  ha : findIn K (.ref Cl) name = some (some (.ref p))
  hn : specialIn K (.ref p) "__get__" = some (some (.builtin "member_descriptor.__get__"))
  ht : takesIn K (.ref p) = some true
  hp : slotIn K p Cl = some i
  st : findIn K (.ref Cl) "__setattr__" = some (some (.builtin "object.__setattr__"))
  po : plainOver K Cl = true
  hT : typeIn K (.ref p) = some (.type "member_descriptor")
  hz : i < 1000
theorem SAttr.tk {K : Frag} {Cl : Addr} {name : Str} {p : Addr} {i : Nat} (h : SAttr K Cl name p i) : takerIn K Cl name = some (some (.ref p)) := by unfold takerIn; rw [h.ha]; show (takesIn K (.ref p)).map _ = _; rw [h.ht]; rfl
noncomputable def getSW (Cl : Addr) (i : Nat) (v : Value) : W Value := fun Q H L => ∃ x dx sl a, v = .ref x ∧ H x = some (.slo Cl dx sl) ∧ H dx = some (.raw emptyDict) ∧ sl[i]? = some (some a) ∧ plainV a = true ∧ Q a H L
noncomputable def putS (sl : List (Option Value)) (i : Nat) (v : Value) : List (Option Value) := (sl ++ List.replicate (i + 1 - sl.length) none).set i (some v)
noncomputable def setSW (Cl : Addr) (i : Nat) (v a : Value) : W Unit := fun Q H L => ∃ x dx sl, v = .ref x ∧ H x = some (.slo Cl dx sl) ∧ H dx = some (.raw emptyDict) ∧ Q () (upd H x (.slo Cl dx (putS sl i a))) L
theorem getS_ok {K : Frag} {Cl : Addr} {name : Str} {p : Addr} {i : Nat} (X : K.In C.P) (A : SAttr K Cl name p i) : GetOk C name (getSW Cl i) := fun v => OkA.mk fun P hP s H L Q tk r rrq => by
  refine by_ng fun ng => ?_
  obtain ⟨x, dx, sl, a, hv, h1, h2, h3, h4, h5⟩ := rrq
  refine ng ?_
  clear ng
  cases er_ref hv
  obtain ⟨ss, hx, hsl⟩ := (r.hp _ _ h1).2
  have hod := (r.hp _ _ h2).2
  have X' : K.In s.heap := X.keeps fun b o q => r.keep b o (hP b o q)
  have hv' : ∃ a', (ss[i]?).join = some a' ∧ er a' = a := by
    rw [← hsl, List.getElem?_map] at h3
    obtain ⟨oa, hoa, e⟩ := Option.map_eq_some_iff.mp h3
    cases oa with
    | none => cases e
    | some a' =>
      refine ⟨a', ?_, by simpa using e⟩
      rw [Array.getElem?_toList] at hoa
      rw [hoa]; rfl
  obtain ⟨a', ha', rfl⟩ := hv'
  have I : InstAt s.heap x { cls := .ref Cl, dict := some dx, data := .plain, slots := ss } Cl (some emptyDict) := ⟨hx, rfl, rfl, hod⟩
  exact get_bind X' I (plainGet_of A.hg).1 (findObj_data A.hc A.ha A.hn A.ht) (plainGet_of A.hg).2 (wpAny_call (slot_get (s := { s with toks := s.toks + 1 }) X' I A.hp ha' (handed_on (handed_plain h4) (Post.tok r h5))))
theorem setS_ok {K : Frag} {Cl : Addr} {name : Str} {p : Addr} {i : Nat} (X : K.In C.P) (A : SAttr K Cl name p i) : SetOk C name (setSW Cl i) := fun v a => OkA.mk fun P hP s H L Q tk r rrq => by
  refine by_ng fun ng => ?_
  obtain ⟨x, dx, sl, hv, h1, h2, h4⟩ := rrq
  refine ng ?_
  clear ng
  cases er_ref hv
  obtain ⟨ss, hx, hsl⟩ := (r.hp _ _ h1).2
  have hod := (r.hp _ _ h2).2
  have X' : K.In s.heap := X.keeps fun b o q => r.keep b o (hP b o q)
  have I : InstAt s.heap x { cls := .ref Cl, dict := some dx, data := .plain, slots := ss } Cl (some emptyDict) := ⟨hx, rfl, rfl, hod⟩
  refine set_plain X' I A.st (osa_descr (s := { s with toks := s.toks + 1 }) KF.slot_mset X' I A.po A.tk A.hT ?_)
  refine by_ng fun ng => ?_
  obtain ⟨n, tn, owner, behind, tb, d, psl, cd, ho, hc, hm, hb, hi⟩ := slot_of X' A.hp
  refine ng ?_
  clear ng
  have fin : ∀ k : Nat, Post (C.at P) s Q () { s with heap := s.heap.update x fun o => { o with slots := (o.slots ++ Array.replicate (i + 1 - o.slots.size) none).setIfInBounds i (some a) }, toks := k } := fun k => by
    refine Post.hp (r.turn (ho' := .slo Cl dx (putS sl i (er a))) h1 (Heap.SameBut.update ..) ⟨(ss ++ Array.replicate (i + 1 - ss.size) none).setIfInBounds i (some a), ?_, ?_⟩) h4
    · exact Heap.get?_update_self _ hx rfl
    · unfold putS
      rw [← hsl, Array.toList_setIfInBounds, List.map_set, Array.toList_append, List.map_append, Array.toList_replicate, List.map_replicate, List.length_map, Array.length_toList]; rfl
  refine by_ng fun ng => ?_
  obtain ⟨hh, g, dr, t, os⟩ := s
  refine ng ?_
  clear ng
  have L0 := I.type (M := model (C.at P).prog (C.at P).w)
  have L1 := looks_mroIn (M := model (C.at P).prog (C.at P).w) X' hm
  have L2 : Looks (model (C.at P).prog (C.at P).w) hh (Slots.slotNamesOf (.ref Cl)) cd.slotNames := (looks_clsIn X' hc).andThen .now
  dsimp only at ho hx L0 L1
  have f0 := looks_field (M := model (C.at P).prog (C.at P).w) ho 0 (v := .str n tn) rfl
  have f1 := looks_field (M := model (C.at P).prog (C.at P).w) ho 1 (v := owner) rfl
  have f3 := looks_field (M := model (C.at P).prog (C.at P).w) ho 3 (v := .builtin "proto.slot#set") rfl
  have f4 := looks_field (M := model (C.at P).prog (C.at P).w) ho 4 (v := .int behind tb) rfl
  refine codeAny_call_builtin KF.slot_mset.plain KF.entry_mset (KF.slot_mset.check _ _ _ _ _ _ _ _ ⟨_, ho, rfl⟩ (KF.args_mset _ _ _) ?_)
  unfold Builtin.«member_descriptor.__set__» descrSet descrStoreThrough descrCheckInstance descrNameAndClass isInstance
  have f5 : Looks (model (C.at P).prog (C.at P).w) hh (descrItself (.ref p)) [.ref p] := ((Looks.ld (part := none) ho).andThen .now).andThen (Looks.of_pure (by kernel_rfl))
  repeat lk
  refine ⟨Code.quiet_builtin _ (by decide +kernel), codeAny_builtin KF.entry_slotset ?_⟩
  unfold Builtin.«proto.slot#set» Slots.target
  repeat lk
  rw [if_neg hb]
  refine wpAny_pure (wpAny_bind ?_)
  unfold setSlotAt
  dsimp only
  have hz := A.hz
  rw [← hi]
  rw [if_neg (by rw [sizeLine_eq]; (first | lia | omega))]
  exact wpAny_updatePart hx (wpAny_pure (fin _))
end

open Builtin Builtin.ObjectAttr Builtin.Getset_descriptor

/-- who keeps the arguments of a call -/
noncomputable def KeepA (C : Ctx) (f : Value) : Prop := ∀ (M : Model) (h : Heap), HLe C.P h → ∃ k, (k = Keeper.frame ∨ k = Keeper.machine ∨ k = Keeper.boundFrame) ∧ Looks M h (keeperOf f) k
theorem KeepA.of_K {C : Ctx} {K : Frag} {f : Value} (X : K.In C.P) (h : keepIn K f = true) : KeepA C f := fun M hh le => keeps_K h hh (X.keeps le)
section
variable {C : Ctx} {env : Env} {T : List (Str × NK)}
theorem callWithK_ok {pos : Pos} {f : Value} {first : List Value} {args : List (Bool × Sem Value)} {ws : W (List Value)} {cw : BW} (hk : KeepA C f) (hp : args.any (·.1) = false) (ha : OkAL C (spliced args) ws) (hc : CallA C f cw) :
    OkAV C (callWith pos f first args []) (fun Q => ws fun as => cw (first.map er ++ as) Q) := OkA.mk fun P hP s H L Q tk r e => by
  refine callWith_of (P := fun h => HLe C.P h) (by rw [hp]; rfl) (fun h le => hk _ h le) (evalArgs_lone hp (wpAny_with_toks (n := 0) tk (wpAny_mono (ha.ok P hP s H L _ tk r e) (fun vs s' ⟨o', H', L', r', e'⟩ t' => ⟨fun b o q => r'.keep b o (hP b o q), ?_⟩) fun _ _ q => q.elim)))
  refine wpAny_mono (hc P hP (first ++ vs) s' H' L' Q t' r' ?_) (fun v s'' h'' => h''.from o') fun _ _ q => q
  rw [List.map_append]; exact e'
theorem E_callK (V : EnvOk C T env) {g : Str} {p pos : Pos} {args : List PySem.Expr} {f : Value} {ws : W (List Value)} {cw : BW} (hg : (g, NK.glob f) ∈ T) (hk : KeepA C f)
    (ha : OkAL C (spliced (backTo pos (starEach args env))) ws) (hc : CallA C f cw) (hp : (backTo pos (starEach args env)).any (·.1) = false := by rfl) (hf : f = er f := by rfl) (hd : (g == ("__debug__" : Str)) = false := by decide) :
    OkAV C (eval (.Call (.Name g p) args [] pos) env) (fun Q => ws fun as => cw as Q) := by
  show OkAV C (do callWith pos (← eval (.Name g p) env) [] (backTo pos (starEach args env)) (backToKw pos (keywordEach [] env))) _
  refine OkA.mk fun P hP s H L Q tk r e => ?_
  have h1 : ∀ (R : Value → Shared → Prop), (∀ s', Oth s s' → 0 ≤ s'.toks → Rep (C.at P) s'.heap H L → R f s') → wpAny (model (C.at P).prog (C.at P).w) (C.at P).A (eval (.Name g p) env) R NoE s := by
    intro R h
    refine wpAny_Name ?_ hd
    refine by_ng fun ng => ?_
    obtain ⟨hk1, mg, hg, hv⟩ := (V.at hP).nm g _ hg
    refine ng ?_
    clear ng
    unfold loadName
    simp only [Env.blockKind, V.fn, hk1, ScopeKind.isAnnotationScope, Bool.false_and, Bool.false_eq_true, if_false]
    rcases hv with hv | ⟨hv, mb, hb, hv'⟩
    · exact loadGlobal_global (Ns_keep hg fun o => r.keep _ o) hv (h s (Oth.refl s) tk r)
    · exact loadGlobal_builtin (Ns_keep hg fun o => r.keep _ o) hv (Ns_keep hb fun o => r.keep _ o) hv' (h s (Oth.refl s) tk r)
  refine wpAny_bind (h1 _ fun s' o t' r' => ?_)
  exact wpAny_mono ((callWithK_ok (first := []) hk hp ha hc).ok P hP s' H L Q t' r' (by simpa using e)) (fun v s'' h'' => h''.from o) fun _ _ q => q

/-- a method of an object's class -/
structure MethIn (K : Frag) (Cl : Addr) (name : Str) (f : Addr) : Prop where
  hg : plainGet K Cl name = true
  hf : findIn K (.ref Cl) name = some (some (.ref f))
  ht : isFn K (.ref f) = true
noncomputable def imethW (Cl : Addr) (name : Str) (ws : W (List Value)) (cw : BW) (v : Value) : W Value := fun Q H L => ∃ x dx es, v = .ref x ∧ H x = some (.raw (instObj Cl dx)) ∧ H dx = some (.ns es) ∧ es.lookup name = none ∧ ws (fun as => cw (v :: as) Q) H L
theorem getMeth_ok {K : Frag} {Cl : Addr} {name : Str} {f : Addr} {P : Heap} {s : Shared} {H : HA} {L : Ls} {x dx : Addr} {es : List (Str × Value)} {pl : Sem Bool} {Q : Value × List Value → Shared → Prop} (X : K.In C.P) (M : MethIn K Cl name f) (r : Rep C s.heap H L) (h1 : H x = some (.raw (instObj Cl dx))) (h2 : H dx = some (.ns es)) (h3 : es.lookup name = none)
    (h : Q (.ref f, [.ref x]) s) : wpAny (model C.prog C.w) C.A (getMethod (.ref x) name pl) Q NoE s := by
  have hx := (r.hp _ _ h1).2
  obtain ⟨m, hn, hm⟩ := (r.hp _ _ h2).2
  have hma := hm name
  rw [h3, Option.map_eq_none_iff] at hma
  obtain ⟨od, hod, hl⟩ := ns_look (name := name) hn
  rw [hma] at hl
  have I : InstAt s.heap x (instObj Cl dx) Cl (some od) := ⟨hx, rfl, rfl, hod⟩
  exact method_fn (X.keeps r.keep) I (plainGet_of M.hg).1 (plainGet_of M.hg).2 M.hf (beq_iff_eq.mp M.ht) (by show (lookIn name od).map _ = _; rw [hl]; rfl) h
theorem E_imeth {K : Frag} {Cl : Addr} {f : Addr} {o : PySem.Expr} {name : Str} {apos pos : Pos} {args : List PySem.Expr} {w : W Value} {ws : W (List Value)} {cw : BW} (X : K.In C.P) (M : MethIn K Cl name f) (hk : CalleeOk C.P (.ref f)) (ho : OkAV C (eval o env) w)
    (ha : OkAL C (spliced (backTo pos (starEach args env))) ws) (hc : CallA C (.ref f) cw) {pl : Sem Bool} (hp : (backTo pos (starEach args env)).any (·.1) = false := by rfl)
    (he : eval (.Call (.Attribute o name apos) args [] pos) env = (do
      let ov ← eval o env
      standAt apos.atName
      let (f, first) ← PySem.holding [ov] (getMethod ov name pl)
      callWith pos f first (backTo pos (starEach args env)) (backToKw pos (keywordEach [] env))) := by rfl) :
    OkAV C (eval (.Call (.Attribute o name apos) args [] pos) env) (fun Q => w fun v => imethW Cl name ws cw v Q) := OkA.mk fun P hP s H L Q tk r e => by
  refine methodCall_KW (pl := pl) (wpAny_post (ho.ok P hP s H L _ tk r e) (fun v s₁ H₁ L₁ o₁ r₁ rr43 => ?_)) he
  refine by_ng fun ng => ?_
  obtain ⟨x, dx, es, hv, h1, h2, h3, e₁⟩ := rr43
  refine ng ?_
  clear ng
  have t₁ := Nat.zero_le s₁.toks
  cases er_ref hv
  refine getMeth_ok (P := P) (C := C.at P) (X.keeps hP) M r₁ h1 h2 h3 ?_
  exact wpAny_mono ((callWith_ok (first := [.ref x]) hk hp ha hc).ok P hP s₁ H₁ L₁ Q t₁ r₁ e₁) (fun v s'' h'' => h''.from o₁) fun _ _ q => q

theorem tuple_iterable {s : Shared} {t : Addr} {E : Value → Shared → Prop} {M : Model} {A : Around} {Q : Bool → Shared → Prop} (hT : s.TypeIs (.ref t) "tuple") (h : Q false s) : wpAny M A (notIterableAtAll (.ref t)) Q E s := by
  unfold notIterableAtAll
  refine wpAny_bind (wpAny_specialOf hT F.slot_tuple_iter.lookup ?_)
  exact wpAny_pure h
end

/-! a class is called -/
noncomputable def clsW (slo : Bool) (Cl : Addr) (iw : BW) : BW := fun vs Q H L => ∀ x dx, H x = none → H dx = none → x ≠ dx → iw (.ref x :: vs) (fun v H' L' => v = .none ∧ Q (.ref x) H' L') (upd (upd H dx (if slo = true then .raw emptyDict else .ns [])) x (if slo = true then .slo Cl dx [] else .raw (instObj Cl dx))) L
structure ClsIn (K : Frag) (Cl fI : Addr) : Prop where
  hm : makesIn K Cl = true
  hi : findIn K (.ref Cl) "__init__" = some (some (.ref fI))
  hf : isFn K (.ref fI) = true
  hk : keepIn K (.ref Cl) = true
theorem cls_ok {C : Ctx} {K : Frag} {Cl fI : Addr} {B : Heap} {n : Nat} {iw : BW} (slo : Bool) (X : K.In C.P) (A : ClsIn K Cl fI) (le : HLe B C.P) (hI : FnK B false n fI iw) (R : Room C.A (n + 2)) : CallA C (.ref Cl) (clsW slo Cl iw) := fun P hP vs s H L Q tk r e => by
  refine by_ng fun ng => ?_
  obtain ⟨h, g, d, t, os⟩ := s
  refine ng ?_
  clear ng
  have tk' : 0 ≤ t := tk
  have X' : K.In h := X.keeps fun b o q => r.keep b o (hP b o q)
  refine wpAny_call (make_core (makes_of X' A.hm) (looks_findIn X' A.hi) (fun self => bind_fn X' self (beq_iff_eq.mp A.hf)) (.inl rfl) ?_)
  have e1 := e (h.objs.size + 1) h.objs.size (by
    clear tk
    cases q : H (h.objs.size + 1) with
    | none => rfl
    | some ho => exact absurd (r.size q) (by show ¬ h.objs.size + 1 < h.objs.size; (first | lia | omega))) r.fresh (Nat.succ_ne_self _)
  have r1 : Rep (C.at P) (h.push emptyDict) (upd H h.objs.size (if slo = true then .raw emptyDict else .ns [])) L := r.alloc (ho := if slo = true then .raw emptyDict else .ns []) emptyDict (by
    cases slo with
    | true => exact Heap.get?_push_size _ rfl
    | false => exact ⟨fun _ => none, Heap.Ns1.of_empty (Heap.Ns.new h (.type "dict")), fun _ => rfl⟩)
  have r2 : Rep (C.at P) ((h.push emptyDict).push (instObj Cl h.objs.size)) (upd (upd H h.objs.size (if slo = true then .raw emptyDict else .ns [])) (h.objs.size + 1) (if slo = true then .slo Cl h.objs.size [] else .raw (instObj Cl h.objs.size))) L := by
    have := r1.alloc (ho := if slo = true then .slo Cl h.objs.size [] else .raw (instObj Cl h.objs.size)) (instObj Cl h.objs.size) (by
      cases slo with
      | true => exact ⟨#[], Heap.get?_push_size _ rfl, rfl⟩
      | false => exact Heap.get?_push_size _ rfl)
    rw [Heap.size_push] at this; exact this
  have CA := hI { C.at P with A := C.A.under (.builtin "type.__call__" ⟨.ref Cl :: vs, []⟩) } (fun b o q => hP b o (le b o q)) ⟨R.handled, by have := R.depth; show C.A.depth + 1 + n < _; (first | lia | omega), by
    have := R.units
    have hu : (C.A.under (.builtin "type.__call__" ⟨.ref Cl :: vs, []⟩)).units = C.A.units + 1 := rfl
    rw [hu]; (first | lia | omega)⟩
  have fin := CA (fun z => nomatch z) P (fun _ _ q => q) (.ref (h.objs.size + 1) :: vs) ⟨(h.push emptyDict).push (instObj Cl h.objs.size), g, d, t, os⟩ _ L (fun v H' L' => v = .none ∧ Q (.ref (h.objs.size + 1)) H' L') tk' ⟨r2.keep, r2.hp, r2.loc, r2.lfree, r2.dat⟩ e1
  refine codeAny_mono fin fun rr s' z => ?_
  rcases rr with x | (v | _ | _ | _) <;> first | exact z | skip
  refine by_ng fun ng => ?_
  obtain ⟨o, H', L', r', hv, q⟩ := z
  refine ng ?_
  clear ng
  exact ⟨er_none hv, ⟨o.1, o.2.1, o.2.2⟩, H', L', ⟨r'.keep, r'.hp, r'.loc, r'.lfree, r'.dat⟩, q⟩

open Builtin Builtin.ObjectAttr Builtin.Getset_descriptor

noncomputable def tupleB (a : Addr) (Q : Value → HA → Ls → Prop) (H : HA) (L : Ls) : Prop :=
  ∃ xs, H a = some (.lst xs) ∧ xs.length ≤ 1048575 ∧ newW (.tup xs) Q H L
noncomputable def tupleW : BW := fun vs Q H L => mR (fun a => mN (tupleB a Q H L)) vs
noncomputable def boolB (a : Addr) (Q : Value → HA → Ls → Prop) (H : HA) (L : Ls) : Prop :=
  ∃ xs, H a = some (.lst xs) ∧ xs.length ≤ 1048575 ∧ Q (.bool (!xs.isEmpty)) H L
noncomputable def boolW : BW := fun vs Q H L => mR (fun a => mN (boolB a Q H L)) vs
noncomputable def setNW : BW := fun vs Q H L => match vs with
  | [] => newW (.st (fun _ => false) 0) Q H L
  | _ => False
noncomputable def saddB (a : Addr) (x : Str) (Q : Value → HA → Ls → Prop) (H : HA) (L : Ls) : Prop :=
  ∃ S n, H a = some (.st S n) ∧ n ≤ 1000 ∧ ∀ n', n' ≤ n + 1 → Q .none (upd H a (.st (fun k => S k || decide (k = x)) n')) L
noncomputable def saddW : BW := fun vs Q H L => mR (fun a => mS (fun x => mN (saddB a x Q H L))) vs
noncomputable def iterB (a : Addr) (Q : Value → HA → Ls → Prop) (H : HA) (L : Ls) : Prop :=
  ∃ xs, H a = some (.lst xs) ∧ newW (.lit a 0) Q H L
noncomputable def iterW : BW := fun vs Q H L => mR (fun a => mN (iterB a Q H L)) vs
section
variable {C : Ctx}
theorem b_tuple : CallA C (.type "tuple") tupleW := fun P hP vs s H L Q tk r e => by
  refine by_ng fun ng => ?_
  obtain ⟨a, r0, h, hq0⟩ := mR_inv e
  obtain ⟨rfl, hq1⟩ := mN_inv hq0
  refine ng ?_
  clear ng
  replace e := hq1
  · skip
    obtain ⟨v, vs', rfl, h1, h⟩ := map_cons_inv h; cases map_nil_inv h
    cases er_ref h1
    refine by_ng fun ng => ?_
    obtain ⟨xs, h1, hz, e⟩ := e
    obtain ⟨_, its, n, ho, hx⟩ := r.hp _ _ h1
    refine ng ?_
    clear ng
    have hl : its.size = xs.length := by rw [← hx]; simp
    refine call_tuple_list (listOf_is ho) (fun h' hk => ?_) (Nat.le_trans (by (first | lia | omega) : its.size ≤ 1048575) (by decide))
    have r' := r.grow hk
    exact Post.hp (k := s.toks) (r'.alloc (ho := .tup xs) _ ⟨its, 0, Heap.get?_push_size _ rfl, hx⟩) (e _ r'.fresh)
theorem meets_bool_list (l : Addr) (its : Array Value) (n : Nat) (hz : (its.size : Int) < 2 ^ 63) : Meets (Builtin.«bool.__new__» ⟨[.type "bool", .ref l], []⟩) (fun _ R s => s.heap.get? l = some (listOf its n) ∧ ∀ k, R (.ok (.ret (.bool (!its.isEmpty)))) { s with toks := k }) :=
  Meets.of_wp fun prog w A R s hs => by
    refine by_ng fun ng => ?_
    obtain ⟨hp, g, d, tk, os⟩ := s
    obtain ⟨ho, h⟩ := hs
    refine ng ?_
    clear ng
    have f1 := F.conv_sub_bool
    have hl := listOf_is ho
    repeat (any_goals (first | assumption | (with_reducible refine wpAny_truthy_list hl hz ?_) | wp_step))
    all_goals first | exact ⟨_, rfl, h _⟩ | skip
theorem b_bool : CallA C (.type "bool") boolW := fun P hP vs s H L Q tk r e => by
  refine by_ng fun ng => ?_
  obtain ⟨a, r0, h, hq0⟩ := mR_inv e
  obtain ⟨rfl, hq1⟩ := mN_inv hq0
  refine ng ?_
  clear ng
  replace e := hq1
  · skip
    obtain ⟨v, vs', rfl, h1, h⟩ := map_cons_inv h; cases map_nil_inv h
    cases er_ref h1
    refine by_ng fun ng => ?_
    obtain ⟨xs, h1, hz, e⟩ := e
    obtain ⟨_, its, n, ho, hx⟩ := r.hp _ _ h1
    refine ng ?_
    clear ng
    have hl : its.size = xs.length := by rw [← hx]; simp
    have he : its.isEmpty = xs.isEmpty := by rw [← hx]; simp [Array.isEmpty]
    refine call_bool_1 (meets_bool_list _ its n (by (first | lia | omega))) ⟨ho, fun k => ⟨by rw [he]; exact PySem.typeIs_bool _ _, Post.tok r (by rw [he]; exact e)⟩⟩
theorem b_setN : CallA C (.type "set") setNW := fun P hP vs s H L Q tk r e => by
  unfold setNW at e
  split at e
  · rename_i h
    cases map_nil_inv h
    refine call_set_0 fun led => ?_
    exact Post.hp (k := s.toks) (r.alloc (ho := .st (fun _ => false) 0) _ ((setObjOf_fresh (knd := strKind (C.at P).prog (C.at P).w) led).setOf (Heap.get?_push_size _ rfl) (by unfold scanBound; (first | lia | omega)))) (e _ r.fresh)
  · exact e.elim
theorem b_sadd : CallA C (.builtin "set.add") saddW := fun P hP vs s H L Q tk r e => by
  refine by_ng fun ng => ?_
  obtain ⟨a, r0, h, hq0⟩ := mR_inv e
  obtain ⟨x, w1, r1, rfl, hq1⟩ := mS_inv hq0
  obtain ⟨rfl, hq2⟩ := mN_inv hq1
  refine ng ?_
  clear ng
  replace e := hq2
  · skip
    obtain ⟨v, vs', rfl, h1, h⟩ := map_cons_inv h; obtain ⟨u, vs'', rfl, h2, h⟩ := map_cons_inv h; cases map_nil_inv h
    cases er_ref h1; obtain ⟨t, rfl⟩ := er_str h2
    refine by_ng fun ng => ?_
    obtain ⟨S, n, h1, hz, e⟩ := e
    refine ng ?_
    clear ng
    refine call_set_add (knd := strKind (C.at P).prog (C.at P).w) (strKind_is _ _ x t) rfl (r.hp _ _ h1).2 (by unfold scanBound; (first | lia | omega)) fun h' hs hS => ?_
    exact Post.hp (r.turn (ho' := .st _ _) h1 hs hS) (e _ (by split <;> (first | lia | omega)))
theorem b_iter (S : ∃ o, C.P.get? sysModules = some o) : CallA C (.builtin "iter") iterW := fun P hP vs s H L Q tk r e => by
  refine by_ng fun ng => ?_
  obtain ⟨a, r0, h, hq0⟩ := mR_inv e
  obtain ⟨rfl, hq1⟩ := mN_inv hq0
  refine ng ?_
  clear ng
  replace e := hq1
  · skip
    obtain ⟨v, vs', rfl, h1, h⟩ := map_cons_inv h; cases map_nil_inv h
    cases er_ref h1
    refine by_ng fun ng => ?_
    obtain ⟨xs, h1, e⟩ := e
    obtain ⟨_, its, n, ho, hx⟩ := r.hp _ _ h1
    refine ng ?_
    clear ng
    refine call_function_entry (by decide +kernel) (by decide +kernel) kdk_entry_iter (kdk_args_iter _) ?_
    unfold Builtin.«iter»
    refine wpAny_bind (m := someArgs "iter" 1 2 _) (wpAny_of_eq (a := [Value.ref a]) (by first | rfl | kernel_rfl!) ?_)
    show wpAny _ _ (pyIter (.ref a) >>= _) _ _ _
    refine wpAny_bind (wpAny_pyIter_list (listOf_is ho) ?_)
    refine wpAny_pure ⟨_, rfl, ?_⟩
    exact Post.hp (k := s.toks) (r.alloc (ho := .lit a 0) _ (Heap.get?_push_size _ rfl)) (e _ r.fresh)

/-! a key is taken out of a dict -/
noncomputable def delW (v k : Value) : W Unit := fun Q H L => ∃ a es ep x t, v = .ref a ∧ k = .str x t ∧ H a = some (.dct es ep) ∧ es.length ≤ 1048575 ∧ (es.lookup x).isSome = true ∧ ∀ ep', Q () (upd H a (.dct (es.filter fun kv => decide (kv.1 ≠ x)) ep')) L
theorem del_ok (v k : Value) : Ok C (delItem v k) (delW (er v) (er k)) := by
  intro s H L Q _ r rr44
  refine by_ng fun ng => ?_
  obtain ⟨a, es, ep, x, t, hv, hk, h1, hz, hl, h2⟩ := rr44
  refine ng ?_
  clear ng
  rw [er_ref hv]; obtain ⟨u, rfl⟩ := er_str hk
  refine by_ng fun ng => ?_
  obtain ⟨_, kvs, hd, rfl⟩ := r.hp _ _ h1
  refine ng ?_
  clear ng
  rw [lookup_valueAt, Option.isSome_map] at hl
  unfold delItem
  try with_reducible refine wpAny_holding ?_
  refine wpAny_bind (wpAny_sequenceKey hd.dictOf.mapOf.typeIs (by decide) ?_)
  refine wpAny_bind (wpAny_callSpecial?_slot (name := Str.ofString "__delitem__") hd.dictOf.mapOf.typeIs PySem.F.slot_dict_delitem
    (call_meetsIn PySem.F.slot_dict_delitem hd.dictOf.mapOf.typeIs PySem.F.entry_dict_delitem (PySem.F.args_dict_delitem_2 _ _) (meets_dict_delitem_pairs (strKind C.prog C.w) a (strKind_is _ _ x u)) ⟨kvs, hd.dictOf, ?_, hl, fun h' hd' hs => ?_⟩))
  · have : kvs.length ≤ 1048575 := by simpa using hz
    exact Nat.le_trans this (by decide)
  obtain ⟨ep', hd''⟩ := hd'.dictAt
  refine wpAny_pure (Post.hp (r.turn (ho' := .dct ((kvs.map fun kv => (kv.1, er kv.2)).filter fun kv => decide (kv.1 ≠ x)) ep') h1 hs ⟨_, hd'', ?_⟩) (h2 ep'))
  unfold without
  rw [List.filter_map]; rfl
theorem S_del {env : Env} {o i : PySem.Expr} {p p' : Pos} {x y : W Value} (ho : OkAV C (eval o env) x) (hi : OkAV C (eval i env) y) : OkAF C (exec (.Delete [.Subscript o i p] p') env) (fun Q => x fun a => y fun b => delW a b fun _ => nextW Q) := OkA.mk fun P hP s H L Q tk r e => by
  refine wpAny_Delete (wpAny_deleteEach_cons (delete_Subscript ?_))
  refine wpAny_post (ho.ok P hP s H L _ tk r e) (fun ov s₁ H₁ L₁ o₁ r₁ e₁ => ?_)
  have t₁ := Nat.zero_le s₁.toks
  refine wpAny_post (hi.ok P hP s₁ H₁ L₁ _ t₁ r₁ e₁) (fun iv s₂ H₂ L₂ o₂ r₂ e₂ => ?_)
  have t₂ := Nat.zero_le s₂.toks
  refine wpAny_mono (del_ok ov iv s₂ H₂ L₂ _ t₂ r₂ e₂) (fun _ s₃ p => wpAny_deleteEach_nil ?_) fun _ _ q => q
  exact (p.from o₂).from o₁
end

open Builtin Builtin.ObjectAttr Builtin.Getset_descriptor

/-! the next item's method, taken as a value -/
abbrev nxtObj (it : Addr) : Obj := { cls := .type "method-wrapper", data := .fields #[.builtin "list_iterator.__next__", .ref it] }
abbrev litObj (l : Addr) (i : Nat) : Obj := { cls := .type "list_iterator", data := .fields #[.ref l, .int (i : Int) 0] }
theorem lit_ga : Slot "list_iterator" "__getattribute__" "object.__getattribute__" :=
  .of (owner := "object") (n := "__getattribute__") (by rw [typeLookup_type, builtinLookup_eq_fast]; kernel_rfl) (by decide +kernel) (by decide +kernel) (by decide +kernel)
    (by first | exact .inl (by decide +kernel) | exact .inr (by decide +kernel)) (by rw [isSubtype_type]; kernel_rfl)
theorem wd_get : Slot "wrapper_descriptor" "__get__" "wrapper_descriptor.__get__" :=
  .of (owner := "wrapper_descriptor") (n := "__get__") (by rw [typeLookup_type, builtinLookup_eq_fast]; kernel_rfl) (by decide +kernel) (by decide +kernel) (by decide +kernel)
    (by first | exact .inl (by decide +kernel) | exact .inr (by decide +kernel)) (by rw [isSubtype_type]; kernel_rfl)
theorem wd_entry : entryFor table "wrapper_descriptor.__get__" = some Builtin.«wrapper_descriptor.__get__» := entryFor_of_tree (by kernel_rfl)
theorem wd_args (a b c : Value) : argsOk "wrapper_descriptor.__get__" ⟨[a, b, c], []⟩ := by unfold argsOk; kernel_rfl
theorem ga_entry : entryFor table "object.__getattribute__" = some Builtin.«object.__getattribute__» := entryFor_of_tree (by kernel_rfl)
theorem ga_args (a b : Value) : argsOk "object.__getattribute__" ⟨[a, b], []⟩ := by unfold argsOk; kernel_rfl
theorem nx_type : typeOf (.builtin "list_iterator.__next__") = pure (.type "wrapper_descriptor") := by kernel_rfl
theorem nx_owner : (".".intercalate ("list_iterator.__next__".cutAt '.').dropLast) = "list_iterator" := by
  have e0 : "list_iterator.__next__".cutAt '.' = ["list_iterator", "__next__"] := by first | rfl | decide +kernel
  rw [e0]; decide +kernel
theorem nx_sub : isSubtype (.type "list_iterator") (.type "list_iterator") = pure true := by rw [isSubtype_type]; kernel_rfl
theorem wd_set : typeLookup (.type "wrapper_descriptor") "__set__" = pure none := by rw [typeLookup_type, builtinLookup_eq_fast]; kernel_rfl
theorem wd_del : typeLookup (.type "wrapper_descriptor") "__delete__" = pure none := by rw [typeLookup_type, builtinLookup_eq_fast]; kernel_rfl
section
variable {prog : Program} {w : World} {A : Around} {E : Value → Shared → Prop} {h : Heap} {g : Array GenState} {d : Drawn} {t : Nat} {os : OsState} {it l : Addr} {i : Nat}
theorem nx_get {R : Result → Shared → Prop} (hx : h.get? it = some (litObj l i)) (hq : R (.ok (.ret (.ref h.objs.size))) ⟨h.push (nxtObj it), g, d, t, os⟩) :
    codeAny (model prog w) A (.call (.builtin "wrapper_descriptor.__get__") ⟨[.builtin "list_iterator.__next__", .ref it, .type "list_iterator"], []⟩) R ⟨h, g, d, t, os⟩ := by
  have hT : (⟨h, g, d, t, os⟩ : Shared).TypeIs (.ref it) "list_iterator" := ⟨_, hx, rfl⟩
  have hT5 : (⟨h, g, d, t, os⟩ : Shared).TypeIs (.builtin "list_iterator.__next__") "wrapper_descriptor" := nx_type
  have f8 : isSubtype (.type "list_iterator") (.type (".".intercalate ("list_iterator.__next__".cutAt '.').dropLast)) = pure true := by rw [nx_owner]; exact nx_sub
  refine codeAny_call_builtin wd_get.plain wd_entry (wd_get.check _ _ _ _ _ _ _ _ hT5 (wd_args _ _ _) ?_)
  unfold Builtin.«wrapper_descriptor.__get__»
  repeat (any_goals (first | assumption | wp_step))
theorem nx_entry {tk : Tok} {Q : Fin → Shared → Prop} (hx : h.get? it = some (litObj l i)) (hq : Q (.done (.ret (.ref h.objs.size))) ⟨h.push (nxtObj it), g, d, t, os⟩) :
    wpAny (model prog w) A (Builtin.«object.__getattribute__» ⟨[.ref it, .str "__next__" tk], []⟩) Q E ⟨h, g, d, t, os⟩ := by
  have hT : (⟨h, g, d, t, os⟩ : Shared).TypeIs (.ref it) "list_iterator" := ⟨_, hx, rfl⟩
  have hT5 : (⟨h, g, d, t, os⟩ : Shared).TypeIs (.builtin "list_iterator.__next__") "wrapper_descriptor" := nx_type
  have f4 := slot_listiter_next.lookup
  have f5 := nx_type
  have f6 := wd_get.lookup
  have f7 := wd_set
  have f8 := wd_del
  unfold Builtin.«object.__getattribute__»
  repeat (any_goals (first | assumption | wp_step))
  refine nx_get hx ?_
  repeat (any_goals (first | assumption | wp_step))
theorem nx_call {tk : Tok} {R : Result → Shared → Prop} (hx : h.get? it = some (litObj l i)) (hq : R (.ok (.ret (.ref h.objs.size))) ⟨h.push (nxtObj it), g, d, t, os⟩) :
    codeAny (model prog w) A (.call (.builtin "object.__getattribute__") ⟨[.ref it, .str "__next__" tk], []⟩) R ⟨h, g, d, t, os⟩ :=
  codeAny_call_builtin lit_ga.plain ga_entry (lit_ga.check _ _ _ _ _ _ _ _ (show (⟨h, g, d, t, os⟩ : Shared).TypeIs (.ref it) "list_iterator" from ⟨_, hx, rfl⟩) (ga_args _ _) (nx_entry hx hq))
theorem nx_by {tk : Tok} {fill expr : Bool} {Q : Value → Shared → Prop} (hx : h.get? it = some (litObj l i)) (hq : Q (.ref h.objs.size) ⟨h.push (nxtObj it), g, d, t, os⟩) : wpAny (model prog w) A (getAttrBy (.ref it) (.str "__next__" tk) fill expr) Q E ⟨h, g, d, t, os⟩ := by
  have hT : (⟨h, g, d, t, os⟩ : Shared).TypeIs (.ref it) "list_iterator" := ⟨_, hx, rfl⟩
  have f2 := lit_ga.lookup
  have f3 := lit_ga.bind (.ref it)
  have hx0 : (expr && onTheHeap (Value.builtin "object.__getattribute__")) = false := by cases expr <;> rfl
  have hx1 : (onTheHeap (Value.type "list_iterator") && (Value.builtin "object.__getattribute__" == Value.builtin "object.__getattribute__")) = false := rfl
  repeat (any_goals (first | assumption | wp_step))
  refine nx_call hx ?_
  repeat (any_goals (first | assumption | wp_step))
theorem nx_attr {expr : Bool} {Q : Value → Shared → Prop} (hx : h.get? it = some (litObj l i)) (hq : Q (.ref h.objs.size) ⟨h.push (nxtObj it), g, d, t + 1, os⟩) : wpAny (model prog w) A (getAttr (.ref it) "__next__" expr) Q E ⟨h, g, d, t, os⟩ := by
  unfold getAttr
  repeat (any_goals (first | assumption | with_reducible apply nx_by hx | wp_step))
end
noncomputable def getNW (v : Value) : W Value := fun Q H L => ∃ it l i, v = .ref it ∧ H it = some (.lit l i) ∧ newW (.raw (nxtObj it)) Q H L
theorem getN_ok {C : Ctx} : GetOk C "__next__" getNW := fun v => OkA.mk fun P hP s H L Q tk r rrq => by
  refine by_ng fun ng => ?_
  obtain ⟨it, l, i, hv, h1, h2⟩ := rrq
  refine ng ?_
  clear ng
  cases er_ref hv
  refine by_ng fun ng => ?_
  obtain ⟨h, g, d, t, os⟩ := s
  refine ng ?_
  clear ng
  exact nx_attr (r.hp _ _ h1).2 (Post.hp (s := ⟨h, g, d, t, os⟩) (k := t + 1) (r.alloc (ho := .raw (nxtObj it)) _ (Heap.get?_push_size _ rfl)) (h2 _ r.fresh))

/-! its call -/
theorem nx_code {prog : Program} {w : World} {A : Around} {R : Result → Shared → Prop} {h : Heap} {g : Array GenState} {d : Drawn} {t : Nat} {os : OsState} {u it : Addr} (hu : h.get? u = some (nxtObj it))
    (hq : wpAny (model prog w) A.in1 (Builtin.«list_iterator.__next__» ⟨[.ref it], []⟩) (fun fin s' => match fin with | .done f => R (.ok f) s' | .again c' => c'.quiet = true ∧ codeAny (model prog w) A c' R s') (fun e s' => R (.error e) s') ⟨h, g, d, t, os⟩) :
    codeAny (model prog w) A (.call (.ref u) ⟨[], []⟩) R ⟨h, g, d, t, os⟩ := by
  refine codeAny_of_tree ?_
  show wpAny _ _ (callAny (.ref u) _) _ _ _
  refine nd_load hu ?_
  have hc : checkBoundCall "list_iterator.__next__" ⟨[.ref it], []⟩ = pure () := by kernel_rfl
  refine nd_bind (wpAny_pure ?_)
  dsimp only
  rw [if_pos (by rfl)]
  show wpAny _ _ (if (Value.type "method-wrapper" != Value.type "method") = true then _ else _) _ _ _
  rw [if_pos (by decide)]
  show wpAny _ _ (checkBoundCall "list_iterator.__next__" ⟨[.ref it], []⟩ >>= fun _ => again (.builtin "list_iterator.__next__" ⟨[.ref it], []⟩)) _ _ _
  rw [hc]
  refine wpAny_bind (wpAny_pure ?_)
  refine wpAny_pure ⟨Code.quiet_builtin _ (by decide +kernel), codeAny_builtin entry_listiter_next ?_⟩
  exact hq
theorem nx_step {prog : Program} {w : World} {A : Around} {E : Value → Shared → Prop} {s : Shared} {it l : Addr} {i : Nat} {its : Array Value} {n : Nat} {Q : PySem.Fin → Shared → Prop} (hh : A.handled = none) (hx : s.heap.get? it = some (litObj l i)) (hl : s.heap.get? l = some (listOf its n))
    (h1 : ∀ x, its[i]? = some x → Q (.done (.ret x)) { s with heap := s.heap.update it (Obj.mapFields (·.setIfInBounds 1 (rawInt ((i : Int) + 1)))) })
    (h2 : its[i]? = none → ∀ h' e a0 vs, (∀ b o, b ≠ it → s.heap.get? b = some o → h'.get? b = some o) → s.heap.get? e = none → h'.get? e = some { cls := .type "StopIteration", data := .fields vs } → vs[1]? = some .none → vs[0]? = some a0 → E (.ref e) { s with heap := h' }) :
    wpAny (model prog w) A (Builtin.«list_iterator.__next__» ⟨[.ref it], []⟩) Q E s := by
  show wpAny _ _ (field (.ref it) 0 >>= _) _ _ s
  refine wpAny_bind (wpAny_field hx rfl (x := .ref l) rfl ?_)
  show wpAny _ _ (if (Value.ref l == Value.none) = true then _ else _) _ _ s
  rw [if_neg (show ¬ ((Value.ref l == Value.none) = true) from Bool.false_ne_true)]
  show wpAny _ _ (field (.ref it) 1 >>= _) _ _ s
  refine wpAny_bind (wpAny_field hx rfl (x := .int i 0) rfl ?_)
  show wpAny _ _ (seqItems? (.ref l) >>= _) _ _ s
  refine wpAny_bind (wpAny_seqItems hl rfl ?_)
  cases q : its[i]? with
  | some x =>
    simp only [Int.toNat_natCast, q]
    exact wpAny_bind (wpAny_setField hx rfl (by simp) (wpAny_pure (h1 x q)))
  | none =>
    simp only [Int.toNat_natCast, q]
    refine wpAny_bind (wpAny_rule (wpAny_bind (wpAny_setField hx rfl (by simp) ?_)))
    show wpAny _ _ (newExc (.type "StopIteration") [] >>= _) _ _ _
    refine wpAny_bind ?_
    simp only [newExc, newTuple]
    refine wpAny_bind (wpAny_newObj_type ?_ (by size_fits))
    refine wpAny_bind (m := firstArgMember _ _) (wpAny_of_eq (a := Value.none) (by first | rfl | (simp only [firstArgMember]; rfl)) ?_)
    refine wpAny_newObj_type ?_ (by size_fits)
    simp only [raiseNew]
    refine wpAny_bind (wpAny_handled ?_)
    rw [hh]
    refine wpAny_bind (wpAny_pure (wpAny_throw ?_))
    refine h2 q _ _ _ _ (fun b o hb e => ?_) ?_ (Heap.get?_push_size _ rfl) (by rfl) (by rfl)
    · exact Heap.get?_push_of_some _ (Heap.get?_push_of_some _ ((Heap.get?_update_ne _ _ _ _ hb).trans e))
    · refine Heap.get?_none_of_le ?_
      rw [Heap.size_push]
      have : (s.heap.update it (Obj.mapFields (·.setIfInBounds 0 .none))).objs.size = s.heap.objs.size := by simp [Heap.update]
      (first | lia | omega)

noncomputable def del (H : HA) (a : Addr) : HA := fun b => if b = a then none else H b
theorem del_same (H : HA) (a : Addr) : del H a a = none := by simp [del]
theorem del_ne (H : HA) {a b : Addr} (h : b ≠ a) : del H a b = H b := by simp [del, h]
theorem del_sub (H : HA) (a : Addr) : HSub (del H a) H := fun b ho e => by
  by_cases q : b = a
  · subst q; rw [del_same] at e; cases e
  · rw [del_ne _ q] at e; exact e
noncomputable def tryNextW (sw : Value → W Unit) (hw : W Flow) (v : Value) : W Flow := fun Q H L => ∃ u it l i xs, v = .ref u ∧ H u = some (.raw (nxtObj it)) ∧ H it = some (.lit l i) ∧ H l = some (.lst xs) ∧ match xs[i]? with
  | some x => sw x (fun _ => Q .brk) (upd H it (.lit l (i + 1))) L
  | none => hw Q (del H it) L
theorem stop_exc : isSubtype (.type "StopIteration") (.type "BaseException") = pure true := by rw [isSubtype_type]; kernel_rfl
theorem stop_nt : isSubtype (.type ((Manifest.find? "StopIteration").elim "type" fun x => x.metatype)) (.type "tuple") = pure false := by
  rw [show ((Manifest.find? "StopIteration").elim "type" fun x => x.metatype) = "type" by kernel_rfl, isSubtype_type]; kernel_rfl
theorem stop_self : isSubtype (.type "StopIteration") (.type "StopIteration") = pure true := by rw [isSubtype_type]; kernel_rfl
section
variable {C : Ctx} {env : Env} {T : List (Str × NK)}
theorem S_tryNext (hh : C.A.handled = none) (V : EnvOk C T env) {x sn : Str} {k : NK} {np p1 p2 p3 p4 p5 p6 : Pos} {fe : PySem.Expr} {b₀ : Stmt} {suite : List Stmt} {w : W Value} {hw : W Flow} (hF : FrEnv C env) (hk : (x, k) ∈ T) (hsn : (sn, NK.glob (.type "StopIteration")) ∈ T)
    (hf : OkAV C (eval fe env) w) (hb : ∀ A' : Around, A'.units = C.A.units → EnvOk { C with A := A' } T env → OkAF { C with A := A' } (execs (b₀ :: suite) env) hw)
    (he : eval (.Call fe [] [] p2) env = (do callWith p2 (← eval fe env) [] (backTo p2 (starEach [] env)) (backToKw p2 (keywordEach [] env))) := by rfl) (hd : (sn == ("__debug__" : Str)) = false := by decide) :
    OkAF C (exec (.Try [.Assign [.Name x np] (.Call fe [] [] p2) p1, .Break p3] [.ExceptHandler (some (.Name sn p5)) none (b₀ :: suite) p6] [] [] p4) env) (fun Q => w fun v => tryNextW (storeW k) hw v Q) := OkA.mk fun P hP s H L Q tk r e => by
  refine wpAny_Try_except ?_
  rw [arm_execs_cons, arm_exec_Assign]
  refine wpAny_bind (wpAny_bind (wpAny_standAt ?_))
  have hs1 : swapsWithSole [.Name x np] (.Call fe [] [] p2) p1.line env = pure false := rfl
  have hs2 : swappedStores [.Name x np] (.Call fe [] [] p2) env = pure none := rfl
  rw [hs1, hs2]
  show wpAny _ _ (eval (.Call fe [] [] p2) env >>= fun v => assignStores env v none ((assignEach [.Name x np] env).map (·.2))) _ _ s
  rw [he]
  refine wpAny_bind (wpAny_bind (wpAny_noRaise (wpAny_post (hf.ok P hP s H L _ tk r e) (fun v s₁ H₁ L₁ o₁ r₁ rr45 => ?_))))
  refine by_ng fun ng => ?_
  obtain ⟨u, it, l, i, xs, hv, h1, h2, h3, h4⟩ := rr45
  refine ng ?_
  clear ng
  have t₁ := Nat.zero_le s₁.toks
  cases er_ref hv
  have hu := (r₁.hp _ _ h1).2
  have hit := (r₁.hp _ _ h2).2
  refine by_ng fun ng => ?_
  obtain ⟨its, n, hl, hxs⟩ := (r₁.hp _ _ h3).2
  refine ng ?_
  clear ng
  refine callWith_of (P := fun h => h.get? u = some (nxtObj it)) rfl (fun h ho => ⟨.machine, .inr (.inl rfl), (Looks.ld (part := none) ho).andThen (Looks.of_pure ?_)⟩) (evalArgs_lone (args := []) rfl (wpAny_pure ⟨hu, wpAny_call (nx_code hu (nx_step (s := s₁) hh hit hl (fun y hy => ?_) fun hy h' e' a0 vs g1 g2 g3 g4 g5 => ?_))⟩))
  · rfl
  · have hxi : xs[i]? = some (er y) := by rw [← hxs, List.getElem?_map, Array.getElem?_toList, hy]; rfl
    rw [hxi] at h4
    have r₂ : Rep (C.at P) (s₁.heap.update it (Obj.mapFields (·.setIfInBounds 1 (rawInt ((i : Int) + 1))))) (upd H₁ it (.lit l (i + 1))) L₁ := by
      refine r₁.turn (ho' := .lit l (i + 1)) h2 (Heap.SameBut.update ..) ?_
      show Heap.get? _ _ = _
      rw [Heap.get?_update_self _ hit rfl]
      rfl
    show wpAny _ _ (assignStores env y none ((assignEach [.Name x np] env).map (·.2))) _ _ _
    unfold assignStores
    refine wpAny_bind (m := assignAll y ((assignEach [.Name x np] env).map (·.2))) (wpAny_noRaise (wpAny_mono (((A_cons (A_name V hk) A_nil).all y).ok P hP { s₁ with heap := s₁.heap.update it (Obj.mapFields (·.setIfInBounds 1 (rawInt ((i : Int) + 1)))) } _ L₁ (fun _ => Q .brk) t₁ r₂ h4) (fun _ s₂ p₂ => ?_) fun _ _ q => q))
    refine wpAny_pure ?_
    show wpAny _ _ (execs [.Break p3] env) _ _ _
    rw [arm_execs_cons, arm_exec_Break]
    refine wpAny_bind (wpAny_bind (wpAny_standAt (wpAny_pure (wpAny_pure ?_))))
    exact (p₂.from (s₀ := s₁) ⟨rfl, rfl, rfl⟩).from o₁
  · have hxi : xs[i]? = none := by rw [← hxs, List.getElem?_map, Array.getElem?_toList, hy]; rfl
    rw [hxi] at h4
    refine by_ng fun ng => ?_
    obtain ⟨⟨fl, hfl, hfr⟩, ⟨outer, hout⟩, hfe⟩ := hF
    refine ng ?_
    clear ng
    rw [hout] at hfl
    cases hfl
    -- the frames' locals
    have hS : ∀ b ∈ (env :: outer).filterMap (·.frame), (C.at P).P.get? b = none ∧ del H₁ it b = none ∧ ∃ o, s₁.heap.get? b = some o ∧ ∀ vs, o.data ≠ .fields vs := fun b hb => by
      refine by_ng fun ng => ?_
      obtain ⟨v, hv1, hv2⟩ := List.mem_filterMap.mp hb
      obtain ⟨_, d, hd1, hd2⟩ := hfr v hv1
      refine ng ?_
      clear ng
      rw [hd1] at hv2
      cases hv2
      rcases hd2 with ⟨o, es, ep, e1, e2⟩ | ⟨y, e1⟩
      · refine by_ng fun ng => ?_
        obtain ⟨⟨sl, g⟩, p, q, _⟩ := r₁.dat _ _ e1
        refine ng ?_
        clear ng
        refine ⟨p, ?_, _, g, fun vs z => by have z' : o.data = .fields vs := z; rw [e2] at z'; cases z'⟩
        by_cases z : b = it
        · rw [z]; exact del_same _ _
        · rw [del_ne _ z]; exact q
      · refine by_ng fun ng => ?_
        obtain ⟨p, q⟩ := r₁.lfree _ e1
        obtain ⟨j, hj⟩ := List.getElem?_of_mem e1
        obtain ⟨m, ⟨o, es, ep, g, hd, _⟩, _⟩ := r₁.loc j _ hj
        refine ng ?_
        clear ng
        refine ⟨p, ?_, o, g, fun vs z => by rw [hd] at z; cases z⟩
        by_cases z : b = it
        · rw [z]; exact del_same _ _
        · rw [del_ne _ z]; exact q
    have hitS : it ∉ (env :: outer).filterMap (·.frame) := fun z => by
      refine by_ng fun ng => ?_
      obtain ⟨_, _, o, g, hd⟩ := hS it z
      refine ng ?_
      clear ng
      rw [hit] at g; cases g
      exact hd _ rfl
    have hitP := (r₁.hp _ _ h2).1
    have hitD := r₁.dnone h2
    have hitL : ∀ l' ∈ (C.at P).locs, l'.addr ≠ it := fun l' hl' z => by
      have := (r₁.lfree l' hl').2
      rw [z, h2] at this; cases this
    have r₂ : Rep (C.at P) h' (del H₁ it) L₁ := (r₁.forget (del_sub H₁ it)).ext (b := it) (fun b o hb eb => g1 b o hb eb) hitP (del_same _ _) hitL hitD
    generalize hSd : (env :: outer).filterMap (·.frame) = S at hS hitS
    -- what stands through the trace
    have baseGet : ∀ b, (mask (fun b => !(S.contains b) && b != it) s₁.heap).get? b = if b ∈ S ∨ b = it then none else s₁.heap.get? b := fun b => by
      rw [mask_get]
      by_cases z1 : b ∈ S <;> by_cases z2 : b = it <;> simp [z1, z2]
    generalize mask (fun b => !(S.contains b) && b != it) s₁.heap = base at baseGet
    have st : base.StaysIn h' := fun b o eb => by
      rw [baseGet] at eb
      split at eb
      · cases eb
      · rename_i z
        exact g1 b o (fun z' => z (.inr z')) eb
    have ben : base.get? e' = none := by
      rw [baseGet]; split
      · rfl
      · exact g2
    have hframes : h'.FunFrames base (env :: outer) := by
      have : ∀ l, (∀ v ∈ l, v ∈ env :: outer) → h'.FunFrames base l := fun l => by
        induction l with
        | nil => intro _; trivial
        | cons v rest ih =>
          intro hv
          refine by_ng fun ng => ?_
          obtain ⟨k1, d, k2, _⟩ := hfr v (hv v (List.mem_cons_self ..))
          refine ng ?_
          clear ng
          have hdS : d ∈ S := by rw [← hSd]; exact List.mem_filterMap.mpr ⟨v, hv v (List.mem_cons_self ..), k2⟩
          refine by_ng fun ng => ?_
          obtain ⟨_, _, o, g, hd⟩ := hS d hdS
          refine ng ?_
          clear ng
          refine ⟨by rw [k1]; decide, ⟨d, o, k2, by rw [baseGet, if_pos (.inl hdS)], g1 d o (fun z => hitS (z ▸ hdS)) g, hd⟩, ih fun y hy => hv y (List.mem_cons_of_mem _ hy)⟩
      exact this _ fun _ h => h
    have final : ∀ h3 : Heap, base.StaysIn h3 → (∀ b o, h'.get? b = some o → (∀ vs, o.data ≠ .fields vs) → ∃ sl, h3.get? b = some { o with slots := sl }) → Rep (C.at P) h3 (del H₁ it) L₁ := fun h3 q1 q2 => by
      have r₀ : Rep (C.at P) s₁.heap (del H₁ it) L₁ := r₁.forget (del_sub H₁ it)
      -- from the heap ahead of the raise, the iterator aside
      refine ⟨fun b o eb => ?_, fun a ho ea => ⟨(r₀.hp a ho ea).1, (r₀.hp a ho ea).2.of_keep fun o g => ?_⟩, fun j l' el => (r₀.loc j l' el).of_data fun o g => ?_, r₀.lfree, fun b o eb => ?_⟩
      · refine q1 b o ?_
        rw [baseGet, if_neg, r₀.keep b o eb]
        rintro (z | z)
        · rw [(hS b z).1] at eb; cases eb
        · rw [z, hitP] at eb; cases eb
      · refine q1 a o ?_
        rw [baseGet, if_neg, g]
        rintro (z | z)
        · rw [(hS a z).2.1] at ea; cases ea
        · rw [z, del_same] at ea; cases ea
      · have hne : l'.addr ≠ it := hitL l' (List.mem_of_getElem? el)
        by_cases z : l'.addr ∈ S
        · refine by_ng fun ng => ?_
          obtain ⟨_, _, o', g', hd⟩ := hS _ z
          refine ng ?_
          clear ng
          rw [g] at g'; cases g'
          exact q2 _ o (g1 _ o hne g) hd
        · exact ⟨o.slots, q1 _ o (by rw [baseGet, if_neg (by rintro (y | y); exact z y; exact hne y)]; exact g)⟩
      · refine by_ng fun ng => ?_
        obtain ⟨⟨sl, g⟩, p, q, w'⟩ := r₀.dat b o eb
        refine ng ?_
        clear ng
        refine ⟨?_, p, q, w'⟩
        have hne : b ≠ it := fun z => by rw [z, hitD] at eb; cases eb
        by_cases z : b ∈ S
        · refine by_ng fun ng => ?_
          obtain ⟨_, _, o', g', hd⟩ := hS _ z
          refine ng ?_
          clear ng
          rw [g] at g'; cases g'
          obtain ⟨sl', e3⟩ := q2 _ _ (g1 _ _ hne g) hd
          exact ⟨sl', e3⟩
        · exact ⟨sl, q1 _ _ (by rw [baseGet, if_neg (by rintro (y | y); exact z y; exact hne y)]; exact g)⟩
    -- the frame is noted
    unfold noteFrame
    simp only [hfe]
    refine wpAny_bind (wpAny_field g3 rfl g4 ?_)
    rw [if_neg (by decide)]
    refine wpAny_newEntryW (s := { s₁ with heap := h' }) (base := base) hout hframes hfe g3 st ben rfl (Array.getElem?_eq_some_iff.mp g4).1 g5 fun h2' ⟨k1, k2, k3, k4⟩ => ?_
    have fly : Heap.FlyingW base (env :: outer) e' (.type "StopIteration") a0 h2' := ⟨k1, ben, k2, k3⟩
    obtain ⟨ob, hob, hobc⟩ := fly.there
    refine wpAny_handleBy_builtin (X := "StopIteration") (T := "StopIteration") (b := true) stop_exc stop_nt stop_self ?_
    refine wpAny_Name ?_ hd
    have r₃ : Rep (C.at P) h2' (del H₁ it) L₁ := final h2' k1 k4
    refine by_ng fun ng => ?_
    obtain ⟨hk1, mg, hg, hv'⟩ := (V.at hP).nm sn _ hsn
    refine ng ?_
    clear ng
    have after : ∀ (R : Value → Shared → Prop) (E' : Value → Shared → Prop), R (.type "StopIteration") { s₁ with heap := h2' } → wpAny (model (C.at P).prog (C.at P).w) ((C.at P).A.mark (some (.ref e'))) (loadName env sn) R E' { s₁ with heap := h2' } := fun R E' hR => by
      unfold loadName
      simp only [Env.blockKind, V.fn, hk1, ScopeKind.isAnnotationScope, Bool.false_and, Bool.false_eq_true, if_false]
      rcases hv' with hv' | ⟨hv', mb, hb', hv''⟩
      · exact loadGlobal_global (Ns_keep hg fun o => r₃.keep _ o) hv' hR
      · exact loadGlobal_builtin (Ns_keep hg fun o => r₃.keep _ o) hv' (Ns_keep hb' fun o => r₃.keep _ o) hv'' hR
    refine after _ _ ⟨rfl, ⟨ob, hob, hobc⟩, ?_⟩
    rw [if_pos rfl]
    refine lands_againW fly fun h4' rr46 q2 => ?_
    refine by_ng fun ng => ?_
    obtain ⟨q1, _, _, _⟩ := rr46
    refine ng ?_
    clear ng
    have r₄ : Rep (C.at P) h4' (del H₁ it) L₁ := final h4' q1 fun b o eb hd => by
      obtain ⟨sl, e1⟩ := k4 b o eb hd
      obtain ⟨sl', e2⟩ := q2 b _ e1 hd
      exact ⟨sl', e2⟩
    refine wpAny_passesOwnAt PassesOwnAt.never ?_
    refine wpAny_mono ((hb ((C.at P).A.mark (some (.ref e'))) rfl ⟨V.fn, V.nd, fun y k hy => ?_⟩).ok P hP { s₁ with heap := h4' } (del H₁ it) L₁ Q t₁ ⟨r₄.keep, r₄.hp, r₄.loc, r₄.lfree, r₄.dat⟩ h4) (fun f s₅ ⟨o₅, H₅, L₅, r₅, e₅⟩ => ?_) fun _ _ q => q
    · have N := V.nm y k hy
      cases k with
      | slot i b => cases b <;> exact N
      | hid v => exact N
      | glob v => exact N
    · exact ⟨(o₁.trans ⟨rfl, rfl, rfl⟩).trans o₅, H₅, L₅, ⟨r₅.keep, r₅.hp, r₅.loc, r₅.lfree, r₅.dat⟩, e₅⟩
end

/-- the two classes of the sorter -/
noncomputable def TS : Addr := 188
noncomputable def NI : Addr := 91
noncomputable def a31 : Addr := 314
noncomputable def a32 : Addr := 321
noncomputable def a33 : Addr := 328
noncomputable def a34 : Addr := 335
noncomputable def a35 : Addr := 340
noncomputable def a36 : Addr := 347
noncomputable def a37 : Addr := 352
noncomputable def a38 : Addr := 357
noncomputable def a39 : Addr := 364
noncomputable def a40 : Addr := 369

/-! the sorter: its state -/
structure SD where
  x : Addr
  dx : Addr
  nd : Addr
  info : Nat → Addr
  idx : Nat → Addr
  sl : Nat → Addr
  ks : List Nat
  np : Nat → Int
  suc : Nat → List Nat
  rd : Option (Addr × List Nat)
  po : Int
  nf : Int
noncomputable def rdV : Option (Addr × List Nat) → Value
  | none => .none
  | some (a, _) => .ref a
noncomputable def tsEs (d : SD) : List (Str × Value) := [(Str.ofString "_node2info", .ref d.nd), (Str.ofString "_ready_nodes", rdV d.rd), (Str.ofString "_npassedout", .int d.po 0), (Str.ofString "_nfinished", .int d.nf 0)]
noncomputable def infoL (nm : Nat → Str) (d : SD) (y : Nat) : List (Option Value) := [some (.str (nm y) 0), some (.int (d.np y) 0), some (.ref (d.sl y))]
structure Srt (TS NI : Addr) (nm : Nat → Str) (Hb H : HA) (d : SD) : Prop where
  sub : HSub Hb H
  hx : H d.x = some (.raw (instObj TS d.dx))
  hdx : H d.dx = some (.ns (tsEs d))
  hnd : ∃ ep, H d.nd = some (.dct (d.ks.map fun y => (nm y, .ref (d.info y))) ep)
  hi : ∀ y ∈ d.ks, H (d.info y) = some (.slo NI (d.idx y) (infoL nm d y)) ∧ H (d.idx y) = some (.raw emptyDict) ∧ H (d.sl y) = some (.lst (vS ((d.suc y).map nm)))
  hr : ∀ a l, d.rd = some (a, l) → H a = some (.lst (vS (l.map nm))) ∧ Hb a = none ∧ ∀ y ∈ d.ks, d.sl y ≠ a
  bx : Hb d.dx = none
  bn : Hb d.nd = none
  bi : ∀ y ∈ d.ks, Hb (d.info y) = none ∧ Hb (d.sl y) = none
  inj : ∀ y ∈ d.ks, ∀ z ∈ d.ks, d.sl y = d.sl z → y = z
  lt : ∀ y ∈ d.ks, y < 10
  nod : d.ks.Nodup
  nmi : ∀ y z, y < 10 → z < 10 → nm y = nm z → y = z
  df : ∀ z, z ∉ d.ks → d.np z = 0 ∧ d.suc z = []
theorem Srt.len {TS NI : Addr} {nm : Nat → Str} {Hb H : HA} {d : SD} (h : Srt TS NI nm Hb H d) : d.ks.length ≤ 10 := nodup_len 10 d.ks h.nod h.lt
theorem Srt.up {TS NI : Addr} {nm : Nat → Str} {Hb H H' : HA} {d : SD} (h : Srt TS NI nm Hb H d) (k : HSub H H') : Srt TS NI nm Hb H' d :=
  ⟨h.sub.trans k, k _ _ h.hx, k _ _ h.hdx, let ⟨ep, e⟩ := h.hnd; ⟨ep, k _ _ e⟩, fun y hy => let ⟨a, b, c⟩ := h.hi y hy; ⟨k _ _ a, k _ _ b, k _ _ c⟩, fun a l e => let ⟨x, y, z⟩ := h.hr a l e; ⟨k _ _ x, y, z⟩, h.bx, h.bn, h.bi, h.inj, h.lt, h.nod, h.nmi, h.df⟩
theorem Srt.look {TS NI : Addr} {nm : Nat → Str} {Hb H : HA} {d : SD} (h : Srt TS NI nm Hb H d) {y : Nat} (hy : y < 10) : (d.ks.map fun y => (nm y, Value.ref (d.info y))).lookup (nm y) = if y ∈ d.ks then some (.ref (d.info y)) else none := by
  have hl := h.lt
  have hn := h.nmi
  generalize d.ks = ks at hl
  induction ks with
  | nil => rfl
  | cons a r ih =>
    rw [List.map_cons, List.lookup_cons]
    have ih := ih fun z hz => hl z (List.mem_cons_of_mem _ hz)
    by_cases q : y = a
    · subst q; simp
    · have : (nm y == nm a) = false := by
        rw [beq_eq_false_iff_ne]
        exact fun z => q (hn y a hy (hl a (List.mem_cons_self ..)) z)
      rw [this, ih]
      simp [q]
/-- a word of the sorter at `z` -/
noncomputable def setAt {α : Type} (f : Nat → α) (y : Nat) (v : α) : Nat → α := fun z => if z = y then v else f z
@[simp] theorem setAt_same {α : Type} (f : Nat → α) (y : Nat) (v : α) : setAt f y v y = v := by simp [setAt]
theorem setAt_ne {α : Type} (f : Nat → α) {y z : Nat} (v : α) (h : z ≠ y) : setAt f y v z = f z := by simp [setAt, h]
theorem sub_owned {Hb H : HA} (h : HSub Hb H) {a : Addr} (e : Hb a = none) {ho : HO} : HSub Hb (upd H a ho) := h.upd e
section
variable {TS NI : Addr} {nm : Nat → Str} {Hb H : HA} {d : SD}
theorem Srt.info_ne (h : Srt TS NI nm Hb H d) {y z : Nat} (hy : y ∈ d.ks) (hz : z ∈ d.ks) (hn : z ≠ y) : d.info z ≠ d.info y := fun e => by
  refine by_ng fun ng => ?_
  obtain ⟨a, _, _⟩ := h.hi y hy
  obtain ⟨b, _, _⟩ := h.hi z hz
  refine ng ?_
  clear ng
  rw [e, a] at b
  have := (HO.slo.inj (Option.some.inj b)).2.2
  unfold infoL at this
  have h1 : nm y = nm z := by
    have := congrArg (fun l => l.head?) this
    simpa using this
  exact hn (h.nmi z y (h.lt z hz) (h.lt y hy) h1.symm)
theorem Srt.setNp (h : Srt TS NI nm Hb H d) {y : Nat} (hy : y ∈ d.ks) (k : Int) : Srt TS NI nm Hb (upd H (d.info y) (.slo NI (d.idx y) [some (.str (nm y) 0), some (.int k 0), some (.ref (d.sl y))])) { d with np := setAt d.np y k } := by
  obtain ⟨a, b, c⟩ := h.hi y hy
  have ne : ∀ {p : Addr} {ho : HO}, H p = some ho → (∀ C dx s, ho ≠ .slo C dx s) → p ≠ d.info y := fun e q z => by rw [z, a] at e; cases e; exact q _ _ _ rfl
  refine ⟨sub_owned h.sub (h.bi y hy).1, (upd_ne _ _ (ne h.hx (fun _ _ _ q => by cases q))).trans h.hx, (upd_ne _ _ (ne h.hdx (fun _ _ _ q => by cases q))).trans h.hdx, let ⟨ep, e⟩ := h.hnd; ⟨ep, (upd_ne _ _ (ne e (fun _ _ _ q => by cases q))).trans e⟩, fun z hz => ?_, fun p l e => let ⟨u, v, w⟩ := h.hr p l e; ⟨(upd_ne _ _ (ne u (fun _ _ _ q => by cases q))).trans u, v, w⟩, h.bx, h.bn, h.bi, h.inj, h.lt, h.nod, h.nmi, fun z hz => ⟨(setAt_ne _ _ (fun q => hz (by rw [q]; exact hy))).trans (h.df z hz).1, (h.df z hz).2⟩⟩
  obtain ⟨a', b', c'⟩ := h.hi z hz
  refine ⟨?_, (upd_ne _ _ (ne b' (fun _ _ _ q => by cases q))).trans b', (upd_ne _ _ (ne c' (fun _ _ _ q => by cases q))).trans c'⟩
  by_cases q : z = y
  · subst q
    show upd H (d.info z) _ (d.info z) = _
    rw [upd_same]; unfold infoL; simp
  · show upd H (d.info y) _ (d.info z) = _
    rw [upd_ne _ _ (h.info_ne hy hz q), a']
    unfold infoL; simp only [setAt_ne _ _ q]
theorem Srt.setSuc (h : Srt TS NI nm Hb H d) {y : Nat} (hy : y ∈ d.ks) (l : List Nat) : Srt TS NI nm Hb (upd H (d.sl y) (.lst (vS (l.map nm)))) { d with suc := setAt d.suc y l } := by
  obtain ⟨a, b, c⟩ := h.hi y hy
  have ne : ∀ {p : Addr} {ho : HO}, H p = some ho → (∀ s, ho ≠ .lst s) → p ≠ d.sl y := fun e q z => by rw [z, c] at e; cases e; exact q _ rfl
  refine ⟨sub_owned h.sub (h.bi y hy).2, (upd_ne _ _ (ne h.hx (fun _ q => by cases q))).trans h.hx, (upd_ne _ _ (ne h.hdx (fun _ q => by cases q))).trans h.hdx, let ⟨ep, e⟩ := h.hnd; ⟨ep, (upd_ne _ _ (ne e (fun _ q => by cases q))).trans e⟩, fun z hz => ?_, fun p l' e => let ⟨u, v, w⟩ := h.hr p l' e; ⟨(upd_ne _ _ (Ne.symm (w y hy))).trans u, v, w⟩, h.bx, h.bn, h.bi, h.inj, h.lt, h.nod, h.nmi, fun z hz => ⟨(h.df z hz).1, (setAt_ne _ _ (fun q => hz (by rw [q]; exact hy))).trans (h.df z hz).2⟩⟩
  obtain ⟨a', b', c'⟩ := h.hi z hz
  refine ⟨(upd_ne _ _ (ne a' (fun _ q => by cases q))).trans a', (upd_ne _ _ (ne b' (fun _ q => by cases q))).trans b', ?_⟩
  by_cases q : z = y
  · subst q
    show upd H (d.sl z) _ (d.sl z) = _
    rw [upd_same]; simp
  · show upd H (d.sl y) _ (d.sl z) = _
    rw [upd_ne _ _ (fun e => q (h.inj z hz y hy e)), c']
    simp only [setAt_ne _ _ q]
theorem Srt.setRd (h : Srt TS NI nm Hb H d) {a : Addr} {l : List Nat} (e : d.rd = some (a, l)) (l' : List Nat) : Srt TS NI nm Hb (upd H a (.lst (vS (l'.map nm)))) { d with rd := some (a, l') } := by
  obtain ⟨u, v, w⟩ := h.hr a l e
  have ne : ∀ {p : Addr} {ho : HO}, H p = some ho → (∀ s, ho ≠ .lst s) → p ≠ a := fun e q z => by rw [z, u] at e; cases e; exact q _ rfl
  refine ⟨sub_owned h.sub v, (upd_ne _ _ (ne h.hx (fun _ q => by cases q))).trans h.hx, (upd_ne _ _ (ne h.hdx (fun _ q => by cases q))).trans ?_, let ⟨ep, e⟩ := h.hnd; ⟨ep, (upd_ne _ _ (ne e (fun _ q => by cases q))).trans e⟩, fun z hz => ?_, fun p l'' e' => ?_, h.bx, h.bn, h.bi, h.inj, h.lt, h.nod, h.nmi, h.df⟩
  · rw [h.hdx]; unfold tsEs; rw [e]; rfl
  · obtain ⟨a', b', c'⟩ := h.hi z hz
    exact ⟨(upd_ne _ _ (ne a' (fun _ q => by cases q))).trans a', (upd_ne _ _ (ne b' (fun _ q => by cases q))).trans b', (upd_ne _ _ (w z hz)).trans c'⟩
  · cases e'
    exact ⟨upd_same _ _ _, v, w⟩
theorem Srt.setDx (h : Srt TS NI nm Hb H d) (d' : SD) (e1 : d' = { d with rd := d'.rd, po := d'.po, nf := d'.nf }) (hr : ∀ a l, d'.rd = some (a, l) → H a = some (.lst (vS (l.map nm))) ∧ Hb a = none ∧ ∀ y ∈ d.ks, d.sl y ≠ a) : Srt TS NI nm Hb (upd H d.dx (.ns (tsEs d'))) d' := by
  have ne : ∀ {p : Addr} {ho : HO}, H p = some ho → (∀ s, ho ≠ .ns s) → p ≠ d.dx := fun e q z => by rw [z, h.hdx] at e; cases e; exact q _ rfl
  refine by_ng fun ng => ?_
  obtain ⟨x, dx, nd, info, idx, sl, ks, np, suc, rd, po, nf⟩ := d'
  refine ng ?_
  clear ng
  simp only [SD.mk.injEq] at e1
  refine by_ng fun ng => ?_
  obtain ⟨rfl, rfl, rfl, rfl, rfl, rfl, rfl, rfl, rfl, _⟩ := e1
  refine ng ?_
  clear ng
  refine ⟨sub_owned h.sub h.bx, (upd_ne _ _ (ne h.hx (fun _ q => by cases q))).trans h.hx, upd_same _ _ _, let ⟨ep, e⟩ := h.hnd; ⟨ep, (upd_ne _ _ (ne e (fun _ q => by cases q))).trans e⟩, fun z hz => ?_, fun p l e => ?_, h.bx, h.bn, h.bi, h.inj, h.lt, h.nod, h.nmi, h.df⟩
  · obtain ⟨a', b', c'⟩ := h.hi z hz
    exact ⟨(upd_ne _ _ (ne a' (fun _ q => by cases q))).trans a', (upd_ne _ _ (ne b' (fun _ q => by cases q))).trans b', (upd_ne _ _ (ne c' (fun _ q => by cases q))).trans c'⟩
  · obtain ⟨u, v, w⟩ := hr p l e
    exact ⟨(upd_ne _ _ (ne u (fun _ q => by cases q))).trans u, v, w⟩
/-- a new node -/
theorem Srt.new (h : Srt TS NI nm Hb H d) {y : Nat} (hy : y ∉ d.ks) (h10 : y < 10) {r ix s : Addr} (er : H r = some (.slo NI ix [some (.str (nm y) 0), some (.int 0 0), some (.ref s)])) (ei : H ix = some (.raw emptyDict)) (es : H s = some (.lst [])) (br : Hb r = none) (bs : Hb s = none)
    (ns : ∀ z ∈ d.ks, d.sl z ≠ s) (nr : ∀ a l, d.rd = some (a, l) → s ≠ a) {ep : Nat} : Srt TS NI nm Hb (upd H d.nd (.dct ((d.ks ++ [y]).map fun z => (nm z, .ref (setAt d.info y r z))) ep)) { d with ks := d.ks ++ [y], info := setAt d.info y r, idx := setAt d.idx y ix, sl := setAt d.sl y s } := by
  obtain ⟨dn, ds⟩ := h.df y hy
  obtain ⟨ep0, e0⟩ := h.hnd
  have ne : ∀ {p : Addr} {ho : HO}, H p = some ho → (∀ es ep, ho ≠ .dct es ep) → p ≠ d.nd := fun e q z => by rw [z, e0] at e; cases e; exact q _ _ rfl
  have old : ∀ z ∈ d.ks, z ≠ y := fun z hz q => hy (q ▸ hz)
  refine ⟨sub_owned h.sub h.bn, (upd_ne _ _ (ne h.hx (fun _ _ q => by cases q))).trans h.hx, (upd_ne _ _ (ne h.hdx (fun _ _ q => by cases q))).trans h.hdx, ⟨ep, upd_same _ _ _⟩, fun z hz => ?_, fun p l e => ?_, h.bx, h.bn, fun z hz => ?_, fun z hz z' hz' e => ?_, fun z hz => ?_, ?_, h.nmi, fun z hz => h.df z fun q => hz (List.mem_append_left _ q)⟩
  · rcases List.mem_append.mp hz with hz | hz
    · obtain ⟨a', b', c'⟩ := h.hi z hz
      have q := old z hz
      refine ⟨?_, ?_, ?_⟩
      · show upd H d.nd _ (setAt d.info y r z) = some (.slo NI (setAt d.idx y ix z) _)
        rw [setAt_ne _ _ q, setAt_ne _ _ q, upd_ne _ _ (ne a' (fun _ _ q => by cases q)), a']
        unfold infoL; simp only [setAt_ne _ _ q]
      · show upd H d.nd _ (setAt d.idx y ix z) = _
        rw [setAt_ne _ _ q, upd_ne _ _ (ne b' (fun _ _ q => by cases q)), b']
      · show upd H d.nd _ (setAt d.sl y s z) = some (.lst (vS ((d.suc z).map nm)))
        rw [setAt_ne _ _ q, upd_ne _ _ (ne c' (fun _ _ q => by cases q)), c']
    · rw [List.mem_singleton] at hz; subst hz
      refine ⟨?_, ?_, ?_⟩
      · show upd H d.nd _ (setAt d.info z r z) = some (.slo NI (setAt d.idx z ix z) _)
        rw [setAt_same, setAt_same, upd_ne _ _ (ne er (fun _ _ q => by cases q)), er]
        unfold infoL; simp [dn]
      · show upd H d.nd _ (setAt d.idx z ix z) = _
        rw [setAt_same, upd_ne _ _ (ne ei (fun _ _ q => by cases q)), ei]
      · show upd H d.nd _ (setAt d.sl z s z) = some (.lst (vS ((d.suc z).map nm)))
        rw [setAt_same, upd_ne _ _ (ne es (fun _ _ q => by cases q)), es, ds]; rfl
  · obtain ⟨u, v, w⟩ := h.hr p l e
    refine ⟨(upd_ne _ _ (ne u (fun _ _ q => by cases q))).trans u, v, fun z hz => ?_⟩
    rcases List.mem_append.mp hz with hz | hz
    · show setAt d.sl y s z ≠ p
      rw [setAt_ne _ _ (old z hz)]; exact w z hz
    · rw [List.mem_singleton] at hz; subst hz
      show setAt d.sl z s z ≠ p
      rw [setAt_same]; exact nr p l e
  · rcases List.mem_append.mp hz with hz | hz
    · show Hb (setAt d.info y r z) = none ∧ Hb (setAt d.sl y s z) = none
      rw [setAt_ne _ _ (old z hz), setAt_ne _ _ (old z hz)]; exact h.bi z hz
    · rw [List.mem_singleton] at hz; subst hz
      show Hb (setAt d.info z r z) = none ∧ Hb (setAt d.sl z s z) = none
      rw [setAt_same, setAt_same]; exact ⟨br, bs⟩
  · have e' : setAt d.sl y s z = setAt d.sl y s z' := e
    have hz0 : z ∈ d.ks ++ [y] := hz
    have hz0' : z' ∈ d.ks ++ [y] := hz'
    clear hz hz' e
    by_cases q : z = y <;> by_cases q' : z' = y
    · rw [q, q']
    · have hz1 := (List.mem_append.mp hz0').resolve_right (by simpa using q')
      rw [q, setAt_same, setAt_ne _ _ q'] at e'; exact absurd e'.symm (ns z' hz1)
    · have hz1 := (List.mem_append.mp hz0).resolve_right (by simpa using q)
      rw [q', setAt_same, setAt_ne _ _ q] at e'; exact absurd e' (ns z hz1)
    · have hz1 := (List.mem_append.mp hz0).resolve_right (by simpa using q)
      have hz2 := (List.mem_append.mp hz0').resolve_right (by simpa using q')
      rw [setAt_ne _ _ q, setAt_ne _ _ q'] at e'; exact h.inj z hz1 z' hz2 e'
  · rcases List.mem_append.mp hz with hz | hz
    · exact h.lt z hz
    · rw [List.mem_singleton] at hz; rw [hz]; exact h10
  · refine List.nodup_append.mpr ⟨h.nod, by simp, fun a ha b hb e => ?_⟩
    rw [List.mem_singleton] at hb; subst hb; exact hy (e ▸ ha)
end



structure AttrsIn (K : Frag) (TS NI pn pp ps : Addr) : Prop where
  A0 : DAttr K TS (Str.ofString "_node2info")
  A1 : DAttr K TS (Str.ofString "_ready_nodes")
  A2 : DAttr K TS (Str.ofString "_npassedout")
  A3 : DAttr K TS (Str.ofString "_nfinished")
  A4 : SAttr K NI (Str.ofString "node") pn 0
  A5 : SAttr K NI (Str.ofString "npredecessors") pp 1
  A6 : SAttr K NI (Str.ofString "successors") ps 2
section
variable {Q : Value → HA → Ls → Prop} {QU : Unit → HA → Ls → Prop} {H : HA} {L : Ls} {v : Value}
theorem s_getD {TS x dx : Addr} {name : Str} {es : List (Str × Value)} {a : Value} (h1 : H x = some (.raw (instObj TS dx))) (h2 : H dx = some (.ns es)) (h3 : es.lookup name = some a) (h4 : plainV a = true) (h : Q a H L) : getDW TS name (.ref x) Q H L := ⟨x, dx, es, a, rfl, h1, h2, h3, h4, h⟩
theorem s_setD {TS x dx : Addr} {name : Str} {es es' : List (Str × Value)} {a : Value} (h1 : H x = some (.raw (instObj TS dx))) (h2 : H dx = some (.ns es)) (h3 : es.length ≤ 100) (h4 : putE es name a = es') (h : QU () (upd H dx (.ns es')) L) : setDW TS name (.ref x) a QU H L := ⟨x, dx, es, rfl, h1, h2, h3, by rw [h4]; exact h⟩
theorem s_getS {NI x dx : Addr} {i : Nat} {sl : List (Option Value)} {a : Value} (h1 : H x = some (.slo NI dx sl)) (h2 : H dx = some (.raw emptyDict)) (h3 : sl[i]? = some (some a)) (h4 : plainV a = true) (h : Q a H L) : getSW NI i (.ref x) Q H L := ⟨x, dx, sl, a, rfl, h1, h2, h3, h4, h⟩
theorem s_setS {NI x dx : Addr} {i : Nat} {sl sl' : List (Option Value)} {a : Value} (h1 : H x = some (.slo NI dx sl)) (h2 : H dx = some (.raw emptyDict)) (h4 : putS sl i a = sl') (h : QU () (upd H x (.slo NI dx sl')) L) : setSW NI i (.ref x) a QU H L := ⟨x, dx, sl, rfl, h1, h2, by rw [h4]; exact h⟩
theorem s_imeth {TS x dx : Addr} {name : Str} {es : List (Str × Value)} {ws : W (List Value)} {cw : BW} (h1 : H x = some (.raw (instObj TS dx))) (h2 : H dx = some (.ns es)) (h3 : es.lookup name = none) (h : ws (fun as => cw (.ref x :: as) Q) H L) : imethW TS name ws cw (.ref x) Q H L := ⟨x, dx, es, rfl, h1, h2, h3, h⟩
end
noncomputable def T10_1  : List (Str × NK) := [(Str.ofString "self", NK.slot 0 false), (Str.ofString "node", NK.slot 1 false)]
noncomputable def G10_1  : List (Str × Value) := []
theorem tab10_1  : fnT (MS 10 1) (G10_1 ) = T10_1  := by kernel_rfl
theorem chk10_1 : scOk (MS 10 1) [Str.ofString "self", Str.ofString "node"] = true := by decide +kernel
theorem bind10_1 {fd : FuncData} (hp : fd.params = MP 10 1) (hd : fd.defaults = .none) (hk : fd.kwdefaults = .none) (vs : List Value) (hl : vs.length = 2) : bindArgs fd ⟨vs, []⟩ = pure ([Str.ofString "self", Str.ofString "node"].zip vs) := by
  refine by_ng fun ng => ?_
  obtain ⟨a0, a1, rfl⟩ := len2 hl
  obtain ⟨n, q, p, bd, sc, g, cl, df, kd, doc, pm, an, cd, ct, bu⟩ := fd
  refine ng ?_
  clear ng
  subst hp; subst hd; subst hk
  kernel_rfl
theorem ini10_1 (a0  a1 : Value) : iniOf (MS 10 1) ([Str.ofString "self", Str.ofString "node"].zip [a0, a1]) = [some a0, some a1] := by kernel_rfl

noncomputable def nodeInitB (NI : Addr) (x : Addr) (s : Str) (t : Tok) (Q : Value → HA → Ls → Prop) (H : HA) (L : Ls) : Prop :=
  ∃ dx, H x = some (.slo NI dx []) ∧ H dx = some (.raw emptyDict) ∧
      ∀ H' l, (∀ a ho, a ≠ x → H a = some ho → H' a = some ho) → H l = none → H' x = some (.slo NI dx [some (.str s t), some (.int 0 0), some (.ref l)]) → H' l = some (.lst []) → Q .none H' L
noncomputable def nodeInitW (NI : Addr) : BW := fun vs Q H L => mR (fun x => mST (fun s t => mN (nodeInitB NI x s t Q H L))) vs
theorem nodeInit_walk {B : Heap} (hB : Bas B) {n : Nat}  (K : Frag) (X : K.In B) {pn pp ps : Addr} (A : AttrsIn K TS NI pn pp ps) {f : Addr} {fd : FuncData} (Fi : FnIn B f fd (MB 10 1)) (hsc : fd.scope = MS 10 1) (hp : fd.params = MP 10 1) (hg : ∀ g ∈ G10_1 , GlobOk B fd.globals fd.builtins g.1 g.2) : FnK B false (n + 1) f (nodeInitW NI) := by
  have main := fn_okK (n := n) (fr := false) hB Fi.toFnIn0 (by rw [hsc]; exact chk10_1) (fun _ => by rw [hsc]; decide +kernel) hg (fun C _ vs => bind_args (bind10_1 hp Fi.dfl Fi.kwd) C vs) (fun C env le room V len0 hF =>
    have lenC : C.locs.length = 2 := len0.trans (by rw [hsc]; kernel_rfl)
    have V : EnvOk C (T10_1 ) env := tab_eq (hsc ▸ tab10_1 ) V
    have S := hB.stat le room
    have hh := room.handled
    (S_cons (S_assign (E_name V (.tail _ (.head _))) (A_cons (A_attr (E_name V (.head _)) (setS_ok (X.keeps le) A.A4)) A_nil)) (S_cons (S_assign (E_const _ _ _) (A_cons (A_attr (E_name V (.head _)) (setS_ok (X.keeps le) A.A5)) A_nil)) (S_cons (S_assign (E_list E_nil) (A_cons (A_attr (E_name V (.head _)) (setS_ok (X.keeps le) A.A6)) A_nil)) S_nil))))
  refine main.spec ?_
  clear main
  rw [hsc]
  intro vs Q H L h
  refine by_ng fun ng => ?_
  obtain ⟨x, r0, rfl, hq0⟩ := mR_inv h
  obtain ⟨s, t, r1, rfl, hq1⟩ := mST_inv hq0
  obtain ⟨rfl, hq2⟩ := mN_inv hq1
  refine ng ?_
  clear ng
  replace h := hq2
  · skip
    refine by_ng fun ng => ?_
    obtain ⟨dx, hx, hdx, hq⟩ := h
    refine ng ?_
    clear ng
    refine ⟨rfl, ?_⟩
    refine' s_start (ini10_1 _ _) ?_
    walk_at "st"
    have hne : ∀ {p : Addr} {ho : HO}, H p = some ho → (∀ C dx s, ho ≠ .slo C dx s) → p ≠ x := fun e q z => by rw [z, hx] at e; cases e; exact q _ _ _ rfl
    have hdxx : dx ≠ x := hne hdx (fun _ _ _ q => by cases q)
    refine' s_setS hx hdx (sl' := [some (.str s t)]) rfl ?_
    walk_at "st"
    refine' s_setS (upd_same _ _ _) ((upd_ne _ _ hdxx).trans hdx) (sl' := [some (.str s t), some (.int 0 0)]) rfl ?_
    walk_at "st"
    refine' ⟨by show 0 ≤ sizeLine; decide, fun l hl => ?_⟩
    obtain ⟨hl1, hlx⟩ := none_upd hl
    obtain ⟨hl2, _⟩ := none_upd hl1
    walk_at "st"
    refine' s_setS ((upd_ne _ _ (Ne.symm hlx)).trans (upd_same _ _ _)) ((upd_ne _ _ (fun z => by rw [z, hl2] at hdx; cases hdx)).trans ((upd_ne _ _ hdxx).trans ((upd_ne _ _ hdxx).trans hdx))) (sl' := [some (.str s t), some (.int 0 0), some (.ref l)]) rfl ?_
    walk_at "st"
    refine ⟨_, HSub.refl _, hq _ l (fun a ho ha e => ?_) hl2 ?_ ?_⟩
    · rw [upd_ne _ _ ha, upd_ne _ _ (fun z => by rw [z, hl2] at e; cases e), upd_ne _ _ ha, upd_ne _ _ ha]; exact e
    · rw [upd_same]
    · rw [upd_ne _ _ hlx, upd_same]
noncomputable def T12_0  : List (Str × NK) := [(Str.ofString "self", NK.slot 0 false), (Str.ofString "graph", NK.slot 1 false), (Str.ofString "node", NK.slot 2 false), (Str.ofString "predecessors", NK.slot 3 false)]
noncomputable def G12_0  : List (Str × Value) := []
theorem tab12_0  : fnT (MS 12 0) (G12_0 ) = T12_0  := by kernel_rfl
theorem chk12_0 : scOk (MS 12 0) [Str.ofString "self", Str.ofString "graph"] = true := by decide +kernel
theorem ini12_0 (a0  a1 : Value) : iniOf (MS 12 0) ([Str.ofString "self", Str.ofString "graph"].zip [a0, a1]) = [some a0, some a1, none, none] := by kernel_rfl

theorem bindD12 {fd : FuncData} {t : Addr} (hp : fd.params = MP 12 0) (hd : fd.defaults = .ref t) (hk : fd.kwdefaults = .none) {M : Model} {A : Around} {E : Value → Shared → Prop} {s : Shared} {Q : List (Str × Value) → Shared → Prop} {n : Nat} (a : Value) (ht : s.heap.get? t = some (tupOf #[.none] n))
    (h : Q [(Str.ofString "self", a), (Str.ofString "graph", .none)] s) : wpAny M A (bindArgs fd ⟨[a], []⟩) Q E s := by
  refine by_ng fun ng => ?_
  obtain ⟨n, q, p, bd, sc, g, cl, df, kd, doc, pm, an, cd, ct, bu⟩ := fd
  refine ng ?_
  clear ng
  subst hp; subst hd; subst hk
  show wpAny M A (seqItems? (.ref t) >>= _) Q E s
  refine wpAny_bind (wpAny_seqItems ht rfl ?_)
  exact wpAny_of_eq (a := [(Str.ofString "self", a), (Str.ofString "graph", Value.none)]) (by kernel_rfl) h

inductive tsInitB (TS : Addr) (x : Addr) (Q : Value → HA → Ls → Prop) (H : HA) (L : Ls) : Prop
  | mk (dx : _) (k1 : H x = some (.raw (instObj TS dx))) (k2 : H dx = some (.ns [])) (k3 : ∀ H' nd, (∀ a ho, a ≠ dx → H a = some ho → H' a = some ho) → H nd = none → H' dx = some (.ns [(Str.ofString "_node2info", .ref nd), (Str.ofString "_ready_nodes", .none), (Str.ofString "_npassedout", .int 0 0), (Str.ofString "_nfinished", .int 0 0)]) → H' nd = some (.dct [] 0) → Q .none H' L) : tsInitB TS x Q H L
noncomputable def tsInitW (TS : Addr) : BW := fun vs Q H L => mR (fun x => mN (tsInitB TS x Q H L)) vs
noncomputable def bnd12 : List Value → W (List Value) := fun vs Q H L => ∃ x, vs = [.ref x] ∧ Q [.ref x, .none] H L
theorem tsInit_walk {B : Heap} (hB : Bas B) {n : Nat}  (K : Frag) (X : K.In B) {pn pp ps : Addr} (A : AttrsIn K TS NI pn pp ps) {t : Addr} {nt : Nat} (ht : B.get? t = some (tupOf #[.none] nt)) {f : Addr} {fd : FuncData} (hdf : fd.defaults = .ref t) (hkd : fd.kwdefaults = .none) (Fi : FnIn0 B f fd (MB 12 0)) (hsc : fd.scope = MS 12 0) (hp : fd.params = MP 12 0) (hg : ∀ g ∈ G12_0 , GlobOk B fd.globals fd.builtins g.1 g.2) : FnK B false (n + 1) f (tsInitW TS) := by
  have main := fn_okK (n := n) (fr := false) hB Fi (by rw [hsc]; exact chk12_0) (fun _ => by rw [hsc]; decide +kernel) hg (bnd := bnd12) (bn := [Str.ofString "self", Str.ofString "graph"]) (fun C hC vs s H L Q tk r ⟨x, hv, e⟩ => by
    obtain ⟨v, vs', rfl, h1, h⟩ := map_cons_inv hv; cases map_nil_inv h
    cases er_ref h1
    exact bindD12 hp hdf hkd _ (r.keep _ _ (hC _ _ ht)) (Post.here r e)) (fun C env le room V len0 hF =>
    have lenC : C.locs.length = 4 := len0.trans (by rw [hsc]; kernel_rfl)
    have V : EnvOk C (T12_0 ) env := tab_eq (hsc ▸ tab12_0 ) V
    have S := hB.stat le room
    have hh := room.handled
    (S_cons (S_assign (E_dict0) (A_cons (A_attr (E_name V (.head _)) (setD_ok (X.keeps le) A.A0)) A_nil)) (S_cons (S_assign (E_const _ _ _) (A_cons (A_attr (E_name V (.head _)) (setD_ok (X.keeps le) A.A1)) A_nil)) (S_cons (S_assign (E_const _ _ _) (A_cons (A_attr (E_name V (.head _)) (setD_ok (X.keeps le) A.A2)) A_nil)) (S_cons (S_assign (E_const _ _ _) (A_cons (A_attr (E_name V (.head _)) (setD_ok (X.keeps le) A.A3)) A_nil)) (S_cons (S_if (T_cmp S (E_name V (.tail _ (.head _))) (E_const _ _ _)) S_wall S_nil) S_nil))))))
  refine main.spec ?_
  clear main
  rw [hsc]
  intro vs Q H L h
  refine by_ng fun ng => ?_
  obtain ⟨x, r0, rfl, hq0⟩ := mR_inv h
  obtain ⟨rfl, hq1⟩ := mN_inv hq0
  refine ng ?_
  clear ng
  replace h := hq1
  · skip
    refine by_ng fun ng => ?_
    obtain ⟨dx, hx, hdx, hq⟩ := h
    refine ng ?_
    clear ng
    refine ⟨x, rfl, ?_⟩
    refine' s_start (ini12_0 _ _) ?_
    walk_at "st"
    intro nd hnd
    have hne : ∀ {p : Addr} {ho : HO}, H p = some ho → p ≠ nd := fun e z => by rw [z, hnd] at e; cases e
    have hxd : x ≠ dx := fun z => by rw [z, hdx] at hx; cases hx
    walk_at "st"
    refine' s_setD ((upd_ne _ _ (hne hx)).trans hx) ((upd_ne _ _ (hne hdx)).trans hdx) (by simp) (es' := [(Str.ofString "_node2info", .ref nd)]) rfl ?_
    walk_at "st"
    have g1 : upd H nd (.dct [] 0) x = some (.raw (instObj TS dx)) := (upd_ne _ _ (hne hx)).trans hx
    refine' s_setD ((upd_ne _ _ hxd).trans g1) (upd_same _ _ _) (by simp) (es' := [(Str.ofString "_node2info", .ref nd), (Str.ofString "_ready_nodes", .none)]) rfl ?_
    walk_at "st"
    refine' s_setD ((upd_ne _ _ hxd).trans ((upd_ne _ _ hxd).trans g1)) (upd_same _ _ _) (by simp) (es' := [(Str.ofString "_node2info", .ref nd), (Str.ofString "_ready_nodes", .none), (Str.ofString "_npassedout", .int 0 0)]) rfl ?_
    walk_at "st"
    refine' s_setD ((upd_ne _ _ hxd).trans ((upd_ne _ _ hxd).trans ((upd_ne _ _ hxd).trans g1))) (upd_same _ _ _) (by simp) (es' := [(Str.ofString "_node2info", .ref nd), (Str.ofString "_ready_nodes", .none), (Str.ofString "_npassedout", .int 0 0), (Str.ofString "_nfinished", .int 0 0)]) rfl ?_
    walk_at "st"
    refine' s_if_f rfl ?_
    walk_at "st"
    refine ⟨_, HSub.refl _, hq _ nd (fun a ho ha e => ?_) hnd (upd_same _ _ _) ?_⟩
    · rw [upd_ne _ _ ha, upd_ne _ _ ha, upd_ne _ _ ha, upd_ne _ _ ha, upd_ne _ _ (hne e)]; exact e
    · have hnx : nd ≠ dx := Ne.symm (hne hdx)
      rw [upd_ne _ _ hnx, upd_ne _ _ hnx, upd_ne _ _ hnx, upd_ne _ _ hnx, upd_same]
noncomputable def T12_1 (NI : Addr) : List (Str × NK) := [(Str.ofString "self", NK.slot 0 false), (Str.ofString "node", NK.slot 1 false), (Str.ofString "result", NK.slot 2 false), (Str.ofString "_NodeInfo", .glob (.ref NI))]
noncomputable def G12_1 (NI : Addr) : List (Str × Value) := [(Str.ofString "_NodeInfo", .ref NI)]
theorem tab12_1 (NI : Addr) : fnT (MS 12 1) (G12_1 NI) = T12_1 NI := by kernel_rfl
theorem chk12_1 : scOk (MS 12 1) [Str.ofString "self", Str.ofString "node"] = true := by decide +kernel
theorem bind12_1 {fd : FuncData} (hp : fd.params = MP 12 1) (hd : fd.defaults = .none) (hk : fd.kwdefaults = .none) (vs : List Value) (hl : vs.length = 2) : bindArgs fd ⟨vs, []⟩ = pure ([Str.ofString "self", Str.ofString "node"].zip vs) := by
  refine by_ng fun ng => ?_
  obtain ⟨a0, a1, rfl⟩ := len2 hl
  obtain ⟨n, q, p, bd, sc, g, cl, df, kd, doc, pm, an, cd, ct, bu⟩ := fd
  refine ng ?_
  clear ng
  subst hp; subst hd; subst hk
  kernel_rfl
theorem ini12_1 (a0  a1 : Value) : iniOf (MS 12 1) ([Str.ofString "self", Str.ofString "node"].zip [a0, a1]) = [some a0, some a1, none] := by kernel_rfl

noncomputable def addk (ks : List Nat) (y : Nat) : List Nat := if y ∈ ks then ks else ks ++ [y]
structure Grow (d d' : SD) (y : Nat) : Prop where
  x : d'.x = d.x
  rd : d'.rd = d.rd
  po : d'.po = d.po
  nf : d'.nf = d.nf
  ks : d'.ks = addk d.ks y
  np : d'.np = d.np
  suc : d'.suc = d.suc
theorem putE_new {nm : Nat → Str} {info : Nat → Addr} {ks : List Nat} {y : Nat} {r : Addr} (hl : ∀ z ∈ ks, z < 10) (hn : ∀ y z, y < 10 → z < 10 → nm y = nm z → y = z) (hy : y ∉ ks) (h10 : y < 10) : putE (ks.map fun z => (nm z, Value.ref (info z))) (nm y) (.ref r) = (ks ++ [y]).map fun z => (nm z, Value.ref (setAt info y r z)) := by
  unfold putE
  rw [if_neg]
  · rw [List.map_append]
    congr 1
    · refine List.map_congr_left fun z hz => ?_
      rw [setAt_ne _ _ fun q => hy (by rw [← q]; exact hz)]
    · simp
  · rw [List.any_eq_true]
    intro rr47
    refine by_ng fun ng => ?_
    obtain ⟨p, hp, e⟩ := rr47
    obtain ⟨z, hz, rfl⟩ := List.mem_map.mp hp
    refine ng ?_
    clear ng
    exact hy (hn z y (hl z hz) h10 (by simpa using e) ▸ hz)
noncomputable def gniB (TS NI : Addr) (x : Addr) (s : Str) (t : Tok) (Q : Value → HA → Ls → Prop) (H : HA) (L : Ls) : Prop :=
  ∃ nm Hb d y, Srt TS NI nm Hb H d ∧ d.x = x ∧ s = nm y ∧ t = 0 ∧ y < 10 ∧ ∀ H' d', Srt TS NI nm Hb H' d' → Grow d d' y → Q (.ref (d'.info y)) H' L
noncomputable def gniW (TS NI : Addr) : BW := fun vs Q H L => mR (fun x => mST (fun s t => mN (gniB TS NI x s t Q H L))) vs
theorem gni_walk {B : Heap} (hB : Bas B) {n : Nat} (K : Frag) (X : K.In B) {pn pp ps : Addr} (A : AttrsIn K TS NI pn pp ps) {fN : Addr} (CN : ClsIn K NI fN) (hNI : FnK B false n fN (nodeInitW NI)) {f : Addr} {fd : FuncData} (Fi : FnIn B f fd (MB 12 1)) (hsc : fd.scope = MS 12 1) (hp : fd.params = MP 12 1) (hg : ∀ g ∈ G12_1 NI, GlobOk B fd.globals fd.builtins g.1 g.2) : FnK B false (n + 2 + 1) f (gniW TS NI) := by
  have main := fn_okK (n := n + 2) (fr := false) hB Fi.toFnIn0 (by rw [hsc]; exact chk12_1) (fun _ => by rw [hsc]; decide +kernel) hg (fun C _ vs => bind_args (bind12_1 hp Fi.dfl Fi.kwd) C vs) (fun C env le room V len0 hF =>
    have lenC : C.locs.length = 3 := len0.trans (by rw [hsc]; kernel_rfl)
    have V : EnvOk C (T12_1 NI) env := tab_eq (hsc ▸ tab12_1 NI) V
    have S := hB.stat le room
    have hh := room.handled
    (S_cons (S_if (T_cmp S (E_named V (.tail _ (.tail _ (.head _))) (E_meth (E_attr (E_name V (.head _)) (getD_ok (X.keeps le) A.A0)) F.plainAttrs_dict F.slot_dict_get F.type_dict_get (E_cons (E_name V (.tail _ (.head _))) E_nil) (b_dget S))) (E_const _ _ _)) (S_cons (S_assign (E_callK V (.tail _ (.tail _ (.tail _ (.head _)))) (KeepA.of_K (X.keeps le) CN.hk) (E_cons (E_name V (.tail _ (.head _))) E_nil) (cls_ok true (X.keeps le) CN le hNI room)) (A_cons (A_sub (E_attr (E_name V (.head _)) (getD_ok (X.keeps le) A.A0)) (E_name V (.tail _ (.head _)))) (A_cons (A_name V (.tail _ (.tail _ (.head _)))) A_nil))) S_nil) S_nil) (S_cons (S_ret (E_name V (.tail _ (.tail _ (.head _))))) S_nil)))
  refine main.spec ?_
  clear main
  rw [hsc]
  intro vs Q H L h
  refine by_ng fun ng => ?_
  obtain ⟨x, r0, rfl, hq0⟩ := mR_inv h
  obtain ⟨s, t, r1, rfl, hq1⟩ := mST_inv hq0
  obtain ⟨rfl, hq2⟩ := mN_inv hq1
  refine ng ?_
  clear ng
  replace h := hq2
  · skip
    refine by_ng fun ng => ?_
    obtain ⟨nm, Hb, d, y, hS, rfl, rfl, rfl, hy, hq⟩ := h
    refine ng ?_
    clear ng
    refine ⟨rfl, ?_⟩
    refine' s_start (ini12_1 _ _) ?_
    walk_at "st"
    refine' s_getD hS.hx hS.hdx (a := .ref d.nd) rfl rfl ?_
    obtain ⟨ep, hnd⟩ := hS.hnd
    refine' s_meth_d hnd ?_
    walk_at "st"
    refine' ⟨_, ep, hnd, ?_⟩
    rw [hS.look hy]
    by_cases hin : y ∈ d.ks
    · rw [if_pos hin, Option.getD_some]
      walk_at "st"
      refine' s_if_f rfl ?_
      walk_at "st"
      exact ⟨_, HSub.refl _, hq H d hS ⟨rfl, rfl, rfl, rfl, by unfold addk; rw [if_pos hin], rfl, rfl⟩⟩
    · rw [if_neg hin, Option.getD_none]
      walk_at "st"
      refine' s_if_t rfl ?_
      walk_at "st"
      intro r ix hr hix hrix
      have e1 : upd (upd H ix (.raw emptyDict)) r (.slo NI ix []) r = some (.slo NI ix []) := upd_same _ _ _
      have e2 : upd (upd H ix (.raw emptyDict)) r (.slo NI ix []) ix = some (.raw emptyDict) := (upd_ne _ _ (Ne.symm hrix)).trans (upd_same _ _ _)
      have s0 : ∀ a ho, H a = some ho → a ≠ r ∧ upd (upd H ix (.raw emptyDict)) r (.slo NI ix []) a = some ho := fun a ho e => by
        have n1 : a ≠ r := fun z => by rw [z, hr] at e; cases e
        have n2 : a ≠ ix := fun z => by rw [z, hix] at e; cases e
        exact ⟨n1, by rw [upd_ne _ _ n1, upd_ne _ _ n2]; exact e⟩
      have e3 : (if true = true then HO.raw emptyDict else HO.ns []) = HO.raw emptyDict := rfl
      have e4 : (if true = true then HO.slo NI ix [] else HO.raw (instObj TS ix)) = HO.slo NI ix [] := rfl
      refine' ⟨ix, e1, e2, fun H' l hk hl hx' hl' => ⟨rfl, ?_⟩⟩
      have s1 : HSub H H' := fun a ho e => hk a ho (s0 a ho e).1 (s0 a ho e).2
      have hlH : H l = none := by
        cases q : H l with
        | none => rfl
        | some ho => exact absurd ((s0 l ho q).2.symm.trans hl) (by simp)
      have hix' : H' ix = some (.raw emptyDict) := hk ix _ (Ne.symm hrix) e2
      have hS' := hS.up s1
      walk_at "st"
      refine' s_getD hS'.hx hS'.hdx (a := .ref d.nd) rfl rfl ?_
      walk_at "st"
      refine' s_setd (s1 _ _ hnd) (by rw [List.length_map]; have := hS.len; (first | lia | omega)) fun ep' => ?_
      walk_at "st"
      rw [putE_new hS.lt hS.nmi hin hy]
      have hN := hS'.new hin hy hx' hix' hl' (hS.sub.none hr) (hS.sub.none hlH) (fun z hz e => by obtain ⟨_, _, c⟩ := hS.hi z hz; rw [e, hlH] at c; cases c) (fun a l' e z => by obtain ⟨u, _, _⟩ := hS.hr a l' e; rw [← z, hlH] at u; cases u) (ep := ep')
      have fin : Q (Value.ref (setAt d.info y r y)) _ L := hq _ _ hN ⟨rfl, rfl, rfl, rfl, by unfold addk; rw [if_neg hin], rfl, rfl⟩
      rw [setAt_same] at fin
      exact ⟨_, HSub.refl _, fin⟩

theorem Srt.enlarge {TS NI : Addr} {nm : Nat → Str} {Hb H : HA} {d : SD} (h : Srt TS NI nm Hb H d) {t : Addr} (ht : H t = none) (ho : HO) : Srt TS NI nm (upd Hb t ho) (upd H t ho) d := by
  have k := (HSub.refl H).upd_new (ho := ho) ht
  have h' := h.up k
  have ne : ∀ {p : Addr} {o : HO}, H p = some o → p ≠ t := fun e z => by rw [z, ht] at e; cases e
  exact ⟨h.sub.both t ho, h'.hx, h'.hdx, h'.hnd, h'.hi, fun a l e => let ⟨u, v, w⟩ := h.hr a l e; ⟨k _ _ u, (upd_ne _ _ (ne u)).trans v, w⟩, (upd_ne _ _ (ne h.hdx)).trans h.bx, (upd_ne _ _ (ne h.hnd.choose_spec)).trans h.bn,
    fun y hy => let ⟨a, b, c⟩ := h.hi y hy; ⟨(upd_ne _ _ (ne a)).trans (h.bi y hy).1, (upd_ne _ _ (ne c)).trans (h.bi y hy).2⟩, h.inj, h.lt, h.nod, h.nmi, h.df⟩
theorem Srt.shrink {TS NI : Addr} {nm : Nat → Str} {Hb Hb2 H : HA} {d : SD} (h : Srt TS NI nm Hb2 H d) (k : HSub Hb Hb2) : Srt TS NI nm Hb H d :=
  ⟨k.trans h.sub, h.hx, h.hdx, h.hnd, h.hi, fun a l e => let ⟨u, v, w⟩ := h.hr a l e; ⟨u, k.none v, w⟩, k.none h.bx, k.none h.bn, fun y hy => ⟨k.none (h.bi y hy).1, k.none (h.bi y hy).2⟩, h.inj, h.lt, h.nod, h.nmi, h.df⟩
theorem mem_addk (ks : List Nat) (y : Nat) : y ∈ addk ks y := by unfold addk; split <;> simp [*]
theorem addk_mem {ks : List Nat} {y z : Nat} : z ∈ addk ks y ↔ z ∈ ks ∨ z = y := by
  unfold addk
  split
  · rename_i h
    exact ⟨.inl, fun q => q.elim id fun q => q ▸ h⟩
  · simp
structure AddR (d d' : SD) (a b : Nat) : Prop where
  x : d'.x = d.x
  rd : d'.rd = d.rd
  po : d'.po = d.po
  nf : d'.nf = d.nf
  ks : d'.ks = addk (addk d.ks a) b
  np : d'.np = setAt d.np a (d.np a + 1)
  suc : d'.suc = setAt d.suc b (d.suc b ++ [a])
noncomputable def addB (TS NI : Addr) (x : Addr) (s1 : Str) (t1 : Tok) (s2 : Str) (t2 : Tok) (Q : Value → HA → Ls → Prop) (H : HA) (L : Ls) : Prop :=
  ∃ nm Hb d a b, Srt TS NI nm Hb H d ∧ d.x = x ∧ d.rd = none ∧ s1 = nm a ∧ s2 = nm b ∧ t1 = 0 ∧ t2 = 0 ∧ a < 10 ∧ b < 10 ∧ (d.suc b).length ≤ 100 ∧ ∀ H' d', Srt TS NI nm Hb H' d' → AddR d d' a b → Q .none H' L
noncomputable def addW (TS NI : Addr) : BW := fun vs Q H L => mR (fun x => mST (fun s1 t1 => mST (fun s2 t2 => mN (addB TS NI x s1 t1 s2 t2 Q H L)))) vs
noncomputable def T12_2  : List (Str × NK) := [(Str.ofString "self", NK.slot 0 false), (Str.ofString "node", NK.slot 1 false), (Str.ofString "predecessors", NK.slot 2 false), (Str.ofString "nodeinfo", NK.slot 3 false), (Str.ofString "pred", NK.slot 4 false), (Str.ofString "pred_info", NK.slot 5 false), (Str.ofString "len", .glob (.builtin "len"))]
noncomputable def G12_2  : List (Str × Value) := [(Str.ofString "len", .builtin "len")]
theorem tab12_2  : fnT (MS 12 2) (G12_2 ) = T12_2  := by kernel_rfl
theorem chk12_2 : scOk (MS 12 2) [Str.ofString "self", Str.ofString "node", Str.ofString "predecessors"] = true := by decide +kernel
theorem bind12_2 {fd : FuncData} (hp : fd.params = MP 12 2) (hd : fd.defaults = .none) (hk : fd.kwdefaults = .none) (vs : List Value) (hl : vs.length = 3) : bindArgs fd ⟨vs, []⟩ = (do let t ← newTuple (vs.drop 2); pure ([Str.ofString "self", Str.ofString "node", Str.ofString "predecessors"].zip (vs.take 2 ++ [t]))) := by
  refine by_ng fun ng => ?_
  obtain ⟨n, q, p, bd, sc, g, cl, df, kd, doc, pm, an, cd, ct, bu⟩ := fd
  refine ng ?_
  clear ng
  subst hp; subst hd; subst hk
  refine by_ng fun ng => ?_
  obtain ⟨a0, a1, a2, rfl⟩ := len3 hl
  refine ng ?_
  clear ng
  kernel_rfl
theorem ini12_2 (a0  a1  a2 : Value) : iniOf (MS 12 2) ([Str.ofString "self", Str.ofString "node", Str.ofString "predecessors"].zip [a0, a1, a2]) = [some a0, some a1, some a2, none, none, none] := by kernel_rfl
theorem add_walk {B : Heap} (hB : Bas B) {n : Nat}  (K : Frag) (X : K.In B) {pn pp ps : Addr} (A : AttrsIn K TS NI pn pp ps) {fg : Addr} (Mg : MethIn K TS (Str.ofString "_get_nodeinfo") fg) (hgn : Fn B n fg (gniW TS NI)) {f : Addr} {fd : FuncData} (Fi : FnIn B f fd (MB 12 2)) (hsc : fd.scope = MS 12 2) (hp : fd.params = MP 12 2) (hg : ∀ g ∈ G12_2 , GlobOk B fd.globals fd.builtins g.1 g.2) : FnK B false (n + 1) f (addW TS NI) := by
  have main := fn_okK (n := n) (fr := false) hB Fi.toFnIn0 (by rw [hsc]; exact chk12_2) (fun _ => by rw [hsc]; decide +kernel) hg (fun C _ vs => bind_var (ok := fun k => k = 3) (bind12_2 hp Fi.dfl Fi.kwd) C vs) (fun C env le room V len0 hF =>
    have lenC : C.locs.length = 6 := len0.trans (by rw [hsc]; kernel_rfl)
    have V : EnvOk C (T12_2 ) env := tab_eq (hsc ▸ tab12_2 ) V
    have S := hB.stat le room
    have hh := room.handled
    (S_cons (S_if (T_cmp S (E_attr (E_name V (.head _)) (getD_ok (X.keeps le) A.A1)) (E_const _ _ _)) S_wall S_nil) (S_cons (S_assign (E_imeth (X.keeps le) Mg (hgn.callee le) (E_name V (.head _)) (E_cons (E_name V (.tail _ (.head _))) E_nil) (hgn.ok _ le room)) (A_cons (A_name V (.tail _ (.tail _ (.tail _ (.head _))))) A_nil)) (S_cons (S_aug_attr (E_name V (.tail _ (.tail _ (.tail _ (.head _))))) (E_call V (.tail _ (.tail _ (.tail _ (.tail _ (.tail _ (.tail _ (.head _))))))) (.inl ⟨_, rfl⟩) (E_cons (E_name V (.tail _ (.tail _ (.head _)))) E_nil) b_len) (getS_ok (X.keeps le) A.A5) (setS_ok (X.keeps le) A.A5)) (S_cons (S_for hh S (E_name V (.tail _ (.tail _ (.head _)))) (A_name V (.tail _ (.tail _ (.tail _ (.tail _ (.head _)))))) (S_cons (S_assign (E_imeth (X.keeps le) Mg (hgn.callee le) (E_name V (.head _)) (E_cons (E_name V (.tail _ (.tail _ (.tail _ (.tail _ (.head _)))))) E_nil) (hgn.ok _ le room)) (A_cons (A_name V (.tail _ (.tail _ (.tail _ (.tail _ (.tail _ (.head _))))))) A_nil)) (S_cons (S_expr V.fn (E_meth (E_attr (E_name V (.tail _ (.tail _ (.tail _ (.tail _ (.tail _ (.head _))))))) (getS_ok (X.keeps le) A.A6)) F.plainAttrs_list F.slot_list_append F.type_list_append (E_cons (E_name V (.tail _ (.head _))) E_nil) b_append)) S_nil)) S_nil) S_nil)))))
  refine main.spec ?_
  clear main
  rw [hsc]
  intro vs Q H L h
  refine by_ng fun ng => ?_
  obtain ⟨x, r0, rfl, hq0⟩ := mR_inv h
  obtain ⟨s1, t1, r1, rfl, hq1⟩ := mST_inv hq0
  obtain ⟨s2, t2, r2, rfl, hq2⟩ := mST_inv hq1
  obtain ⟨rfl, hq3⟩ := mN_inv hq2
  refine ng ?_
  clear ng
  replace h := hq3
  · skip
    refine by_ng fun ng => ?_
    obtain ⟨nm, Hb, d, a, b, hS, rfl, hrd, rfl, rfl, rfl, rfl, ha, hb, hsb, hq⟩ := h
    refine ng ?_
    clear ng
    refine ⟨rfl, by show 1 ≤ sizeLine; decide, fun t ht => ?_⟩
    refine' s_start (ini12_2 _ _ _) ?_
    have hS1 := hS.enlarge ht (.tup [.str (nm b) 0])
    have kb : HSub Hb (upd Hb t (.tup [.str (nm b) 0])) := (HSub.refl Hb).upd (hS.sub.none ht)
    have htb : upd Hb t (.tup [.str (nm b) 0]) t = some (.tup [.str (nm b) 0]) := upd_same _ _ _
    have hdrop : List.drop 2 [Value.ref d.x, Value.str (nm a) 0, Value.str (nm b) 0] = [.str (nm b) 0] := rfl
    rw [hdrop]
    generalize upd Hb t (.tup [.str (nm b) 0]) = Hb2 at hS1 kb htb
    generalize upd H t (.tup [.str (nm b) 0]) = H1 at hS1
    walk_at "st"
    refine' s_getD hS1.hx hS1.hdx (a := .none) (by unfold tsEs; rw [hrd]; rfl) rfl ?_
    walk_at "st"
    refine' s_if_f rfl ?_
    walk_at "st"
    refine' s_imeth hS1.hx hS1.hdx rfl ?_
    walk_at "st"
    refine' ⟨nm, Hb2, d, a, hS1, rfl, rfl, rfl, ha, fun H2 d2 hS2 G2 => ?_⟩
    have ha2 : a ∈ d2.ks := by rw [G2.ks]; exact mem_addk _ _
    walk_at "st"
    refine' s_getS (hS2.hi a ha2).1 (hS2.hi a ha2).2.1 (a := .int (d2.np a) 0) rfl rfl ?_
    walk_at "st"
    refine' s_len_t (hS2.sub _ _ htb) (by simp) ?_
    walk_at "st"
    refine' s_setS (hS2.hi a ha2).1 (hS2.hi a ha2).2.1 (sl' := [some (.str (nm a) 0), some (.int (d2.np a + 1) 0), some (.ref (d2.sl a))]) rfl ?_
    have hS3 := hS2.setNp ha2 (d2.np a + 1)
    generalize upd H2 (d2.info a) _ = H3 at hS3
    walk_at "st"
    refine' s_for (k := .tup t) (xs := [.str (nm b) 0]) (fun i H' L' => (i = 0 ∧ H' = H3 ∧ L' = [some (.ref d.x), some (.str (nm a) 0), some (.ref t), some (.ref (d2.info a)), none, none]) ∨ (i = 1 ∧ H' t = some (.tup [.str (nm b) 0]) ∧ ∃ d', Srt TS NI nm Hb2 H' d' ∧ AddR d d' a b)) (.tup (hS3.sub _ _ htb)) (.inl ⟨rfl, rfl, rfl⟩) ?_
    rintro i H' L' (⟨rfl, rfl, rfl⟩ | ⟨rfl, ht', d', hS', R'⟩)
    · refine ⟨.tup (hS3.sub _ _ htb), (fun e => nomatch e), fun z e QN hN hC => ?_⟩
      cases e
      walk_at "st"
      refine' s_imeth (by rw [← G2.x]; exact hS3.hx) hS3.hdx rfl ?_
      walk_at "st"
      refine' ⟨nm, Hb2, _, b, hS3, G2.x, rfl, rfl, hb, fun H4 d4 hS4 G4 => ?_⟩
      have hb4 : b ∈ d4.ks := by rw [G4.ks]; exact mem_addk _ _
      walk_at "st"
      refine' s_getS (hS4.hi b hb4).1 (hS4.hi b hb4).2.1 (a := .ref (d4.sl b)) rfl rfl ?_
      refine' s_meth_l (hS4.hi b hb4).2.2 ?_
      walk_at "st"
      have hsl : (d4.suc b).length ≤ 100 := by
        rw [G4.suc]
        show (d2.suc b).length ≤ 100
        rw [G2.suc]; exact hsb
      refine' s_append (hS4.hi b hb4).2.2 (by rw [vS_len, List.length_map]; (first | lia | omega)) ?_
      have hvs : vS ((d4.suc b).map nm) ++ [Value.str (nm a) 0] = vS ((d4.suc b ++ [a]).map nm) := by unfold vS; simp
      rw [hvs]
      have hS5 := hS4.setSuc hb4 (d4.suc b ++ [a])
      walk_at "st"
      refine hN _ _ (.inr ⟨rfl, hS5.sub _ _ htb, _, hS5, ⟨G4.x.trans G2.x, G4.rd.trans G2.rd, G4.po.trans G2.po, G4.nf.trans G2.nf, ?_, ?_, ?_⟩⟩)
      · show d4.ks = _
        rw [G4.ks]
        show addk d2.ks b = _
        rw [G2.ks]
      · show d4.np = _
        rw [G4.np]
        show setAt d2.np a _ = _
        rw [G2.np]
      · show setAt d4.suc b _ = _
        rw [G4.suc]
        show setAt d2.suc b (d2.suc b ++ [a]) = _
        rw [G2.suc]
    · refine ⟨.tup ht', fun e => ?_, fun z e => nomatch e⟩
      walk_at "st"
      exact ⟨H', HSub.refl _, hq H' d' (hS'.shrink kb) R'⟩


noncomputable def T12_5  : List (Str × NK) := [(Str.ofString "self", NK.slot 0 false), (Str.ofString "bool", .glob (.type "bool"))]
noncomputable def G12_5  : List (Str × Value) := [(Str.ofString "bool", .type "bool")]
theorem tab12_5  : fnT (MS 12 5) (G12_5 ) = T12_5  := by kernel_rfl
theorem chk12_5 : scOk (MS 12 5) [Str.ofString "self"] = true := by decide +kernel
theorem bind12_5 {fd : FuncData} (hp : fd.params = MP 12 5) (hd : fd.defaults = .none) (hk : fd.kwdefaults = .none) (vs : List Value) (hl : vs.length = 1) : bindArgs fd ⟨vs, []⟩ = pure ([Str.ofString "self"].zip vs) := by
  refine by_ng fun ng => ?_
  obtain ⟨a0, rfl⟩ := len1 hl
  obtain ⟨n, q, p, bd, sc, g, cl, df, kd, doc, pm, an, cd, ct, bu⟩ := fd
  refine ng ?_
  clear ng
  subst hp; subst hd; subst hk
  kernel_rfl
theorem ini12_5 (a0 : Value) : iniOf (MS 12 5) ([Str.ofString "self"].zip [a0]) = [some a0] := by kernel_rfl

inductive activeB (TS NI : Addr) (x : Addr) (Q : Value → HA → Ls → Prop) (H : HA) (L : Ls) : Prop
  | mk (nm : _) (Hb : _) (d : _) (a : _) (l : _) (k1 : Srt TS NI nm Hb H d) (k2 : d.x = x) (k3 : d.rd = some (a, l)) (k4 : l.length ≤ 100) (k5 : Q (.bool (decide (d.nf < d.po) || !l.isEmpty)) H L) : activeB TS NI x Q H L
noncomputable def activeW (TS NI : Addr) : BW := fun vs Q H L => mR (fun x => mN (activeB TS NI x Q H L)) vs
theorem s_boolL {Q : Value → HA → Ls → Prop} {H : HA} {L : Ls} {a : Addr} {xs : List Value} (e : H a = some (.lst xs)) (f : xs.length ≤ 1048575) (h : Q (.bool (!xs.isEmpty)) H L) : boolW [.ref a] Q H L := ⟨xs, e, f, h⟩
theorem s_tuple {Q : Value → HA → Ls → Prop} {H : HA} {L : Ls} {a : Addr} {xs : List Value} (e : H a = some (.lst xs)) (f : xs.length ≤ 1048575) (h : ∀ c, H c = none → Q (.ref c) (upd H c (.tup xs)) L) : tupleW [.ref a] Q H L := ⟨xs, e, f, h⟩
theorem s_clear {Q : Value → HA → Ls → Prop} {H : HA} {L : Ls} {a : Addr} {xs : List Value} (e : H a = some (.lst xs)) (f : xs.length ≤ 1048575) (h : Q .none (upd H a (.lst [])) L) : clearW [.ref a] Q H L := ⟨xs, e, f, h⟩
theorem Srt.rdg {TS NI : Addr} {nm : Nat → Str} {Hb H : HA} {d : SD} (h : Srt TS NI nm Hb H d) {a : Addr} {l : List Nat} (e : d.rd = some (a, l)) : (tsEs d).lookup (Str.ofString "_ready_nodes") = some (.ref a) := by unfold tsEs; rw [e]; rfl
theorem active_walk {B : Heap} (hB : Bas B) {n : Nat}  (K : Frag) (X : K.In B) {pn pp ps : Addr} (A : AttrsIn K TS NI pn pp ps) {f : Addr} {fd : FuncData} (Fi : FnIn B f fd (MB 12 5)) (hsc : fd.scope = MS 12 5) (hp : fd.params = MP 12 5) (hg : ∀ g ∈ G12_5 , GlobOk B fd.globals fd.builtins g.1 g.2) : FnK B false (n + 1) f (activeW TS NI) := by
  have main := fn_okK (n := n) (fr := false) hB Fi.toFnIn0 (by rw [hsc]; exact chk12_5) (fun _ => by rw [hsc]; decide +kernel) hg (fun C _ vs => bind_args (bind12_5 hp Fi.dfl Fi.kwd) C vs) (fun C env le room V len0 hF =>
    have lenC : C.locs.length = 1 := len0.trans (by rw [hsc]; kernel_rfl)
    have V : EnvOk C (T12_5 ) env := tab_eq (hsc ▸ tab12_5 ) V
    have S := hB.stat le room
    have hh := room.handled
    (S_cons (S_if (T_cmp S (E_attr (E_name V (.head _)) (getD_ok (X.keeps le) A.A1)) (E_const _ _ _)) S_wall S_nil) (S_cons (S_ret (E_or (E_cmp S (E_attr (E_name V (.head _)) (getD_ok (X.keeps le) A.A3)) (E_attr (E_name V (.head _)) (getD_ok (X.keeps le) A.A2))) (E_call V (.tail _ (.head _)) (.inr (.inl ⟨_, rfl⟩)) (E_cons (E_attr (E_name V (.head _)) (getD_ok (X.keeps le) A.A1)) E_nil) b_bool))) S_nil)))
  refine main.spec ?_
  clear main
  rw [hsc]
  intro vs Q H L h
  refine by_ng fun ng => ?_
  obtain ⟨x, r0, rfl, hq0⟩ := mR_inv h
  obtain ⟨rfl, hq1⟩ := mN_inv hq0
  refine ng ?_
  clear ng
  replace h := hq1
  · skip
    refine by_ng fun ng => ?_
    obtain ⟨nm, Hb, d, a, l, hS, rfl, hrd, hl, hq⟩ := h
    obtain ⟨hra, _, _⟩ := hS.hr a l hrd
    refine ng ?_
    clear ng
    refine ⟨rfl, ?_⟩
    refine' s_start (ini12_5 _) ?_
    walk_at "st"
    refine' s_getD hS.hx hS.hdx (hS.rdg hrd) rfl ?_
    walk_at "st"
    refine' s_if_f rfl ?_
    walk_at "st"
    refine' s_getD hS.hx hS.hdx (a := .int d.nf 0) rfl rfl ?_
    walk_at "st"
    refine' s_getD hS.hx hS.hdx (a := .int d.po 0) rfl rfl ?_
    walk_at "st"
    cases hb : decide (d.nf < d.po) with
    | true =>
      refine' s_if_t rfl ?_
      walk_at "st"
      rw [hb, Bool.true_or] at hq
      exact ⟨_, HSub.refl _, hq⟩
    | false =>
      refine' s_if_f rfl ?_
      walk_at "st"
      refine' s_getD hS.hx hS.hdx (hS.rdg hrd) rfl ?_
      refine' s_boolL hra (by rw [vS_len, List.length_map]; (first | lia | omega)) ?_
      walk_at "st"
      rw [hb, Bool.false_or] at hq
      have e : (vS (l.map nm)).isEmpty = l.isEmpty := by cases l <;> rfl
      refine ⟨_, HSub.refl _, ?_⟩
      rw [e]; exact hq
noncomputable def T12_4 (to : Tok) : List (Str × NK) := [(Str.ofString "self", NK.slot 0 false), (Str.ofString "result", NK.slot 1 false), (Str.ofString "n2i", NK.slot 2 false), (Str.ofString "node", NK.slot 3 false), (Str.ofString "tuple", .glob (.type "tuple")), (Str.ofString "_NODE_OUT", .glob (.int (-1) to)), (Str.ofString "len", .glob (.builtin "len"))]
noncomputable def G12_4 (to : Tok) : List (Str × Value) := [(Str.ofString "tuple", .type "tuple"), (Str.ofString "_NODE_OUT", .int (-1) to), (Str.ofString "len", .builtin "len")]
theorem tab12_4 (to : Tok) : fnT (MS 12 4) (G12_4 to) = T12_4 to := by kernel_rfl
theorem chk12_4 : scOk (MS 12 4) [Str.ofString "self"] = true := by decide +kernel
theorem bind12_4 {fd : FuncData} (hp : fd.params = MP 12 4) (hd : fd.defaults = .none) (hk : fd.kwdefaults = .none) (vs : List Value) (hl : vs.length = 1) : bindArgs fd ⟨vs, []⟩ = pure ([Str.ofString "self"].zip vs) := by
  refine by_ng fun ng => ?_
  obtain ⟨a0, rfl⟩ := len1 hl
  obtain ⟨n, q, p, bd, sc, g, cl, df, kd, doc, pm, an, cd, ct, bu⟩ := fd
  refine ng ?_
  clear ng
  subst hp; subst hd; subst hk
  kernel_rfl
theorem ini12_4 (a0 : Value) : iniOf (MS 12 4) ([Str.ofString "self"].zip [a0]) = [some a0, none, none, none] := by kernel_rfl

noncomputable def outNp (np : Nat → Int) (l : List Nat) : Nat → Int := fun z => if z ∈ l then -1 else np z
noncomputable def readyD (d : SD) (a : Addr) (l : List Nat) : SD := { d with np := outNp d.np l, rd := some (a, []), po := d.po + l.length }
inductive readyB (TS NI : Addr) (x : Addr) (Q : Value → HA → Ls → Prop) (H : HA) (L : Ls) : Prop
  | mk (nm : _) (Hb : _) (d : _) (a : _) (l : _) (k1 : Srt TS NI nm Hb H d) (k2 : d.x = x) (k3 : d.rd = some (a, l)) (k4 : l.length ≤ 100) (k5 : (∀ y ∈ l, y ∈ d.ks)) (k6 : ∀ H' t, H t = none → Srt TS NI nm (upd Hb t (.tup (vS (l.map nm)))) H' (readyD d a l) → Q (.ref t) H' L) : readyB TS NI x Q H L
noncomputable def readyW (TS NI : Addr) : BW := fun vs Q H L => mR (fun x => mN (readyB TS NI x Q H L)) vs
theorem s_itemNd {TS NI : Addr} {nm : Nat → Str} {Hb H : HA} {d : SD} {Q : Value → HA → Ls → Prop} {L : Ls} (h : Srt TS NI nm Hb H d) {y : Nat} (hy : y ∈ d.ks) (hq : Q (.ref (d.info y)) H L) : itemW (.ref d.nd) (.str (nm y) 0) Q H L := by
  obtain ⟨ep, e⟩ := h.hnd
  exact s_dct e (by rw [h.look (h.lt y hy), if_pos hy]) hq
theorem vS_at {l : List Nat} {nm : Nat → Str} {i : Nat} {x : Value} (e : (vS (l.map nm))[i]? = some x) : ∃ y, l[i]? = some y ∧ x = .str (nm y) 0 := by
  unfold vS at e
  rw [List.map_map, List.getElem?_map] at e
  obtain ⟨y, h1, h2⟩ := Option.map_eq_some_iff.mp e
  exact ⟨y, h1, h2.symm⟩
theorem ready_walk {B : Heap} (hB : Bas B) {n : Nat} (to : Tok) (K : Frag) (X : K.In B) {pn pp ps : Addr} (A : AttrsIn K TS NI pn pp ps) {f : Addr} {fd : FuncData} (Fi : FnIn B f fd (MB 12 4)) (hsc : fd.scope = MS 12 4) (hp : fd.params = MP 12 4) (hg : ∀ g ∈ G12_4 to, GlobOk B fd.globals fd.builtins g.1 g.2) : FnK B false (n + 1) f (readyW TS NI) := by
  have main := fn_okK (n := n) (fr := false) hB Fi.toFnIn0 (by rw [hsc]; exact chk12_4) (fun _ => by rw [hsc]; decide +kernel) hg (fun C _ vs => bind_args (bind12_4 hp Fi.dfl Fi.kwd) C vs) (fun C env le room V len0 hF =>
    have lenC : C.locs.length = 4 := len0.trans (by rw [hsc]; kernel_rfl)
    have V : EnvOk C (T12_4 to) env := tab_eq (hsc ▸ tab12_4 to) V
    have S := hB.stat le room
    have hh := room.handled
    (S_cons (S_if (T_cmp S (E_attr (E_name V (.head _)) (getD_ok (X.keeps le) A.A1)) (E_const _ _ _)) S_wall S_nil) (S_cons (S_assign (E_call V (.tail _ (.tail _ (.tail _ (.tail _ (.head _))))) (.inr (.inl ⟨_, rfl⟩)) (E_cons (E_attr (E_name V (.head _)) (getD_ok (X.keeps le) A.A1)) E_nil) b_tuple) (A_cons (A_name V (.tail _ (.head _))) A_nil)) (S_cons (S_assign (E_attr (E_name V (.head _)) (getD_ok (X.keeps le) A.A0)) (A_cons (A_name V (.tail _ (.tail _ (.head _)))) A_nil)) (S_cons (S_for hh S (E_name V (.tail _ (.head _))) (A_name V (.tail _ (.tail _ (.tail _ (.head _))))) (S_cons (S_assign (E_name V (.tail _ (.tail _ (.tail _ (.tail _ (.tail _ (.head _))))))) (A_cons (A_attr (E_sub (E_name V (.tail _ (.tail _ (.head _)))) (E_name V (.tail _ (.tail _ (.tail _ (.head _)))))) (setS_ok (X.keeps le) A.A5)) A_nil)) S_nil) S_nil) (S_cons (S_expr V.fn (E_meth (E_attr (E_name V (.head _)) (getD_ok (X.keeps le) A.A1)) F.plainAttrs_list F.slot_list_clear F.type_list_clear E_nil b_clear)) (S_cons (S_aug_attr (E_name V (.head _)) (E_call V (.tail _ (.tail _ (.tail _ (.tail _ (.tail _ (.tail _ (.head _))))))) (.inl ⟨_, rfl⟩) (E_cons (E_name V (.tail _ (.head _))) E_nil) b_len) (getD_ok (X.keeps le) A.A2) (setD_ok (X.keeps le) A.A2)) (S_cons (S_ret (E_name V (.tail _ (.head _)))) S_nil))))))))
  refine main.spec ?_
  clear main
  rw [hsc]
  intro vs Q H L h
  refine by_ng fun ng => ?_
  obtain ⟨x, r0, rfl, hq0⟩ := mR_inv h
  obtain ⟨rfl, hq1⟩ := mN_inv hq0
  refine ng ?_
  clear ng
  replace h := hq1
  · skip
    refine by_ng fun ng => ?_
    obtain ⟨nm, Hb, d, a, l, hS, rfl, hrd, hl, hk, hq⟩ := h
    obtain ⟨hra, hba, hsa⟩ := hS.hr a l hrd
    refine ng ?_
    clear ng
    refine ⟨rfl, ?_⟩
    refine' s_start (ini12_4 _) ?_
    walk_at "st"
    refine' s_getD hS.hx hS.hdx (hS.rdg hrd) rfl ?_
    walk_at "st"
    refine' s_if_f rfl ?_
    walk_at "st"
    refine' s_getD hS.hx hS.hdx (hS.rdg hrd) rfl ?_
    refine' s_tuple hra (by rw [vS_len, List.length_map]; (first | lia | omega)) fun t ht => ?_
    have hS1 := hS.enlarge ht (.tup (vS (l.map nm)))
    have htb : upd Hb t (.tup (vS (l.map nm))) t = some (.tup (vS (l.map nm))) := upd_same _ _ _
    have hq1 := fun H' => hq H' t ht
    clear hq
    generalize upd Hb t (.tup (vS (l.map nm))) = Hb2 at hS1 htb hq1
    generalize upd H t (.tup (vS (l.map nm))) = H1 at hS1
    walk_at "st"
    refine' s_getD hS1.hx hS1.hdx (a := .ref d.nd) rfl rfl ?_
    walk_at "st"
    refine' s_for (k := .tup t) (xs := vS (l.map nm)) (fun i H' L' => i ≤ l.length ∧ Srt TS NI nm Hb2 H' { d with np := outNp d.np (l.take i) } ∧ ∃ c, L' = [some (.ref d.x), some (.ref t), some (.ref d.nd), c]) (.tup (hS1.sub _ _ htb)) ?_ ?_
    · refine ⟨Nat.zero_le _, ?_, none, rfl⟩
      have e0 : { d with np := outNp d.np (l.take 0) } = d := by
        have : outNp d.np (l.take 0) = d.np := by funext z; simp [outNp]
        rw [this]
      rw [e0]; exact hS1
    intro i H' L' rr48
    refine by_ng fun ng => ?_
    obtain ⟨hi, hS2, c, rfl⟩ := rr48
    refine ng ?_
    clear ng
    refine ⟨.tup (hS2.sub _ _ htb), fun e => ?_, fun z e QN hN hC => ?_⟩
    · have hil : l.length ≤ i := by
        rw [List.getElem?_eq_none_iff] at e; simpa using e
      rw [List.take_of_length_le hil] at hS2
      obtain ⟨hra2, _, _⟩ := hS2.hr a l hrd
      walk_at "st"
      refine' s_getD hS2.hx hS2.hdx (hS2.rdg hrd) rfl ?_
      refine' s_meth_l hra2 ?_
      refine' s_clear hra2 (by rw [vS_len, List.length_map]; (first | lia | omega)) ?_
      walk_at "st"
      have hS3 := hS2.setRd (a := a) (l := l) hrd []
      have hvn : vS (([] : List Nat).map nm) = [] := rfl
      rw [hvn] at hS3
      generalize upd H' a (.lst []) = H3 at hS3
      refine' s_getD hS3.hx hS3.hdx (a := .int d.po 0) rfl rfl ?_
      walk_at "st"
      refine' s_len_t (hS3.sub _ _ htb) (by rw [vS_len, List.length_map]; (first | lia | omega)) ?_
      walk_at "st"
      refine' s_setD hS3.hx hS3.hdx (by show (4 : Nat) ≤ 100; decide) (es' := tsEs (readyD d a l)) (by rw [vS_len, List.length_map]; rfl) ?_
      have hS4 := hS3.setDx (readyD d a l) rfl (fun p q e => hS3.hr p q e)
      walk_at "st"
      exact ⟨_, HSub.refl _, hq1 _ hS4⟩
    · obtain ⟨y, hy, rfl⟩ := vS_at e
      have hyk := hk y (List.mem_of_getElem? hy)
      have hilt : i < l.length := (List.getElem?_eq_some_iff.mp hy).1
      walk_at "st"
      refine' s_itemNd (y := y) hS2 hyk ?_
      refine' s_setS (hS2.hi y hyk).1 (hS2.hi y hyk).2.1 (sl' := [some (.str (nm y) 0), some (.int (-1) 0), some (.ref (d.sl y))]) rfl ?_
      have hS3 := hS2.setNp hyk (-1)
      walk_at "st"
      refine hN _ _ ⟨hilt, ?_, _, rfl⟩
      have e2 : setAt (outNp d.np (l.take i)) y (-1) = outNp d.np (l.take (i + 1)) := by
        funext z
        rw [take_snoc hy]
        unfold setAt outNp
        by_cases q : z = y
        · simp [q]
        · simp [q]
      rw [← e2]
      exact hS3


noncomputable def T12_7 (to td : Tok) : List (Str × NK) := [(Str.ofString "self", NK.slot 0 false), (Str.ofString "nodes", NK.slot 1 false), (Str.ofString "n2i", NK.slot 2 false), (Str.ofString "node", NK.slot 3 false), (Str.ofString "nodeinfo", NK.slot 4 false), (Str.ofString "stat", NK.slot 5 false), (Str.ofString "successor", NK.slot 6 false), (Str.ofString "successor_info", NK.slot 7 false), (Str.ofString "_NODE_OUT", .glob (.int (-1) to)), (Str.ofString "_NODE_DONE", .glob (.int (-2) td))]
noncomputable def G12_7 (to td : Tok) : List (Str × Value) := [(Str.ofString "_NODE_OUT", .int (-1) to), (Str.ofString "_NODE_DONE", .int (-2) td)]
theorem tab12_7 (to td : Tok) : fnT (MS 12 7) (G12_7 to td) = T12_7 to td := by kernel_rfl
theorem chk12_7 : scOk (MS 12 7) [Str.ofString "self", Str.ofString "nodes"] = true := by decide +kernel
theorem bind12_7 {fd : FuncData} (hp : fd.params = MP 12 7) (hd : fd.defaults = .none) (hk : fd.kwdefaults = .none) (vs : List Value) (hl : 1 ≤ vs.length ∧ vs.length ≤ 11) : bindArgs fd ⟨vs, []⟩ = (do let t ← newTuple (vs.drop 1); pure ([Str.ofString "self", Str.ofString "nodes"].zip (vs.take 1 ++ [t]))) := by
  refine by_ng fun ng => ?_
  obtain ⟨n, q, p, bd, sc, g, cl, df, kd, doc, pm, an, cd, ct, bu⟩ := fd
  refine ng ?_
  clear ng
  subst hp; subst hd; subst hk
  exact match vs, hl with
    | [a0], _ => by kernel_rfl
    | [a0, a1], _ => by kernel_rfl
    | [a0, a1, a2], _ => by kernel_rfl
    | [a0, a1, a2, a3], _ => by kernel_rfl
    | [a0, a1, a2, a3, a4], _ => by kernel_rfl
    | [a0, a1, a2, a3, a4, a5], _ => by kernel_rfl
    | [a0, a1, a2, a3, a4, a5, a6], _ => by kernel_rfl
    | [a0, a1, a2, a3, a4, a5, a6, a7], _ => by kernel_rfl
    | [a0, a1, a2, a3, a4, a5, a6, a7, a8], _ => by kernel_rfl
    | [a0, a1, a2, a3, a4, a5, a6, a7, a8, a9], _ => by kernel_rfl
    | [a0, a1, a2, a3, a4, a5, a6, a7, a8, a9, a10], _ => by kernel_rfl
    | [], h => absurd h.1 (by decide)
    | _ :: _ :: _ :: _ :: _ :: _ :: _ :: _ :: _ :: _ :: _ :: _ :: _, h => absurd h.2 (by simp)
theorem ini12_7 (a0  a1 : Value) : iniOf (MS 12 7) ([Str.ofString "self", Str.ofString "nodes"].zip [a0, a1]) = [some a0, some a1, none, none, none, none, none, none] := by kernel_rfl

noncomputable def sstep (st : (Nat → Int) × List Nat) (s : Nat) : (Nat → Int) × List Nat := (setAt st.1 s (st.1 s - 1), if st.1 s - 1 = 0 then st.2 ++ [s] else st.2)
noncomputable def dstep (suc : Nat → List Nat) (st : (Nat → Int) × List Nat) (y : Nat) : (Nat → Int) × List Nat := (suc y).foldl sstep (setAt st.1 y (-2), st.2)
theorem sstep_len (ss : List Nat) : ∀ st : (Nat → Int) × List Nat, (ss.foldl sstep st).2.length ≤ st.2.length + ss.length := by
  induction ss with
  | nil => intro st; exact Nat.le_refl _
  | cons s r ih =>
    intro st
    rw [List.foldl_cons, List.length_cons]
    have := ih (sstep st s)
    have h2 : (sstep st s).2.length ≤ st.2.length + 1 := by unfold sstep; dsimp only; split <;> simp
    (first | lia | omega)
theorem dstep_len {suc : Nat → List Nat} (hs : ∀ y, (suc y).length ≤ 10) (ys : List Nat) : ∀ st : (Nat → Int) × List Nat, (ys.foldl (dstep suc) st).2.length ≤ st.2.length + 10 * ys.length := by
  induction ys with
  | nil => intro st; exact Nat.le_refl _
  | cons y r ih =>
    intro st
    rw [List.foldl_cons, List.length_cons]
    have := ih (dstep suc st y)
    have h2 := sstep_len (suc y) (setAt st.1 y (-2), st.2)
    have h3 := hs y
    have h4 : (dstep suc st y).2.length ≤ st.2.length + 10 := by unfold dstep; exact Nat.le_trans h2 (by dsimp only; (first | lia | omega))
    (first | lia | omega)
noncomputable def doneSt (d : SD) (l R : List Nat) : (Nat → Int) × List Nat := R.foldl (dstep d.suc) (d.np, l)
noncomputable def doneD (d : SD) (a : Addr) (l R : List Nat) : SD := { d with np := (doneSt d l R).1, rd := some (a, (doneSt d l R).2), nf := d.nf + R.length }
noncomputable def doneW (TS NI : Addr) : BW := fun vs Q H L => match vs with
  | .ref x :: rest => ∃ nm Hb d a l R, Srt TS NI nm Hb H d ∧ d.x = x ∧ rest = vS (R.map nm) ∧ d.rd = some (a, l) ∧ l.length ≤ 10 ∧ R.length ≤ 10 ∧ (∀ y, (d.suc y).length ≤ 10) ∧ (∀ y ∈ R, y ∈ d.ks ∧ ∀ s ∈ d.suc y, s ∈ d.ks) ∧ (∀ i y, R[i]? = some y → (doneSt d l (R.take i)).1 y = -1) ∧ ∀ H', Srt TS NI nm Hb H' (doneD d a l R) → Q .none H' L
  | _ => False
theorem s_augis {Q : Value → HA → Ls → Prop} {H : HA} {L : Ls} {i j : Int} {t u : Tok} (h : Q (.int (i - j) 0) H L) : augW .Sub (.int i t) (.int j u) Q H L := h
theorem s_dget {Q : Value → HA → Ls → Prop} {H : HA} {L : Ls} {a : Addr} {es : List (Str × Value)} {ep : Nat} {k : Str} {t : Tok} {v : Value} (e : H a = some (.dct es ep)) (f : (es.lookup k).getD .none = v) (h : Q v H L) : dgetW [.ref a, .str k t] Q H L := ⟨es, ep, e, by rw [f]; exact h⟩
theorem done_walk {B : Heap} (hB : Bas B) {n : Nat} (to td : Tok) (K : Frag) (X : K.In B) {pn pp ps : Addr} (A : AttrsIn K TS NI pn pp ps) {f : Addr} {fd : FuncData} (Fi : FnIn B f fd (MB 12 7)) (hsc : fd.scope = MS 12 7) (hp : fd.params = MP 12 7) (hg : ∀ g ∈ G12_7 to td, GlobOk B fd.globals fd.builtins g.1 g.2) : FnK B false (n + 1) f (doneW TS NI) := by
  have main := fn_okK (n := n) (fr := false) hB Fi.toFnIn0 (by rw [hsc]; exact chk12_7) (fun _ => by rw [hsc]; decide +kernel) hg (fun C _ vs => bind_var (ok := fun k => 1 ≤ k ∧ k ≤ 11) (bind12_7 hp Fi.dfl Fi.kwd) C vs) (fun C env le room V len0 hF =>
    have lenC : C.locs.length = 8 := len0.trans (by rw [hsc]; kernel_rfl)
    have V : EnvOk C (T12_7 to td) env := tab_eq (hsc ▸ tab12_7 to td) V
    have S := hB.stat le room
    have hh := room.handled
    (S_cons (S_if (T_cmp S (E_attr (E_name V (.head _)) (getD_ok (X.keeps le) A.A1)) (E_const _ _ _)) S_wall S_nil) (S_cons (S_assign (E_attr (E_name V (.head _)) (getD_ok (X.keeps le) A.A0)) (A_cons (A_name V (.tail _ (.tail _ (.head _)))) A_nil)) (S_cons (S_for hh S (E_name V (.tail _ (.head _))) (A_name V (.tail _ (.tail _ (.tail _ (.head _))))) (S_cons (S_if (T_cmp S (E_named V (.tail _ (.tail _ (.tail _ (.tail _ (.head _))))) (E_meth (E_name V (.tail _ (.tail _ (.head _)))) F.plainAttrs_dict F.slot_dict_get F.type_dict_get (E_cons (E_name V (.tail _ (.tail _ (.tail _ (.head _))))) E_nil) (b_dget S))) (E_const _ _ _)) S_wall S_nil) (S_cons (S_assign (E_attr (E_name V (.tail _ (.tail _ (.tail _ (.tail _ (.head _)))))) (getS_ok (X.keeps le) A.A5)) (A_cons (A_name V (.tail _ (.tail _ (.tail _ (.tail _ (.tail _ (.head _))))))) A_nil)) (S_cons (S_if (T_cmp S (E_name V (.tail _ (.tail _ (.tail _ (.tail _ (.tail _ (.head _))))))) (E_name V (.tail _ (.tail _ (.tail _ (.tail _ (.tail _ (.tail _ (.tail _ (.tail _ (.head _))))))))))) S_wall S_nil) (S_cons (S_assign (E_name V (.tail _ (.tail _ (.tail _ (.tail _ (.tail _ (.tail _ (.tail _ (.tail _ (.tail _ (.head _))))))))))) (A_cons (A_attr (E_name V (.tail _ (.tail _ (.tail _ (.tail _ (.head _)))))) (setS_ok (X.keeps le) A.A5)) A_nil)) (S_cons (S_for hh S (E_attr (E_name V (.tail _ (.tail _ (.tail _ (.tail _ (.head _)))))) (getS_ok (X.keeps le) A.A6)) (A_name V (.tail _ (.tail _ (.tail _ (.tail _ (.tail _ (.tail _ (.head _)))))))) (S_cons (S_assign (E_sub (E_name V (.tail _ (.tail _ (.head _)))) (E_name V (.tail _ (.tail _ (.tail _ (.tail _ (.tail _ (.tail _ (.head _))))))))) (A_cons (A_name V (.tail _ (.tail _ (.tail _ (.tail _ (.tail _ (.tail _ (.tail _ (.head _))))))))) A_nil)) (S_cons (S_aug_attr (E_name V (.tail _ (.tail _ (.tail _ (.tail _ (.tail _ (.tail _ (.tail _ (.head _))))))))) (E_const _ _ _) (getS_ok (X.keeps le) A.A5) (setS_ok (X.keeps le) A.A5)) (S_cons (S_if (T_cmp S (E_attr (E_name V (.tail _ (.tail _ (.tail _ (.tail _ (.tail _ (.tail _ (.tail _ (.head _))))))))) (getS_ok (X.keeps le) A.A5)) (E_const _ _ _)) (S_cons (S_expr V.fn (E_meth (E_attr (E_name V (.head _)) (getD_ok (X.keeps le) A.A1)) F.plainAttrs_list F.slot_list_append F.type_list_append (E_cons (E_name V (.tail _ (.tail _ (.tail _ (.tail _ (.tail _ (.tail _ (.head _)))))))) E_nil) b_append)) S_nil) S_nil) S_nil))) S_nil) (S_cons (S_aug_attr (E_name V (.head _)) (E_const _ _ _) (getD_ok (X.keeps le) A.A3) (setD_ok (X.keeps le) A.A3)) S_nil)))))) S_nil) S_nil))))
  refine main.spec ?_
  clear main
  rw [hsc]
  intro vs Q H L h
  unfold doneW at h
  split at h
  · rename_i x rest
    refine by_ng fun ng => ?_
    obtain ⟨nm, Hb, d, a, l, R, hS, rfl, rfl, hrd, hl, hR, hsu, hk, hnp, hq⟩ := h
    refine ng ?_
    clear ng
    refine ⟨by show 1 ≤ (vS (R.map nm)).length + 1 ∧ (vS (R.map nm)).length + 1 ≤ 11; rw [vS_len, List.length_map]; (first | lia | omega), by show (vS (R.map nm)).length ≤ sizeLine; rw [vS_len, List.length_map]; exact fit_line (by (first | lia | omega)), fun t ht => ?_⟩
    refine' s_start (ini12_7 _ _) ?_
    have hdrop : List.drop 1 (Value.ref d.x :: vS (R.map nm)) = vS (R.map nm) := rfl
    rw [hdrop]
    have hS1 := hS.enlarge ht (.tup (vS (R.map nm)))
    have kb : HSub Hb (upd Hb t (.tup (vS (R.map nm)))) := (HSub.refl Hb).upd (hS.sub.none ht)
    have htb : upd Hb t (.tup (vS (R.map nm))) t = some (.tup (vS (R.map nm))) := upd_same _ _ _
    generalize upd Hb t (.tup (vS (R.map nm))) = Hb2 at hS1 htb kb
    generalize upd H t (.tup (vS (R.map nm))) = H1 at hS1
    walk_at "st"
    refine' s_getD hS1.hx hS1.hdx (hS1.rdg hrd) rfl ?_
    walk_at "st"
    refine' s_if_f rfl ?_
    walk_at "st"
    refine' s_getD hS1.hx hS1.hdx (a := .ref d.nd) rfl rfl ?_
    walk_at "st"
    refine' s_for (k := .tup t) (xs := vS (R.map nm)) (fun i H' L' => i ≤ R.length ∧ Srt TS NI nm Hb2 H' (doneD d a l (R.take i)) ∧ ∃ c3 c4 c5 c6 c7, L' = [some (.ref d.x), some (.ref t), some (.ref d.nd), c3, c4, c5, c6, c7]) (.tup (hS1.sub _ _ htb)) ?_ ?_
    · refine ⟨Nat.zero_le _, ?_, none, none, none, none, none, rfl⟩
      have e0 : doneD d a l (R.take 0) = d := by
        unfold doneD doneSt
        refine by_ng fun ng => ?_
        obtain ⟨x, dx, nd, info, idx, sl, ks, np, suc, rd, po, nf⟩ := d
        refine ng ?_
        clear ng
        simp only at hrd
        subst hrd
        simp
      rw [e0]; exact hS1
    intro i H' L' rr49
    refine by_ng fun ng => ?_
    obtain ⟨hi, hS2, c3, c4, c5, c6, c7, rfl⟩ := rr49
    refine ng ?_
    clear ng
    refine ⟨.tup (hS2.sub _ _ htb), fun e => ?_, fun z e QN hN hC => ?_⟩
    · have hil : R.length ≤ i := by
        rw [List.getElem?_eq_none_iff] at e; simpa using e
      rw [List.take_of_length_le hil] at hS2
      walk_at "st"
      exact ⟨_, HSub.refl _, hq _ (hS2.shrink kb)⟩
    · refine by_ng fun ng => ?_
      obtain ⟨y, hy, rfl⟩ := vS_at e
      obtain ⟨hyk, hys⟩ := hk y (List.mem_of_getElem? hy)
      refine ng ?_
      clear ng
      have hilt : i < R.length := (List.getElem?_eq_some_iff.mp hy).1
      have hnpy : (doneSt d l (R.take i)).1 y = -1 := hnp i y hy
      have hlen : (doneSt d l (R.take i)).2.length ≤ 200 := by
        have := dstep_len hsu (R.take i) (d.np, l)
        rw [List.length_take] at this
        unfold doneSt
        have h2 : min i R.length ≤ 10 := by (first | lia | omega)
        simp only at this
        (first | lia | omega)
      have hsnoc : doneSt d l (R.take (i + 1)) = dstep d.suc (doneSt d l (R.take i)) y := by
        unfold doneSt
        rw [take_snoc hy, List.foldl_append]; rfl
      generalize hst : doneSt d l (R.take i) = st at hnpy hlen hsnoc
      have hS2' : Srt TS NI nm Hb2 H' { d with np := st.1, rd := some (a, st.2), nf := d.nf + (R.take i).length } := by
        have := hS2
        unfold doneD at this
        rw [hst] at this; exact this
      rw [List.length_take, Nat.min_eq_left hi] at hS2'
      clear hS2
      obtain ⟨ep, hnd⟩ := hS2'.hnd
      walk_at "st"
      refine' s_meth_d hnd ?_
      walk_at "st"
      refine' s_dget hnd (v := .ref (d.info y)) (by rw [hS2'.look (hS2'.lt y hyk), if_pos hyk]; rfl) ?_
      walk_at "st"
      refine' s_if_f rfl ?_
      walk_at "st"
      refine' s_getS (hS2'.hi y hyk).1 (hS2'.hi y hyk).2.1 (a := .int (st.1 y) 0) rfl rfl ?_
      walk_at "st"
      refine' s_if_f (by rw [hnpy]; rfl) ?_
      walk_at "st"
      refine' s_setS (hS2'.hi y hyk).1 (hS2'.hi y hyk).2.1 (sl' := [some (.str (nm y) 0), some (.int (-2) 0), some (.ref (d.sl y))]) rfl ?_
      have hS3 := hS2'.setNp hyk (-2)
      generalize upd H' (d.info y) _ = H3 at hS3
      walk_at "st"
      refine' s_getS (hS3.hi y hyk).1 (hS3.hi y hyk).2.1 (a := .ref (d.sl y)) rfl rfl ?_
      refine' s_for (k := .lst (d.sl y)) (xs := vS ((d.suc y).map nm)) (fun j H'' L'' => j ≤ (d.suc y).length ∧ Srt TS NI nm Hb2 H'' { d with np := (((d.suc y).take j).foldl sstep (setAt st.1 y (-2), st.2)).1, rd := some (a, (((d.suc y).take j).foldl sstep (setAt st.1 y (-2), st.2)).2), nf := d.nf + i } ∧ ∃ c6 c7, L'' = [some (.ref d.x), some (.ref t), some (.ref d.nd), some (.str (nm y) 0), some (.ref (d.info y)), some (.int (st.1 y) 0), c6, c7]) (.lst (hS3.hi y hyk).2.2) ?_ ?_
      · exact ⟨Nat.zero_le _, hS3, c6, c7, rfl⟩
      intro j H4 L4 rr50
      refine by_ng fun ng => ?_
      obtain ⟨hj, hS4, c6, c7, rfl⟩ := rr50
      refine ng ?_
      clear ng
      refine ⟨.lst (hS4.hi y hyk).2.2, fun e => ?_, fun z e QN2 hN2 hC2 => ?_⟩
      · have hjl : (d.suc y).length ≤ j := by
          rw [List.getElem?_eq_none_iff] at e; simpa using e
        rw [List.take_of_length_le hjl] at hS4
        walk_at "st"
        refine' s_getD hS4.hx hS4.hdx (a := .int (d.nf + i) 0) rfl rfl ?_
        walk_at "st"
        refine' s_setD hS4.hx hS4.hdx (by show (4 : Nat) ≤ 100; decide) (es' := tsEs (doneD d a l (R.take (i + 1)))) ?_ ?_
        · unfold doneD
          have hn : d.nf + (i : Int) + 1 = d.nf + ((R.take (i + 1)).length : Int) := by rw [List.length_take]; (first | lia | omega)
          rw [hn]; rfl
        have hS5 := hS4.setDx { d with np := ((d.suc y).foldl sstep (setAt st.1 y (-2), st.2)).1, rd := some (a, ((d.suc y).foldl sstep (setAt st.1 y (-2), st.2)).2), nf := d.nf + ((R.take (i + 1)).length : Int) } rfl (fun p q e => hS4.hr p q e)
        walk_at "st"
        refine hN _ _ ⟨hilt, ?_, _, _, _, _, _, rfl⟩
        unfold doneD
        rw [hsnoc]
        exact hS5
      · obtain ⟨s, hs, rfl⟩ := vS_at e
        have hsm := List.mem_of_getElem? hs
        have hsk := hys s hsm
        have hjlt : j < (d.suc y).length := (List.getElem?_eq_some_iff.mp hs).1
        have hlen2 : (((d.suc y).take j).foldl sstep (setAt st.1 y (-2), st.2)).2.length ≤ 300 := by
          have := sstep_len ((d.suc y).take j) (setAt st.1 y (-2), st.2)
          rw [List.length_take] at this
          have h2 := hsu y
          have h3 : min j (d.suc y).length ≤ 10 := by (first | lia | omega)
          simp only at this
          (first | lia | omega)
        have hsn2 : ((d.suc y).take (j + 1)).foldl sstep (setAt st.1 y (-2), st.2) = sstep (((d.suc y).take j).foldl sstep (setAt st.1 y (-2), st.2)) s := by rw [take_snoc hs, List.foldl_append]; rfl
        generalize hsj : ((d.suc y).take j).foldl sstep (setAt st.1 y (-2), st.2) = sj at hS4 hlen2 hsn2
        walk_at "st"
        refine' s_itemNd (y := s) hS4 hsk ?_
        walk_at "st"
        refine' s_getS (hS4.hi s hsk).1 (hS4.hi s hsk).2.1 (a := .int (sj.1 s) 0) rfl rfl ?_
        walk_at "st"
        refine' s_augis ?_
        refine' s_setS (hS4.hi s hsk).1 (hS4.hi s hsk).2.1 (sl' := [some (.str (nm s) 0), some (.int (sj.1 s - 1) 0), some (.ref (d.sl s))]) rfl ?_
        have hS5 := hS4.setNp hsk (sj.1 s - 1)
        generalize upd H4 (d.info s) _ = H5 at hS5
        walk_at "st"
        refine' s_getS (hS5.hi s hsk).1 (hS5.hi s hsk).2.1 (a := .int (sj.1 s - 1) 0) (by unfold infoL; simp) rfl ?_
        walk_at "st"
        by_cases hz : sj.1 s - 1 = 0
        · refine' s_if_t (by rw [hz]; rfl) ?_
          walk_at "st"
          refine' s_getD hS5.hx hS5.hdx (hS5.rdg rfl) rfl ?_
          obtain ⟨hra, _, _⟩ := hS5.hr a sj.2 rfl
          refine' s_meth_l hra ?_
          walk_at "st"
          refine' s_append hra (by rw [vS_len, List.length_map]; (first | lia | omega)) ?_
          have hvs : vS (sj.2.map nm) ++ [Value.str (nm s) 0] = vS ((sj.2 ++ [s]).map nm) := by unfold vS; simp
          rw [hvs]
          have hS6 := hS5.setRd (a := a) (l := sj.2) rfl (sj.2 ++ [s])
          walk_at "st"
          refine hN2 _ _ ⟨hjlt, ?_, _, _, rfl⟩
          rw [hsn2]
          unfold sstep
          rw [if_pos hz]
          exact hS6
        · refine' s_if_f (by rw [beq_eq_false_iff_ne]; exact hz) ?_
          walk_at "st"
          refine hN2 _ _ ⟨hjlt, ?_, _, _, rfl⟩
          rw [hsn2]
          unfold sstep
          rw [if_neg hz]
          exact hS5
  · exact h.elim


noncomputable def T12_8  : List (Str × NK) := [(Str.ofString "self", NK.slot 0 false), (Str.ofString "n2i", NK.slot 1 false), (Str.ofString "stack", NK.slot 2 false), (Str.ofString "itstack", NK.slot 3 false), (Str.ofString "seen", NK.slot 4 false), (Str.ofString "node2stacki", NK.slot 5 false), (Str.ofString "node", NK.slot 6 false), (Str.ofString "set", .glob (.type "set")), (Str.ofString "iter", .glob (.builtin "iter")), (Str.ofString "len", .glob (.builtin "len")), (Str.ofString "StopIteration", .glob (.type "StopIteration"))]
noncomputable def G12_8  : List (Str × Value) := [(Str.ofString "set", .type "set"), (Str.ofString "iter", .builtin "iter"), (Str.ofString "len", .builtin "len"), (Str.ofString "StopIteration", .type "StopIteration")]
theorem tab12_8  : fnT (MS 12 8) (G12_8 ) = T12_8  := by kernel_rfl
theorem chk12_8 : scOk (MS 12 8) [Str.ofString "self"] = true := by decide +kernel
theorem bind12_8 {fd : FuncData} (hp : fd.params = MP 12 8) (hd : fd.defaults = .none) (hk : fd.kwdefaults = .none) (vs : List Value) (hl : vs.length = 1) : bindArgs fd ⟨vs, []⟩ = pure ([Str.ofString "self"].zip vs) := by
  refine by_ng fun ng => ?_
  obtain ⟨a0, rfl⟩ := len1 hl
  obtain ⟨n, q, p, bd, sc, g, cl, df, kd, doc, pm, an, cd, ct, bu⟩ := fd
  refine ng ?_
  clear ng
  subst hp; subst hd; subst hk
  kernel_rfl
theorem ini12_8 (a0 : Value) : iniOf (MS 12 8) ([Str.ofString "self"].zip [a0]) = [some a0, none, none, none, none, none, none] := by kernel_rfl

structure Fm where
  y : Nat
  u : Addr
  it : Addr
  k : Nat
noncomputable def ysOf (nm : Nat → Str) (fs : List Fm) : List Str := (fs.map (·.y)).map nm
noncomputable def usOf (fs : List Fm) : List Value := fs.map fun f => .ref f.u
structure FAt (nm : Nat → Str) (d : SD) (sA iA eA nA : Addr) (H0 H : HA) (fs : List Fm) (sn : List Nat) : Prop where
  sub : HSub H0 H
  hs : H sA = some (.lst (vS (ysOf nm fs)))
  hi : H iA = some (.lst (usOf fs))
  he : ∃ S n, H eA = some (.st S n) ∧ n ≤ sn.length ∧ ∀ y, y < 10 → S (nm y) = decide (y ∈ sn)
  hn : ∃ es ep, H nA = some (.dct es ep) ∧ es.map (·.1) = ysOf nm fs
  hf : ∀ f ∈ fs, H f.u = some (.raw (nxtObj f.it)) ∧ H f.it = some (.lit (d.sl f.y) f.k) ∧ H0 f.it = none
  fs_ : H0 sA = none
  fi : H0 iA = none
  fe : H0 eA = none
  fn_ : H0 nA = none
  si : sA ≠ iA
  nit : (fs.map (·.it)).Nodup
  sno : sn.Nodup
  snk : ∀ y ∈ sn, y ∈ d.ks
  srt : fs.Pairwise (fun a b => b.y < a.y)
  yk : ∀ f ∈ fs, f.y ∈ d.ks
theorem look_none {es : List (Str × Value)} {x : Str} (h : x ∉ es.map (·.1)) : es.lookup x = none := by
  cases e : es.lookup x with
  | none => rfl
  | some v => exact absurd (lookup_some_mem (by rw [e]; simp)) h
theorem look_some {es : List (Str × Value)} {x : Str} (h : x ∈ es.map (·.1)) : (es.lookup x).isSome = true := by
  induction es with
  | nil => cases h
  | cons a r ih =>
    rw [List.lookup_cons]
    by_cases q : x = a.1
    · simp [q]
    · have : (x == a.1) = false := by rw [beq_eq_false_iff_ne]; exact q
      rw [this]
      exact ih ((List.mem_cons.mp h).resolve_left q)
theorem putE_keys {es : List (Str × Value)} {x : Str} {v : Value} (h : x ∉ es.map (·.1)) : (putE es x v).map (·.1) = es.map (·.1) ++ [x] := by
  unfold putE
  rw [if_neg]
  · simp
  · rw [List.any_eq_true]
    intro rr51
    obtain ⟨p, hp, e⟩ := rr51
    exact h (List.mem_map.mpr ⟨p, hp, by simpa using e⟩)
section
variable {nm : Nat → Str} {d : SD} {sA iA eA nA : Addr} {H0 H H' : HA} {fs : List Fm} {sn : List Nat}
theorem FAt.ne (h : FAt nm d sA iA eA nA H0 H fs sn) : sA ≠ eA ∧ sA ≠ nA ∧ iA ≠ eA ∧ iA ≠ nA ∧ eA ≠ nA := by
  refine by_ng fun ng => ?_
  obtain ⟨S, n, e, _⟩ := h.he
  obtain ⟨es, ep, e', _⟩ := h.hn
  refine ng ?_
  clear ng
  refine ⟨fun z => ?_, fun z => ?_, fun z => ?_, fun z => ?_, fun z => ?_⟩
  · have := h.hs; rw [z, e] at this; cases this
  · have := h.hs; rw [z, e'] at this; cases this
  · have := h.hi; rw [z, e] at this; cases this
  · have := h.hi; rw [z, e'] at this; cases this
  · rw [z, e'] at e; cases e
theorem FAt.it_ne (h : FAt nm d sA iA eA nA H0 H fs sn) {f : Fm} (hf : f ∈ fs) {ho : HO} {a : Addr} (e : H a = some ho) (hh : ∀ l i, ho ≠ .lit l i) : a ≠ f.it := fun z => by
  have := (h.hf f hf).2.1
  rw [← z, e] at this; cases this; exact hh _ _ rfl
theorem FAt.adv (h : FAt nm d sA iA eA nA H0 H fs sn) {gs : List Fm} {f : Fm} (hg : fs = gs ++ [f]) : FAt nm d sA iA eA nA H0 (upd H f.it (.lit (d.sl f.y) (f.k + 1))) (gs ++ [{ f with k := f.k + 1 }]) sn := by
  subst hg
  have hm : f ∈ gs ++ [f] := by simp
  obtain ⟨h1, h2, h3⟩ := h.hf f hm
  have n0 := h.nit
  rw [List.map_append, List.nodup_append] at n0
  refine ⟨h.sub.upd h3, (upd_ne _ _ (h.it_ne hm h.hs (fun _ _ q => by cases q))).trans (h.hs.trans (by simp [ysOf])), (upd_ne _ _ (h.it_ne hm h.hi (fun _ _ q => by cases q))).trans (h.hi.trans (by simp [usOf])), ?_, ?_, fun g hgm => ?_, h.fs_, h.fi, h.fe, h.fn_, h.si, ?_, h.sno, h.snk, ?_, fun g hgm => ?_⟩
  · refine by_ng fun ng => ?_
    obtain ⟨S, n, e, r⟩ := h.he
    refine ng ?_
    clear ng
    exact ⟨S, n, (upd_ne _ _ (h.it_ne hm e (fun _ _ q => by cases q))).trans e, r⟩
  · refine by_ng fun ng => ?_
    obtain ⟨es, ep, e, r⟩ := h.hn
    refine ng ?_
    clear ng
    exact ⟨es, ep, (upd_ne _ _ (h.it_ne hm e (fun _ _ q => by cases q))).trans e, by rw [r]; simp [ysOf]⟩
  · rcases List.mem_append.mp hgm with q | q
    · obtain ⟨a, b, c⟩ := h.hf g (List.mem_append_left _ q)
      refine ⟨(upd_ne _ _ (h.it_ne hm a (fun _ _ q => by cases q))).trans a, (upd_ne _ _ fun z => ?_).trans b, c⟩
      exact n0.2.2 g.it (List.mem_map.mpr ⟨g, q, rfl⟩) f.it (by simp) z
    · rw [List.mem_singleton] at q; subst q
      exact ⟨(upd_ne _ _ (h.it_ne hm h1 (fun _ _ q => by cases q))).trans h1, upd_same _ _ _, h3⟩
  · have := h.nit; simpa using this
  · have := h.srt; rw [List.pairwise_append] at this ⊢
    exact ⟨this.1, by simp, fun a ha b hb => by rw [List.mem_singleton] at hb; subst hb; exact this.2.2 a ha f (by simp)⟩
  · rcases List.mem_append.mp hgm with q | q
    · exact h.yk g (List.mem_append_left _ q)
    · rw [List.mem_singleton] at q; subst q; exact h.yk f hm
theorem FAt.pop (h : FAt nm d sA iA eA nA H0 H fs sn) (inj : ∀ y z, y < 10 → z < 10 → nm y = nm z → y = z) (lt : ∀ y ∈ d.ks, y < 10) {gs : List Fm} {f : Fm} (hg : fs = gs ++ [f]) {es : List (Str × Value)} {ep ep' : Nat} (e : H nA = some (.dct es ep)) :
    FAt nm d sA iA eA nA H0 (upd (upd (upd (del H f.it) sA (.lst (vS (ysOf nm gs)))) nA (.dct (es.filter fun kv => decide (kv.1 ≠ nm f.y)) ep')) iA (.lst (usOf gs))) gs sn := by
  subst hg
  have hm : f ∈ gs ++ [f] := by simp
  refine by_ng fun ng => ?_
  obtain ⟨h1, h2, h3⟩ := h.hf f hm
  obtain ⟨n1, n2, n3, n4, n5⟩ := h.ne
  refine ng ?_
  clear ng
  have n0 := h.nit
  rw [List.map_append, List.nodup_append] at n0
  have hp := h.srt
  rw [List.pairwise_append] at hp
  have subd : HSub H0 (del H f.it) := fun a ho ea => by
    rw [del_ne _ (fun z => by rw [z, h3] at ea; cases ea)]; exact h.sub _ _ ea
  have old : ∀ {a : Addr} {ho : HO}, H a = some ho → a ≠ f.it → a ≠ sA → a ≠ nA → a ≠ iA → upd (upd (upd (del H f.it) sA (.lst (vS (ysOf nm gs)))) nA (.dct (es.filter fun kv => decide (kv.1 ≠ nm f.y)) ep')) iA (.lst (usOf gs)) a = some ho := fun ea a1 a2 a3 a4 => by
    rw [upd_ne _ _ a4, upd_ne _ _ a3, upd_ne _ _ a2, del_ne _ a1]; exact ea
  refine ⟨((subd.upd h.fs_).upd h.fn_).upd h.fi, ?_, upd_same _ _ _, ?_, ⟨_, ep', (upd_ne _ _ (Ne.symm n4)).trans (upd_same _ _ _), ?_⟩, fun g hgm => ?_, h.fs_, h.fi, h.fe, h.fn_, h.si, n0.1, h.sno, h.snk, hp.1, fun g hgm => h.yk g (List.mem_append_left _ hgm)⟩
  · rw [upd_ne _ _ h.si, upd_ne _ _ n2, upd_same]
  · refine by_ng fun ng => ?_
    obtain ⟨S, n, ee, r⟩ := h.he
    refine ng ?_
    clear ng
    exact ⟨S, n, old ee (h.it_ne hm ee (fun _ _ q => by cases q)) (Ne.symm n1) n5 (Ne.symm n3), r⟩
  · refine by_ng fun ng => ?_
    obtain ⟨es', ep2, e2, r⟩ := h.hn
    refine ng ?_
    clear ng
    rw [e] at e2; cases e2
    have hk : (es.filter fun kv => decide (kv.1 ≠ nm f.y)).map (·.1) = (es.map (·.1)).filter fun k => decide (k ≠ nm f.y) := by rw [List.filter_map]; rfl
    rw [hk, r]
    unfold ysOf
    rw [List.map_append, List.map_append, List.filter_append]
    have h4 : ((([f] : List Fm).map (·.y)).map nm).filter (fun k => decide (k ≠ nm f.y)) = [] := by simp
    rw [h4, List.append_nil, List.filter_eq_self]
    intro k hk
    refine by_ng fun ng => ?_
    obtain ⟨y, hy, rfl⟩ := List.mem_map.mp hk
    obtain ⟨g, hgm, rfl⟩ := List.mem_map.mp hy
    refine ng ?_
    clear ng
    have hlt := hp.2.2 g hgm f (by simp)
    rw [decide_eq_true_iff]
    exact fun z => absurd (inj g.y f.y (lt _ (h.yk g (List.mem_append_left _ hgm))) (lt _ (h.yk f hm)) z) (by (first | lia | omega))
  · obtain ⟨a, b, c⟩ := h.hf g (List.mem_append_left _ hgm)
    have ku : ∀ {p : Addr} {ho : HO}, H p = some ho → (∀ l, ho ≠ .lst l) → (∀ es ep, ho ≠ .dct es ep) → p ≠ sA ∧ p ≠ nA ∧ p ≠ iA := fun ep' q1 q2 => ⟨fun z => by have := h.hs; rw [← z, ep'] at this; cases this; exact q1 _ rfl, fun z => by rw [← z, ep'] at e; cases e; exact q2 _ _ rfl, fun z => by have := h.hi; rw [← z, ep'] at this; cases this; exact q1 _ rfl⟩
    refine by_ng fun ng => ?_
    obtain ⟨a1, a2, a3⟩ := ku a (fun _ q => by cases q) (fun _ _ q => by cases q)
    obtain ⟨b1, b2, b3⟩ := ku b (fun _ q => by cases q) (fun _ _ q => by cases q)
    refine ng ?_
    clear ng
    exact ⟨old a (h.it_ne hm a (fun _ _ q => by cases q)) a1 a2 a3, old b (fun z => n0.2.2 g.it (List.mem_map.mpr ⟨g, hgm, rfl⟩) f.it (by simp) z) b1 b2 b3, c⟩
theorem FAt.push (h : FAt nm d sA iA eA nA H0 H fs sn) {y : Nat} (hy : y ∈ d.ks) (hs : y ∉ sn) (hl : ∀ f ∈ fs, y < f.y) {u it : Addr} {S' : Str → Bool} {n' : Nat} {es' : List (Str × Value)} {ep' : Nat}
    (keep : ∀ a ho, H a = some ho → a ≠ eA → a ≠ iA → a ≠ nA → a ≠ sA → H' a = some ho) (e1 : H' sA = some (.lst (vS (ysOf nm fs) ++ [.str (nm y) 0]))) (e2 : H' iA = some (.lst (usOf fs ++ [.ref u])))
    (e3 : H' eA = some (.st S' n')) (hn' : n' ≤ sn.length + 1) (hS : ∀ z, z < 10 → S' (nm z) = decide (z ∈ sn ++ [y])) (e4 : H' nA = some (.dct es' ep')) (he : es'.map (·.1) = ysOf nm fs ++ [nm y])
    (e5 : H' u = some (.raw (nxtObj it))) (e6 : H' it = some (.lit (d.sl y) 0)) (hit : H it = none) : FAt nm d sA iA eA nA H0 H' (fs ++ [⟨y, u, it, 0⟩]) (sn ++ [y]) := by
  refine by_ng fun ng => ?_
  obtain ⟨S, n, e, r⟩ := h.he
  obtain ⟨es, ep, e', _⟩ := h.hn
  refine ng ?_
  clear ng
  have out : ∀ {a : Addr} {ho : HO}, H a = some ho → (∀ l, ho ≠ .lst l) → (∀ es ep, ho ≠ .dct es ep) → (∀ S n, ho ≠ .st S n) → H' a = some ho := fun ea q1 q2 q3 => keep _ _ ea (fun z => by rw [← z, ea] at e; cases e; exact q3 _ _ rfl) (fun z => by have := h.hi; rw [← z, ea] at this; cases this; exact q1 _ rfl) (fun z => by rw [← z, ea] at e'; cases e'; exact q2 _ _ rfl) (fun z => by have := h.hs; rw [← z, ea] at this; cases this; exact q1 _ rfl)
  refine ⟨fun a ho ea => keep a ho (h.sub a ho ea) (fun z => by rw [z, h.fe] at ea; cases ea) (fun z => by rw [z, h.fi] at ea; cases ea) (fun z => by rw [z, h.fn_] at ea; cases ea) (fun z => by rw [z, h.fs_] at ea; cases ea), ?_, ?_, ⟨S', n', e3, by simpa using hn', hS⟩, ⟨es', ep', e4, by rw [he]; simp [ysOf]⟩, fun f hf => ?_, h.fs_, h.fi, h.fe, h.fn_, h.si, ?_, ?_, fun z hz => ?_, ?_, fun f hf => ?_⟩
  · rw [e1]; simp [ysOf, vS]
  · rw [e2]; simp [usOf]
  · rcases List.mem_append.mp hf with q | q
    · obtain ⟨a, b, c⟩ := h.hf f q
      exact ⟨out a (fun _ q => by cases q) (fun _ _ q => by cases q) (fun _ _ q => by cases q), out b (fun _ q => by cases q) (fun _ _ q => by cases q) (fun _ _ q => by cases q), c⟩
    · rw [List.mem_singleton] at q; subst q
      refine ⟨e5, e6, ?_⟩
      cases hq : H0 it with
      | none => rfl
      | some ho => have := h.sub it ho hq; rw [hit] at this; cases this
  · rw [List.map_append, List.nodup_append]
    refine ⟨h.nit, by simp, fun a ha b hb z => ?_⟩
    obtain ⟨f, hf, rfl⟩ := List.mem_map.mp ha
    simp only [List.map_cons, List.map_nil, List.mem_singleton] at hb
    have := (h.hf f hf).2.1
    rw [z, hb, hit] at this; cases this
  · rw [List.nodup_append]
    exact ⟨h.sno, by simp, fun a ha b hb z => by rw [List.mem_singleton] at hb; subst hb; exact hs (z ▸ ha)⟩
  · rcases List.mem_append.mp hz with q | q
    · exact h.snk z q
    · rw [List.mem_singleton] at q; rw [q]; exact hy
  · rw [List.pairwise_append]
    exact ⟨h.srt, by simp, fun a ha b hb => by rw [List.mem_singleton] at hb; subst hb; exact hl a ha⟩
  · rcases List.mem_append.mp hf with q | q
    · exact h.yk f q
    · rw [List.mem_singleton] at q; subst q; exact hy
end
inductive fcB (TS NI : Addr) (x : Addr) (Q : Value → HA → Ls → Prop) (H : HA) (L : Ls) : Prop
  | mk (nm : _) (Hb : _) (d : _) (k1 : Srt TS NI nm Hb H d) (k2 : d.x = x) (k3 : (∀ y ∈ d.ks, (d.suc y).length ≤ 1 ∧ ∀ z ∈ d.suc y, z ∈ d.ks ∧ z < y)) (k4 : Q .none H L) : fcB TS NI x Q H L
noncomputable def fcW (TS NI : Addr) : BW := fun vs Q H L => mR (fun x => mN (fcB TS NI x Q H L)) vs
theorem s_inS {Q : Value → HA → Ls → Prop} {H : HA} {L : Ls} {a : Addr} {S : Str → Bool} {n : Nat} {x : Str} {t : Tok} {b : Bool} (e : H a = some (.st S n)) (f : S x = b) (h : Q (.bool b) H L) : cmpW .In (.str x t) (.ref a) Q H L := .inr (.inr ⟨S, n, x, t, e, rfl, by rw [f]; exact h⟩)
theorem s_setN {Q : Value → HA → Ls → Prop} {H : HA} {L : Ls} (h : ∀ c, H c = none → Q (.ref c) (upd H c (.st (fun _ => false) 0)) L) : setNW [] Q H L := h
theorem s_iter {Q : Value → HA → Ls → Prop} {H : HA} {L : Ls} {a : Addr} {xs : List Value} (e : H a = some (.lst xs)) (h : ∀ c, H c = none → Q (.ref c) (upd H c (.lit a 0)) L) : iterW [.ref a] Q H L := ⟨xs, e, h⟩
theorem s_sadd {Q : Value → HA → Ls → Prop} {H : HA} {L : Ls} {a : Addr} {S : Str → Bool} {n : Nat} {x : Str} {t : Tok} (e : H a = some (.st S n)) (f : n ≤ 1000) (h : ∀ n', n' ≤ n + 1 → Q .none (upd H a (.st (fun k => S k || decide (k = x)) n')) L) : saddW [.ref a, .str x t] Q H L := ⟨S, n, e, f, h⟩
theorem s_getN {Q : Value → HA → Ls → Prop} {H : HA} {L : Ls} {it l : Addr} {i : Nat} (e : H it = some (.lit l i)) (h : ∀ c, H c = none → Q (.ref c) (upd H c (.raw (nxtObj it))) L) : getNW (.ref it) Q H L := ⟨it, l, i, rfl, e, h⟩
theorem s_seqI {p q : W Flow} {QF : Flow → HA → Ls → Prop} {H : HA} {L : Ls} (J : HA → Ls → Prop) (hq : ∀ H L, J H L → q QF H L) (hp : ∀ Q' : Flow → HA → Ls → Prop, (∀ H L, J H L → Q' .next H L) → p Q' H L) : seqW p q QF H L := hp _ fun H L j => hq H L j
section
variable {sw : Value → W Unit} {hw : W Flow} {u it l : Addr} {i : Nat} {xs : List Value} {x : Value} {Q : Flow → HA → Ls → Prop} {H : HA} {L : Ls}
theorem s_tryS (h1 : H u = some (.raw (nxtObj it))) (h2 : H it = some (.lit l i)) (h3 : H l = some (.lst xs)) (e : xs[i]? = some x) (h : sw x (fun _ => Q .brk) (upd H it (.lit l (i + 1))) L) : tryNextW sw hw (.ref u) Q H L := ⟨u, it, l, i, xs, rfl, h1, h2, h3, by rw [e]; exact h⟩
theorem s_tryE (h1 : H u = some (.raw (nxtObj it))) (h2 : H it = some (.lit l i)) (h3 : H l = some (.lst xs)) (e : xs[i]? = none) (h : hw Q (del H it) L) : tryNextW sw hw (.ref u) Q H L := ⟨u, it, l, i, xs, rfl, h1, h2, h3, by rw [e]; exact h⟩
theorem s_del {a : Addr} {es : List (Str × Value)} {ep : Nat} {x : Str} {t : Tok} {QU : Unit → HA → Ls → Prop} (e : H a = some (.dct es ep)) (f : es.length ≤ 1048575) (g : (es.lookup x).isSome = true) (h : ∀ ep', QU () (upd H a (.dct (es.filter fun kv => decide (kv.1 ≠ x)) ep')) L) : delW (.ref a) (.str x t) QU H L := ⟨a, es, ep, x, t, rfl, rfl, e, f, g, h⟩
end
theorem fc_walk {B : Heap} (hB : Bas B) {n : Nat}  (K : Frag) (X : K.In B) {pn pp ps : Addr} (A : AttrsIn K TS NI pn pp ps) {f : Addr} {fd : FuncData} (Fi : FnIn B f fd (MB 12 8)) (hsc : fd.scope = MS 12 8) (hp : fd.params = MP 12 8) (hg : ∀ g ∈ G12_8 , GlobOk B fd.globals fd.builtins g.1 g.2) : FnK B true (n + 1) f (fcW TS NI) := by
  have main := fn_okK (n := n) (fr := true) hB Fi.toFnIn0 (by rw [hsc]; exact chk12_8) (fun _ => by rw [hsc]; decide +kernel) hg (fun C _ vs => bind_args (bind12_8 hp Fi.dfl Fi.kwd) C vs) (fun C env le room V len0 hF =>
    have lenC : C.locs.length = 7 := len0.trans (by rw [hsc]; kernel_rfl)
    have V : EnvOk C (T12_8 ) env := tab_eq (hsc ▸ tab12_8 ) V
    have S := hB.stat le room
    have hh := room.handled
    (S_cons (S_assign (E_attr (E_name V (.head _)) (getD_ok (X.keeps le) A.A0)) (A_cons (A_name V (.tail _ (.head _))) A_nil)) (S_cons (S_assign (E_list E_nil) (A_cons (A_name V (.tail _ (.tail _ (.head _)))) A_nil)) (S_cons (S_assign (E_list E_nil) (A_cons (A_name V (.tail _ (.tail _ (.tail _ (.head _))))) A_nil)) (S_cons (S_assign (E_call V (.tail _ (.tail _ (.tail _ (.tail _ (.tail _ (.tail _ (.tail _ (.head _)))))))) (.inr (.inl ⟨_, rfl⟩)) E_nil b_setN) (A_cons (A_name V (.tail _ (.tail _ (.tail _ (.tail _ (.head _)))))) A_nil)) (S_cons (S_assign (E_dict0) (A_cons (A_name V (.tail _ (.tail _ (.tail _ (.tail _ (.tail _ (.head _))))))) A_nil)) (S_cons (S_for hh S (E_name V (.tail _ (.head _))) (A_name V (.tail _ (.tail _ (.tail _ (.tail _ (.tail _ (.tail _ (.head _)))))))) (S_cons (S_if (T_cmp S (E_name V (.tail _ (.tail _ (.tail _ (.tail _ (.tail _ (.tail _ (.head _)))))))) (E_name V (.tail _ (.tail _ (.tail _ (.tail _ (.head _))))))) (S_cons S_continue S_nil) S_nil) (S_cons (S_while (T_val (E_const _ _ _)) (S_cons (S_if (T_cmp S (E_name V (.tail _ (.tail _ (.tail _ (.tail _ (.tail _ (.tail _ (.head _)))))))) (E_name V (.tail _ (.tail _ (.tail _ (.tail _ (.head _))))))) (S_cons (S_if (T_cmp S (E_name V (.tail _ (.tail _ (.tail _ (.tail _ (.tail _ (.tail _ (.head _)))))))) (E_name V (.tail _ (.tail _ (.tail _ (.tail _ (.tail _ (.head _)))))))) S_wall S_nil) S_nil) (S_cons (S_expr V.fn (E_meth (E_name V (.tail _ (.tail _ (.tail _ (.tail _ (.head _)))))) F.plainAttrs_set F.slot_set_add F.type_set_add (E_cons (E_name V (.tail _ (.tail _ (.tail _ (.tail _ (.tail _ (.tail _ (.head _)))))))) E_nil) b_sadd)) (S_cons (S_expr V.fn (E_meth (E_name V (.tail _ (.tail _ (.tail _ (.head _))))) F.plainAttrs_list F.slot_list_append F.type_list_append (E_cons (E_attr (E_call V (.tail _ (.tail _ (.tail _ (.tail _ (.tail _ (.tail _ (.tail _ (.tail _ (.head _))))))))) (.inl ⟨_, rfl⟩) (E_cons (E_attr (E_sub (E_name V (.tail _ (.head _))) (E_name V (.tail _ (.tail _ (.tail _ (.tail _ (.tail _ (.tail _ (.head _))))))))) (getS_ok (X.keeps le) A.A6)) E_nil) (b_iter S.sys)) getN_ok) E_nil) b_append)) (S_cons (S_assign (E_call V (.tail _ (.tail _ (.tail _ (.tail _ (.tail _ (.tail _ (.tail _ (.tail _ (.tail _ (.head _)))))))))) (.inl ⟨_, rfl⟩) (E_cons (E_name V (.tail _ (.tail _ (.head _)))) E_nil) b_len) (A_cons (A_sub (E_name V (.tail _ (.tail _ (.tail _ (.tail _ (.tail _ (.head _))))))) (E_name V (.tail _ (.tail _ (.tail _ (.tail _ (.tail _ (.tail _ (.head _))))))))) A_nil)) (S_cons (S_expr V.fn (E_meth (E_name V (.tail _ (.tail _ (.head _)))) F.plainAttrs_list F.slot_list_append F.type_list_append (E_cons (E_name V (.tail _ (.tail _ (.tail _ (.tail _ (.tail _ (.tail _ (.head _)))))))) E_nil) b_append)) S_nil))))) (S_cons (S_while (T_val (E_name V (.tail _ (.tail _ (.head _))))) (S_cons (S_tryNext hh V (hF rfl) (.tail _ (.tail _ (.tail _ (.tail _ (.tail _ (.tail _ (.head _))))))) (.tail _ (.tail _ (.tail _ (.tail _ (.tail _ (.tail _ (.tail _ (.tail _ (.tail _ (.tail _ (.head _))))))))))) (E_sub (E_name V (.tail _ (.tail _ (.tail _ (.head _))))) (E_neg (E_const _ _ _))) (fun A1 hA1 VA => (S_cons (S_del (E_name VA (.tail _ (.tail _ (.tail _ (.tail _ (.tail _ (.head _))))))) (E_meth (E_name VA (.tail _ (.tail _ (.head _)))) F.plainAttrs_list F.slot_list_pop F.type_list_pop E_nil b_pop)) (S_cons (S_expr VA.fn (E_meth (E_name VA (.tail _ (.tail _ (.tail _ (.head _))))) F.plainAttrs_list F.slot_list_pop F.type_list_pop E_nil b_pop)) S_nil)))) S_nil) (S_cons S_break S_nil)) S_nil)) S_nil) S_nil)) S_nil) (S_cons (S_ret (E_const _ _ _)) S_nil))))))))
  refine main.spec ?_
  clear main
  rw [hsc]
  intro vs Q H L h
  refine by_ng fun ng => ?_
  obtain ⟨x, r0, rfl, hq0⟩ := mR_inv h
  obtain ⟨rfl, hq1⟩ := mN_inv hq0
  refine ng ?_
  clear ng
  replace h := hq1
  · skip
    refine by_ng fun ng => ?_
    obtain ⟨nm, Hb, d, hS, rfl, hsu, hq⟩ := h
    refine ng ?_
    clear ng
    refine ⟨rfl, ?_⟩
    refine' s_start (ini12_8 _) ?_
    walk_at "st"
    refine' s_getD hS.hx hS.hdx (a := .ref d.nd) rfl rfl ?_
    walk_at "st"
    refine' ⟨by show 0 ≤ sizeLine; decide, fun sA hsA => ?_⟩
    walk_at "st"
    refine' ⟨by show 0 ≤ sizeLine; decide, fun iA hiA => ?_⟩
    walk_at "st"
    refine' s_setN fun eA heA => ?_
    walk_at "st"
    intro nA hnA
    walk_at "st"
    obtain ⟨ep0, hnd0⟩ := hS.hnd
    have hF0 : FAt nm d sA iA eA nA H (upd (upd (upd (upd H sA (.lst [])) iA (.lst [])) eA (.st (fun _ => false) 0)) nA (.dct [] 0)) [] [] := by
      refine by_ng fun ng => ?_
      obtain ⟨a1, a2⟩ := none_upd hnA
      obtain ⟨a3, a4⟩ := none_upd a1
      obtain ⟨a5, a6⟩ := none_upd a3
      obtain ⟨b1, b2⟩ := none_upd heA
      obtain ⟨b3, b4⟩ := none_upd b1
      obtain ⟨c1, c2⟩ := none_upd hiA
      refine ng ?_
      clear ng
      refine ⟨((((HSub.refl H).upd hsA).upd c1).upd b3).upd a5, ?_, ?_, ⟨_, 0, (upd_ne _ _ (Ne.symm a2)).trans (upd_same _ _ _), Nat.le_refl _, fun _ _ => by simp⟩, ⟨[], 0, upd_same _ _ _, rfl⟩, fun f hf => by (cases hf), hsA, c1, b3, a5, Ne.symm c2, List.nodup_nil, List.nodup_nil, fun _ q => by (cases q), List.Pairwise.nil, fun _ q => by (cases q)⟩
      · rw [upd_ne _ _ (Ne.symm a6), upd_ne _ _ (Ne.symm b4), upd_ne _ _ (Ne.symm c2), upd_same]; rfl
      · rw [upd_ne _ _ (Ne.symm a4), upd_ne _ _ (Ne.symm b2), upd_same]; rfl
    generalize (upd (upd (upd (upd H sA (.lst [])) iA (.lst [])) eA (.st (fun _ => false) 0)) nA (.dct [] 0)) = H1 at hF0
    refine' s_for (k := .keys d.nd ep0) (xs := (d.ks.map fun y => (nm y, Value.ref (d.info y))).map fun e => Value.str e.1 0) (fun i H' L' => (∃ sn, FAt nm d sA iA eA nA H H' [] sn) ∧ ∃ c, L' = [some (.ref d.x), some (.ref d.nd), some (.ref sA), some (.ref iA), some (.ref eA), some (.ref nA), c]) (.keys (hF0.sub _ _ hnd0)) ⟨⟨[], hF0⟩, none, rfl⟩ ?_
    intro i H' L' rr52
    refine by_ng fun ng => ?_
    obtain ⟨⟨sn, hF⟩, c, rfl⟩ := rr52
    refine ng ?_
    clear ng
    refine ⟨.keys (hF.sub _ _ hnd0), fun e => ?_, fun z e QN hN hC => ?_⟩
    · walk_at "st"
      exact ⟨H, hF.sub, hq⟩
    obtain ⟨y, hy, rfl⟩ : ∃ y, y ∈ d.ks ∧ z = .str (nm y) 0 := by
      refine by_ng fun ng => ?_
      obtain ⟨a, ha, rfl⟩ := List.mem_map.mp (List.mem_of_getElem? e)
      obtain ⟨y, hy, rfl⟩ := List.mem_map.mp ha
      refine ng ?_
      clear ng
      exact ⟨y, hy, rfl⟩
    refine by_ng fun ng => ?_
    obtain ⟨S, n, eS, hn1, hS1⟩ := hF.he
    refine ng ?_
    clear ng
    walk_at "st"
    refine' s_inS eS (hS1 y (hS.lt y hy)) ?_
    walk_at "st"
    by_cases hys : y ∈ sn
    · refine' s_if_t (by simpa using hys) ?_
      walk_at "st"
      exact hC _ _ ⟨⟨sn, hF⟩, _, rfl⟩
    refine' s_if_f (by simpa using hys) ?_
    walk_at "st"
    refine' s_while (fun m H' L' => ∃ y fs sn, y = m ∧ y ∈ d.ks ∧ FAt nm d sA iA eA nA H H' fs sn ∧ (∀ f ∈ fs, y < f.y ∧ f.k = (d.suc f.y).length) ∧ L' = [some (.ref d.x), some (.ref d.nd), some (.ref sA), some (.ref iA), some (.ref eA), some (.ref nA), some (.str (nm y) 0)]) ⟨y, y, [], sn, rfl, hy, hF, (fun _ q => by cases q), rfl⟩ ?_
    clear hys hS1 hn1 eS hF hy e
    intro m H' L' rr53 QN2 hN2 hC2 hB2 hR2
    refine by_ng fun ng => ?_
    obtain ⟨y, fs, sn, rfl, hy, hF, hex, rfl⟩ := rr53
    refine ng ?_
    clear ng
    walk_at "st"
    refine' s_if_t rfl ?_
    refine' s_seqI (fun H' L' => ∃ fs sn, FAt nm d sA iA eA nA H H' fs sn ∧ (∀ f ∈ fs, (y < f.y ∧ f.k = (d.suc f.y).length) ∨ (f.y = y ∧ f.k = 0)) ∧ L' = [some (.ref d.x), some (.ref d.nd), some (.ref sA), some (.ref iA), some (.ref eA), some (.ref nA), some (.str (nm y) 0)]) ?_ fun Q' hQ' => ?_
    · clear hex hF
      intro H' L' rr54
      refine by_ng fun ng => ?_
      obtain ⟨fs, sn, hF, hI, rfl⟩ := rr54
      refine ng ?_
      clear ng
      walk_at "st"
      refine' s_while (fun n H' L' => ∃ fs sn, fs.length = n ∧ FAt nm d sA iA eA nA H H' fs sn ∧ (∀ f ∈ fs, (y < f.y ∧ f.k = (d.suc f.y).length) ∨ (f.y = y ∧ f.k = 0)) ∧ L' = [some (.ref d.x), some (.ref d.nd), some (.ref sA), some (.ref iA), some (.ref eA), some (.ref nA), some (.str (nm y) 0)]) ⟨fs.length, fs, sn, rfl, hF, hI, rfl⟩ ?_
      clear hI hF
      intro n H' L' rr55 QN3 hN3 hC3 hB3 hR3
      refine by_ng fun ng => ?_
      obtain ⟨fs, sn, rfl, hF, hI, rfl⟩ := rr55
      refine ng ?_
      clear ng
      have hlen : fs.length ≤ 10 := by
        have h1 := nodup_len 10 (fs.map (·.y)) (by
          rw [List.nodup_iff_pairwise_ne, List.pairwise_map]
          exact hF.srt.imp fun h => by (first | lia | omega)) (fun x hx => by obtain ⟨f, hf, rfl⟩ := List.mem_map.mp hx; exact hS.lt _ (hF.yk f hf))
        simpa using h1
      walk_at "st"
      rcases List.eq_nil_or_concat fs with rfl | ⟨gs, f, rfl⟩
      · refine' s_tl hF.hs (by show 0 < _; decide) (c := false) rfl ?_
        refine' s_if_f rfl ?_
        walk_at "st"
        exact hB2 _ _ (hN _ _ ⟨⟨sn, hF⟩, _, rfl⟩)
      rw [List.concat_eq_append] at hF hI hlen hN3 hC3
      have hfm : f ∈ gs ++ [f] := by simp
      obtain ⟨hu, hit, h0⟩ := hF.hf f hfm
      have hfk := hF.yk f hfm
      have hlen2 : (vS (ysOf nm (gs ++ [f]))).length = gs.length + 1 := by rw [vS_len]; simp [ysOf]
      have hlen3 : (usOf (gs ++ [f])).length = gs.length + 1 := by simp [usOf]
      have hlen4 : gs.length + 1 ≤ 10 := by simpa using hlen
      have hsl := hF.sub _ _ (hS.hi f.y hfk).2.2
      refine' s_tl hF.hs (by rw [hlen2]; (first | lia | omega)) (c := true) (by simp [vS, ysOf]) ?_
      refine' s_if_t rfl ?_
      walk_at "st"
      refine' s_list (v := .ref f.u) hF.hi (by unfold fits; decide) (by unfold usOf; rw [List.map_append]; exact at_last _ _) ?_
      cases hz : (vS ((d.suc f.y).map nm))[f.k]? with
      | some v =>
        obtain ⟨z, hz', rfl⟩ := vS_at hz
        have hzm := List.mem_of_getElem? hz'
        obtain ⟨hzk, hzy⟩ := (hsu f.y hfk).2 z hzm
        have hkl : f.k < (d.suc f.y).length := (List.getElem?_eq_some_iff.mp hz').1
        have hfy : f.y = y ∧ f.k = 0 := (hI f hfm).resolve_left fun q => by (first | lia | omega)
        have hl1 := (hsu f.y hfk).1
        have hp := hF.srt
        rw [List.pairwise_append] at hp
        refine' s_tryS hu hit hsl hz ?_
        walk_at "st"
        refine hB3 _ _ ?_
        refine hN2 _ _ ⟨z, by (first | lia | omega), z, _, sn, rfl, hzk, hF.adv rfl, fun g hg => ?_, rfl⟩
        rcases List.mem_append.mp hg with q | q
        · have h1 := hp.2.2 g q f (by simp)
          rcases hI g (List.mem_append_left _ q) with w | w
          · exact ⟨by (first | lia | omega), w.2⟩
          · (first | lia | omega)
        · rw [List.mem_singleton] at q; subst q
          exact ⟨by show z < f.y; exact hzy, by show f.k + 1 = (d.suc f.y).length; (first | lia | omega)⟩
      | none =>
        refine by_ng fun ng => ?_
        obtain ⟨es, ep, en, hk⟩ := hF.hn
        refine ng ?_
        clear ng
        refine' s_tryE hu hit hsl hz ?_
        walk_at "st"
        have d1 : del H' f.it sA = some (.lst (vS (ysOf nm gs) ++ [.str (nm f.y) 0])) := (del_ne _ (hF.it_ne hfm hF.hs (fun _ _ q => by cases q))).trans (hF.hs.trans (by simp [ysOf, vS]))
        have d2 : del H' f.it nA = some (.dct es ep) := (del_ne _ (hF.it_ne hfm en (fun _ _ q => by cases q))).trans en
        have d3 : del H' f.it iA = some (.lst (usOf gs ++ [.ref f.u])) := (del_ne _ (hF.it_ne hfm hF.hi (fun _ _ q => by cases q))).trans (hF.hi.trans (by simp [usOf]))
        refine by_ng fun ng => ?_
        obtain ⟨m1, m2, m3, m4, m5⟩ := hF.ne
        refine ng ?_
        clear ng
        refine' s_meth_l d1 ?_
        refine' s_pop d1 (by have : (vS (ysOf nm gs)).length = gs.length := by rw [vS_len]; simp [ysOf]
                             (first | lia | omega)) ?_
        refine' s_del (x := nm f.y) ((upd_ne _ _ (Ne.symm m2)).trans d2) ?_ (look_some (by rw [hk]; simp [ysOf])) fun ep' => ?_
        · have := congrArg List.length hk
          simp only [List.length_map, ysOf] at this
          (first | lia | omega)
        walk_at "st"
        refine' s_meth_l ((upd_ne _ _ m4).trans ((upd_ne _ _ (Ne.symm hF.si)).trans d3)) ?_
        refine' s_pop ((upd_ne _ _ m4).trans ((upd_ne _ _ (Ne.symm hF.si)).trans d3)) (by have : (usOf gs).length = gs.length := by simp [usOf]
                                                                                          (first | lia | omega)) ?_
        walk_at "st"
        exact hN3 _ _ ⟨gs.length, by simp, gs, sn, rfl, hF.pop hS.nmi hS.lt rfl en, fun g hg => hI g (List.mem_append_left _ hg), rfl⟩
    · refine by_ng fun ng => ?_
      obtain ⟨S, n, eS, hn1, hS1⟩ := hF.he
      obtain ⟨es, ep, en, hk⟩ := hF.hn
      obtain ⟨m1, m2, m3, m4, m5⟩ := hF.ne
      refine ng ?_
      clear ng
      have hy10 := hS.lt y hy
      have hnk : nm y ∉ es.map (·.1) := by
        rw [hk]
        intro q
        refine by_ng fun ng => ?_
        obtain ⟨y', hy', e⟩ := List.mem_map.mp q
        obtain ⟨f, hf, rfl⟩ := List.mem_map.mp hy'
        refine ng ?_
        clear ng
        have := hS.nmi f.y y (hS.lt _ (hF.yk f hf)) hy10 e
        have := (hex f hf).1
        (first | lia | omega)
      walk_at "st"
      refine' s_inS eS (hS1 y hy10) ?_
      walk_at "st"
      by_cases hys : y ∈ sn
      · refine' s_if_t (by simpa using hys) ?_
        walk_at "st"
        refine' s_in en ?_
        rw [look_none hnk]
        walk_at "st"
        refine' s_if_f rfl ?_
        walk_at "st"
        exact hQ' _ _ ⟨fs, sn, hF, fun f hf => .inl (hex f hf), rfl⟩
      · have hlen : fs.length ≤ 10 := by
          have h1 := nodup_len 10 (fs.map (·.y)) (by
            rw [List.nodup_iff_pairwise_ne, List.pairwise_map]
            exact hF.srt.imp fun h => by (first | lia | omega)) (fun x hx => by obtain ⟨f, hf, rfl⟩ := List.mem_map.mp hx; exact hS.lt _ (hF.yk f hf))
          simpa using h1
        have hlen2 : (vS (ysOf nm fs)).length = fs.length := by rw [vS_len]; simp [ysOf]
        have hlen3 : (usOf fs).length = fs.length := by simp [usOf]
        have hlen4 : es.length = fs.length := by
          have := congrArg List.length hk
          simpa [ysOf] using this
        have hsn : sn.length ≤ 10 := nodup_len 10 sn hF.sno fun z hz => hS.lt z (hF.snk z hz)
        refine' s_if_f (by simpa using hys) ?_
        walk_at "st"
        refine' s_meth_t eS ?_
        walk_at "st"
        refine' s_sadd eS (by (first | lia | omega)) fun n' hn' => ?_
        walk_at "st"
        have i1 := (upd_ne H' (.st (fun k => S k || decide (k = nm y)) n') m3).trans hF.hi
        have i2 := (upd_ne H' (.st (fun k => S k || decide (k = nm y)) n') m1).trans hF.hs
        have i3 := (upd_ne H' (.st (fun k => S k || decide (k = nm y)) n') (Ne.symm m5)).trans en
        have iS := hS.up (hF.sub.upd (ho := .st (fun k => S k || decide (k = nm y)) n') hF.fe)
        refine' s_meth_l i1 ?_
        walk_at "st"
        refine' s_itemNd (y := y) iS hy ?_
        refine' s_getS (iS.hi y hy).1 (iS.hi y hy).2.1 (a := .ref (d.sl y)) rfl rfl ?_
        refine' s_iter (iS.hi y hy).2.2 fun it hit => ?_
        refine' s_getN (upd_same _ _ _) fun u hu => ?_
        refine by_ng fun ng => ?_
        obtain ⟨hit1, hit2⟩ := none_upd hit
        obtain ⟨hu1, hu2⟩ := none_upd hu
        obtain ⟨hu3, hu4⟩ := none_upd hu1
        refine ng ?_
        clear ng
        have look : ∀ (a : Addr) (ho : HO), H' a = some ho → a ≠ it ∧ a ≠ u := fun a ho e => ⟨fun z => by (rw [z, hit1] at e; cases e), fun z => by (rw [z, hu3] at e; cases e)⟩
        refine by_ng fun ng => ?_
        obtain ⟨l1, l2⟩ := look _ _ hF.hi
        obtain ⟨l3, l4⟩ := look _ _ hF.hs
        obtain ⟨l5, l6⟩ := look _ _ en
        refine ng ?_
        clear ng
        refine' s_append ((upd_ne _ _ l2).trans ((upd_ne _ _ l1).trans i1)) (by (first | lia | omega)) ?_
        walk_at "st"
        have j2 := (upd_ne _ (.lst (usOf fs ++ [.ref u])) hF.si).trans ((upd_ne _ (.raw (nxtObj it)) l4).trans ((upd_ne _ (.lit (d.sl y) 0) l3).trans i2))
        refine' s_len_l j2 (by (first | lia | omega)) ?_
        walk_at "st"
        refine' s_setd ((upd_ne _ _ (Ne.symm m4)).trans ((upd_ne _ _ l6).trans ((upd_ne _ _ l5).trans i3))) (by (first | lia | omega)) fun ep' => ?_
        walk_at "st"
        have j3 := fun w => (upd_ne _ (HO.dct (putE es (nm y) w) ep') m2).trans j2
        refine' s_meth_l (j3 _) ?_
        walk_at "st"
        refine' s_append (j3 _) (by (first | lia | omega)) ?_
        walk_at "st"
        obtain ⟨q1, q2⟩ := look _ _ eS
        refine hQ' _ _ ⟨_, _, hF.push hy hys (fun f hf => (hex f hf).1) (u := u) (it := it) (ep' := ep') (S' := fun k => S k || decide (k = nm y)) (fun a ho e a1 a2 a3 a4 => ?_) (upd_same _ _ _) ?_ ?_ (Nat.le_trans hn' (by (first | lia | omega))) (fun z hz => ?_) ?_ ((putE_keys (v := .int (fs.length : Int) 0) hnk).trans (by rw [hk])) ?_ ?_ hit1, fun f hf => ?_, rfl⟩
        · obtain ⟨p1, p2⟩ := look _ _ e
          rw [upd_ne _ _ a4, upd_ne _ _ a3, upd_ne _ _ a2, upd_ne _ _ p2, upd_ne _ _ p1, upd_ne _ _ a1]; exact e
        · rw [upd_ne _ _ (Ne.symm hF.si), upd_ne _ _ m4, upd_same]
        · rw [upd_ne _ _ (Ne.symm m1), upd_ne _ _ m5, upd_ne _ _ (Ne.symm m3), upd_ne _ _ q2, upd_ne _ _ q1, upd_same]
        · rw [hS1 z hz]
          have : decide (nm z = nm y) = decide (z = y) := by
            by_cases w : z = y
            · simp [w]
            · have hw : ¬ nm z = nm y := fun e => w (hS.nmi z y hz hy10 e)
              rw [decide_eq_false w, decide_eq_false hw]
          rw [this]
          simp [Bool.or_comm]
        · rw [upd_ne _ _ (Ne.symm m2), upd_same, hlen2]
        · rw [upd_ne _ _ (Ne.symm l4), upd_ne _ _ (Ne.symm l6), upd_ne _ _ (Ne.symm l2), upd_same]
        · rw [upd_ne _ _ (Ne.symm l3), upd_ne _ _ (Ne.symm l5), upd_ne _ _ (Ne.symm l1), upd_ne _ _ (Ne.symm hu2), upd_same]
        · rcases List.mem_append.mp hf with q | q
          · exact .inl (hex f q)
          · rw [List.mem_singleton] at q; subst q; exact .inr ⟨rfl, rfl⟩



structure FnR (B : Heap) (n : Nat) (f : Addr) (cw : BW) : Prop where
  at_ : ∃ o fd, B.get? f = some o ∧ o.data = .func fd
  ok : FnF B true n f cw
theorem FnR.callee {B : Heap} {n : Nat} {f : Addr} {cw : BW} (h : FnR B n f cw) {P : Heap} (le : HLe B P) : CalleeOk P (.ref f) := let ⟨o, fd, a, b⟩ := h.at_; .inr (.inr ⟨f, o, fd, rfl, le _ _ a, b⟩)
noncomputable def T12_3  : List (Str × NK) := [(Str.ofString "self", NK.slot 0 false), (Str.ofString "cycle", NK.slot 1 false)]
noncomputable def G12_3  : List (Str × Value) := []
theorem tab12_3  : fnT (MS 12 3) (G12_3 ) = T12_3  := by kernel_rfl
theorem chk12_3 : scOk (MS 12 3) [Str.ofString "self"] = true := by decide +kernel
theorem bind12_3 {fd : FuncData} (hp : fd.params = MP 12 3) (hd : fd.defaults = .none) (hk : fd.kwdefaults = .none) (vs : List Value) (hl : vs.length = 1) : bindArgs fd ⟨vs, []⟩ = pure ([Str.ofString "self"].zip vs) := by
  refine by_ng fun ng => ?_
  obtain ⟨a0, rfl⟩ := len1 hl
  obtain ⟨n, q, p, bd, sc, g, cl, df, kd, doc, pm, an, cd, ct, bu⟩ := fd
  refine ng ?_
  clear ng
  subst hp; subst hd; subst hk
  kernel_rfl
theorem ini12_3 (a0 : Value) : iniOf (MS 12 3) ([Str.ofString "self"].zip [a0]) = [some a0, none] := by kernel_rfl

noncomputable def prepD (d : SD) (a : Addr) : SD := { d with rd := some (a, d.ks.filter fun y => decide (d.np y = 0)) }
inductive prepB (TS NI : Addr) (x : Addr) (Q : Value → HA → Ls → Prop) (H : HA) (L : Ls) : Prop
  | mk (nm : _) (Hb : _) (d : _) (k1 : Srt TS NI nm Hb H d) (k2 : d.x = x) (k3 : d.rd = none) (k4 : (∀ y ∈ d.ks, (d.suc y).length ≤ 1 ∧ ∀ z ∈ d.suc y, z ∈ d.ks ∧ z < y)) (k5 : ∀ H' a, Srt TS NI nm Hb H' (prepD d a) → Q .none H' L) : prepB TS NI x Q H L
noncomputable def prepW (TS NI : Addr) : BW := fun vs Q H L => mR (fun x => mN (prepB TS NI x Q H L)) vs
theorem prep_walk {B : Heap} (hB : Bas B) {n : Nat}  (K : Frag) (X : K.In B) {pn pp ps : Addr} (A : AttrsIn K TS NI pn pp ps) {fC : Addr} (MC : MethIn K TS (Str.ofString "_find_cycle") fC) (hC : FnR B n fC (fcW TS NI)) {f : Addr} {fd : FuncData} (Fi : FnIn B f fd (MB 12 3)) (hsc : fd.scope = MS 12 3) (hp : fd.params = MP 12 3) (hg : ∀ g ∈ G12_3 , GlobOk B fd.globals fd.builtins g.1 g.2) : FnK B true (n + 1) f (prepW TS NI) := by
  have main := fn_okK (n := n) (fr := true) hB Fi.toFnIn0 (by rw [hsc]; exact chk12_3) (fun _ => by rw [hsc]; decide +kernel) hg (fun C _ vs => bind_args (bind12_3 hp Fi.dfl Fi.kwd) C vs) (fun C env le room V len0 hF =>
    have lenC : C.locs.length = 2 := len0.trans (by rw [hsc]; kernel_rfl)
    have V : EnvOk C (T12_3 ) env := tab_eq (hsc ▸ tab12_3 ) V
    have S := hB.stat le room
    have hh := room.handled
    (S_cons (S_if (T_cmp S (E_attr (E_name V (.head _)) (getD_ok (X.keeps le) A.A1)) (E_const _ _ _)) S_wall S_nil) (S_cons (S_assign (E_compN (sc := ⟨ScopeKind.function, [(Str.ofString ".0", NameKind.local), (Str.ofString "i", NameKind.local)], false, false, []⟩) lenC hh S V (by kernel_rfl) (E_meth (E_attr (E_name V (.head _)) (getD_ok (X.keeps le) A.A0)) F.plainAttrs_dict F.slot_dict_values F.type_dict_values E_nil (b_values S)) (fun C1 env1 hA1 hP1 W1 len1 => have V1 : EnvOk C1 [(Str.ofString ".0", NK.slot 2 false), (Str.ofString "i", NK.slot 3 false)] env1 := tab_eq (by rw [lenC]; kernel_rfl) W1; have L1 : C1.locs.length = 5 := len1.trans (by rw [lenC]; kernel_rfl); have S1 := S.sub hA1 hP1; have hh1 : C1.A.handled = none := (by rw [hA1]; exact hh); have le1 := le.trans hP1; have room1 : Room C1.A n := (by rw [hA1]; exact room); ⟨(A_name V1 (.tail _ (.head _))), (C_one (T_cmp S1 (E_attr (E_name V1 (.tail _ (.head _))) (getS_ok (X.keeps le1) A.A5)) (E_const _ _ _))), (E_attr (E_name V1 (.tail _ (.head _))) (getS_ok (X.keeps le1) A.A4))⟩)) (A_cons (A_attr (E_name V (.head _)) (setD_ok (X.keeps le) A.A1)) A_nil)) (S_cons (S_assign (E_imeth (X.keeps le) MC (hC.callee le) (E_name V (.head _)) E_nil (hC.ok _ le room (fun _ => (hF rfl).1))) (A_cons (A_name V (.tail _ (.head _))) A_nil)) (S_cons (S_if (T_val (E_name V (.tail _ (.head _)))) S_wall S_nil) S_nil)))))
  refine main.spec ?_
  clear main
  rw [hsc]
  intro vs Q H L h
  refine by_ng fun ng => ?_
  obtain ⟨x, r0, rfl, hq0⟩ := mR_inv h
  obtain ⟨rfl, hq1⟩ := mN_inv hq0
  refine ng ?_
  clear ng
  replace h := hq1
  · skip
    refine by_ng fun ng => ?_
    obtain ⟨nm, Hb, d, hS, rfl, hrd, hsu, hq⟩ := h
    refine ng ?_
    clear ng
    refine ⟨rfl, ?_⟩
    refine' s_start (ini12_3 _) ?_
    walk_at "st"
    refine' s_getD hS.hx hS.hdx (a := .none) (by unfold tsEs; rw [hrd]; rfl) rfl ?_
    walk_at "st"
    refine' s_if_f rfl ?_
    walk_at "st"
    refine' s_getD hS.hx hS.hdx (a := .ref d.nd) (by unfold tsEs; rfl) rfl ?_
    obtain ⟨ep, hnd⟩ := hS.hnd
    refine' s_meth_d hnd ?_
    refine' ⟨_, ep, hnd, fun v hv => ?_⟩
    have hS1 := hS.up ((HSub.refl H).upd (ho := .vals d.nd) hv)
    have hv1 := upd_same H v (.vals d.nd)
    have hnd1 := (HSub.refl H).upd (ho := .vals d.nd) hv _ _ hnd
    generalize upd H v (.vals d.nd) = H1 at hS1 hv1 hnd1
    have hl := hS1.len
    refine' s_compf (k := .vals d.nd ep) (xs := (d.ks.map fun y => (nm y, Value.ref (d.info y))).map (·.2)) (fun j => vS (((d.ks.take j).filter fun y => decide (d.np y = 0)).map nm)) (.vals hv1 hnd1) (by rw [List.length_map, List.length_map]; (first | lia | omega)) rfl (by simp [vS]) ?_ ?_
    · intro j x ej R hR
      rw [List.map_map, List.getElem?_map] at ej
      obtain ⟨y, hy, rfl⟩ := Option.map_eq_some_iff.mp ej
      have hyk := List.mem_of_getElem? hy
      show storeW (NK.slot 3 false) (.ref (d.info y)) _ _ _
      walk_at "st"
      refine' s_getS (hS1.hi y hyk).1 (hS1.hi y hyk).2.1 (a := .int (d.np y) 0) rfl rfl ?_
      walk_at "st"
      by_cases hz : d.np y = 0
      · refine' s_if_t (by rw [hz]; rfl) ?_
        walk_at "st"
        refine' s_getS (hS1.hi y hyk).1 (hS1.hi y hyk).2.1 (a := .str (nm y) 0) rfl rfl ?_
        refine' hR _ _ rfl ?_
        rw [take_snoc hy, List.filter_append]
        simp [vS, hz]
      · refine' s_if_f (by rw [beq_eq_false_iff_ne]; exact hz) ?_
        refine' hR _ _ rfl ?_
        rw [take_snoc hy, List.filter_append]
        simp [hz]
    intro c hc
    have hlk : ((d.ks.map fun y => (nm y, Value.ref (d.info y))).map (·.2)).length = d.ks.length := by simp
    rw [hlk, List.take_length]
    have hS2 := hS1.up ((HSub.refl H1).upd (ho := .lst (vS ((d.ks.filter fun y => decide (d.np y = 0)).map nm))) hc)
    have hc2 := upd_same H1 c (.lst (vS ((d.ks.filter fun y => decide (d.np y = 0)).map nm)))
    have hbc : Hb c = none := hS1.sub.none hc
    have hsc2 : ∀ y ∈ d.ks, d.sl y ≠ c := fun y hy z => by
      have := (hS1.hi y hy).2.2
      rw [z, hc] at this; cases this
    generalize upd H1 c (.lst (vS ((d.ks.filter fun y => decide (d.np y = 0)).map nm))) = H2 at hS2 hc2
    walk_at "st"
    refine' s_setD hS2.hx hS2.hdx (by show (4 : Nat) ≤ 100; decide) (es' := tsEs (prepD d c)) rfl ?_
    have hS3 := hS2.setDx (prepD d c) rfl (fun p q e => by
      have e' : some (c, d.ks.filter fun y => decide (d.np y = 0)) = some (p, q) := e
      cases e'
      exact ⟨hc2, hbc, hsc2⟩)
    generalize upd H2 d.dx (.ns (tsEs (prepD d c))) = H3 at hS3
    walk_at "st"
    refine' s_imeth (x := d.x) hS3.hx hS3.hdx (by rfl) ?_
    refine ⟨nm, Hb, prepD d c, hS3, rfl, hsu, ?_⟩
    walk_at "st"
    refine' s_if_f rfl ?_
    walk_at "st"
    exact ⟨_, HSub.refl _, hq _ c hS3⟩



/-! the order: the plain part -/
noncomputable def cntO (ps : List Nat) (par : Nat → Nat) (E : List Nat) (z : Nat) : Nat := (ps.filter fun x => decide (par x = z ∧ x ∉ E)).length
theorem cntO_not {par : Nat → Nat} {E : List Nat} {y z : Nat} : ∀ {ps : List Nat}, y ∉ ps → cntO ps par (E ++ [y]) z = cntO ps par E z := by
  intro ps hy
  unfold cntO
  congr 1
  refine List.filter_congr fun x hx => ?_
  have : x ≠ y := fun q => hy (q ▸ hx)
  simp [this]
theorem cntO_snoc {par : Nat → Nat} {E : List Nat} {y z : Nat} : ∀ {ps : List Nat}, ps.Nodup → y ∈ ps → y ∉ E → cntO ps par (E ++ [y]) z + (if par y = z then 1 else 0) = cntO ps par E z
  | [], _, h, _ => nomatch h
  | a :: r, nd, h, hE => by
    rw [List.nodup_cons] at nd
    by_cases q : a = y
    · subst q
      have h1 : cntO r par (E ++ [a]) z = cntO r par E z := cntO_not nd.1
      unfold cntO at h1 ⊢
      rw [List.filter_cons, List.filter_cons, if_neg (by simp)]
      by_cases w : par a = z
      · rw [if_pos w, if_pos (by simp [w, hE]), List.length_cons, h1]
      · rw [if_neg w, if_neg (by simp [w]), h1]; rfl
    · have h1 := cntO_snoc (par := par) (E := E) (z := z) nd.2 ((List.mem_cons.mp h).resolve_left (Ne.symm q)) hE
      unfold cntO at h1 ⊢
      rw [List.filter_cons, List.filter_cons]
      have e : decide (par a = z ∧ a ∉ E ++ [y]) = decide (par a = z ∧ a ∉ E) := by simp [q]
      rw [e]
      split
      · rw [List.length_cons, List.length_cons]; (first | lia | omega)
      · exact h1
theorem cntO_zero {ps : List Nat} {par : Nat → Nat} {E : List Nat} {z : Nat} (h : cntO ps par E z = 0) {x : Nat} (hx : x ∈ ps) (hp : par x = z) : x ∈ E := by
  unfold cntO at h
  have h1 := List.eq_nil_of_length_eq_zero h
  rw [List.filter_eq_nil_iff] at h1
  have := h1 x hx
  simp only [decide_eq_true_iff, not_and] at this
  exact Classical.byContradiction fun q => this hp q
theorem cntO_pos {ps : List Nat} {par : Nat → Nat} {E : List Nat} {z x : Nat} (hx : x ∈ ps) (hp : par x = z) (hE : x ∉ E) : 0 < cntO ps par E z :=
  Nat.pos_of_ne_zero fun h => hE (cntO_zero h hx hp)
structure AddSt (par : Nat → Nat) (d : SD) (qs : List Nat) : Prop where
  rd : d.rd = none
  po : d.po = 0
  nf : d.nf = 0
  ks : ∀ y, y ∈ d.ks ↔ ∃ x ∈ qs, y = x ∨ y = par x
  np : ∀ y, d.np y = (cntO qs par [] y : Int)
  suc : ∀ y, d.suc y = if y ∈ qs then [par y] else []
theorem AddSt.add {par : Nat → Nat} {d d' : SD} {qs : List Nat} {x : Nat} (h : AddSt par d qs) (hx : x ∉ qs) (r : AddR d d' (par x) x) : AddSt par d' (qs ++ [x]) := by
  refine ⟨r.rd.trans h.rd, r.po.trans h.po, r.nf.trans h.nf, fun y => ?_, fun y => ?_, fun y => ?_⟩
  · rw [r.ks, addk_mem, addk_mem, h.ks]
    constructor
    · rintro ((⟨z, hz, e⟩ | e) | e)
      · exact ⟨z, List.mem_append_left _ hz, e⟩
      · exact ⟨x, by simp, .inr e⟩
      · exact ⟨x, by simp, .inl e⟩
    · intro rr56
      obtain ⟨z, hz, e⟩ := rr56
      rcases List.mem_append.mp hz with q | q
      · exact .inl (.inl ⟨z, q, e⟩)
      · rw [List.mem_singleton] at q; subst q
        rcases e with e | e
        · exact .inr e
        · exact .inl (.inr e)
  · rw [r.np]
    have e : cntO (qs ++ [x]) par [] y = cntO qs par [] y + (if par x = y then 1 else 0) := by
      unfold cntO
      rw [List.filter_append, List.length_append]
      by_cases q : par x = y <;> simp [q]
    rw [e]
    by_cases q : y = par x
    · subst q; rw [setAt_same, if_pos rfl, h.np]; rfl
    · rw [setAt_ne _ _ q, if_neg (Ne.symm q), h.np]; rfl
  · rw [r.suc]
    by_cases q : y = x
    · subst q; rw [setAt_same, h.suc, if_neg hx, if_pos (by simp)]; rfl
    · rw [setAt_ne _ _ q, h.suc]; simp [q]
/-- the sorter ahead of a turn -/
structure LSt (par : Nat → Nat) (ps : List Nat) (d : SD) (a : Addr) (l od : List Nat) : Prop where
  rd : d.rd = some (a, l)
  po : d.po = (od.length : Int)
  nf : d.nf = (od.length : Int)
  ks : ∀ y, y ∈ d.ks ↔ ∃ x ∈ ps, y = x ∨ y = par x
  suc : ∀ y, d.suc y = if y ∈ ps then [par y] else []
  lnd : l.Nodup
  lm : ∀ y, y ∈ l ↔ y ∈ d.ks ∧ y ∉ od ∧ d.np y = 0
  ond : od.Nodup
  om : ∀ y ∈ od, y ∈ d.ks
  np : ∀ y ∈ d.ks, y ∉ od → d.np y = (cntO ps par od y : Int)
  ord : ∀ i y, od[i]? = some y → ∀ x ∈ ps, par x = y → x ∈ od.take i
theorem AddSt.prep {par : Nat → Nat} {d : SD} {ps : List Nat} (h : AddSt par d ps) (hn : d.ks.Nodup) (a : Addr) : LSt par ps (prepD d a) a (d.ks.filter fun y => decide (d.np y = 0)) [] :=
  ⟨rfl, h.po, h.nf, h.ks, h.suc, hn.filter _, fun y => by rw [List.mem_filter, decide_eq_true_iff]; exact ⟨fun q => ⟨q.1, List.not_mem_nil, q.2⟩, fun q => ⟨q.1, q.2.2⟩⟩, List.nodup_nil, fun y hy => absurd hy List.not_mem_nil, fun y _ _ => h.np y, fun i y e => by simp at e⟩
structure DSt (par : Nat → Nat) (ps ks l od m : List Nat) (st : (Nat → Int) × List Nat) : Prop where
  m1 : ∀ z ∈ l, z ∉ m → st.1 z = -1
  cn : ∀ z ∈ ks, z ∉ od → z ∉ l → st.1 z = (cntO ps par (od ++ m) z : Int)
  nd : st.2.Nodup
  mm : ∀ z, z ∈ st.2 ↔ z ∈ ks ∧ z ∉ od ∧ z ∉ l ∧ st.1 z = 0
section
variable {par : Nat → Nat} {ps : List Nat} {d : SD} {a : Addr} {l od : List Nat}
theorem LSt.start (h : LSt par ps d a l od) : DSt par ps d.ks l od [] (outNp d.np l, []) := by
  refine ⟨fun z hz _ => if_pos hz, fun z h1 h2 h3 => ?_, List.nodup_nil, fun z => ⟨fun q => absurd q List.not_mem_nil, fun ⟨h1, h2, h3, h4⟩ => ?_⟩⟩
  · show (if z ∈ l then _ else _) = _
    rw [if_neg h3, h.np z h1 h2, List.append_nil]
  · have : d.np z = 0 := by
      have e : (if z ∈ l then (-1 : Int) else d.np z) = 0 := h4
      rwa [if_neg h3] at e
    exact absurd ((h.lm z).mpr ⟨h1, h2, this⟩) h3
theorem LSt.turn (h : LSt par ps d a l od) (lt : ∀ x ∈ ps, par x < x) (pn : ps.Nodup) {m : List Nat} {y : Nat} (hy : y ∈ l) (hm : y ∉ m) {st : (Nat → Int) × List Nat} (D : DSt par ps d.ks l od m st) : DSt par ps d.ks l od (m ++ [y]) (dstep d.suc st y) := by
  obtain ⟨yk, yo, y0⟩ := (h.lm y).mp hy
  unfold dstep
  rw [h.suc y]
  by_cases hp : y ∈ ps
  · rw [if_pos hp]
    show DSt par ps d.ks l od (m ++ [y]) (sstep (setAt st.1 y (-2), st.2) (par y))
    have sk : par y ∈ d.ks := (h.ks _).mpr ⟨y, hp, .inr rfl⟩
    have so : par y ∉ od := fun q => by
      obtain ⟨i, hi⟩ := List.getElem?_of_mem q
      exact yo (List.mem_of_mem_take (h.ord i _ hi y hp rfl))
    have sl : par y ∉ l := fun q => by
      have h1 := ((h.lm _).mp q).2.2
      rw [h.np _ sk so] at h1
      have := cntO_pos (par := par) hp rfl yo
      (first | lia | omega)
    have ne : par y ≠ y := by have := lt y hp; (first | lia | omega)
    have yom : y ∉ od ++ m := fun q => (List.mem_append.mp q).elim yo hm
    have ev := D.cn _ sk so sl
    have e1 := cntO_snoc (par := par) (z := par y) pn hp yom
    rw [if_pos rfl] at e1
    have val : ∀ z, z ≠ y → (sstep (setAt st.1 y (-2), st.2) (par y)).1 z = if z = par y then st.1 (par y) - 1 else st.1 z := fun z hz => by
      show setAt (setAt st.1 y (-2)) (par y) (setAt st.1 y (-2) (par y) - 1) z = _
      by_cases q : z = par y
      · rw [q, setAt_same, setAt_ne _ _ ne, if_pos rfl]
      · rw [setAt_ne _ _ q, setAt_ne _ _ hz, if_neg q]
    have lst : (sstep (setAt st.1 y (-2), st.2) (par y)).2 = if st.1 (par y) - 1 = 0 then st.2 ++ [par y] else st.2 := by
      show (if setAt st.1 y (-2) (par y) - 1 = 0 then _ else _) = _
      rw [setAt_ne _ _ ne]
    have sn : par y ∉ st.2 := fun q => by
      have := ((D.mm _).mp q).2.2.2
      (first | lia | omega)
    generalize sstep (setAt st.1 y (-2), st.2) (par y) = st' at val lst
    refine ⟨fun z hz hzm => ?_, fun z h1 h2 h3 => ?_, ?_, fun z => ?_⟩
    · have zy : z ≠ y := fun q => hzm (by simp [q])
      rw [val z zy, if_neg (show ¬ z = par y from fun q => sl (q ▸ hz))]
      exact D.m1 z hz fun q => hzm (List.mem_append_left _ q)
    · have zy : z ≠ y := fun q => h3 (q ▸ hy)
      rw [val z zy, ← List.append_assoc]
      by_cases q : z = par y
      · rw [if_pos q, q]; (first | lia | omega)
      · rw [if_neg q, D.cn z h1 h2 h3]
        have e2 := cntO_snoc (par := par) (z := z) pn hp yom
        rw [if_neg (Ne.symm q)] at e2
        (first | lia | omega)
    · rw [lst]
      split
      · rw [List.nodup_append]
        exact ⟨D.nd, by simp, fun u hu v hv e => by rw [List.mem_singleton] at hv; subst hv; exact sn (e ▸ hu)⟩
      · exact D.nd
    · by_cases zy : z = y
      · subst zy
        constructor
        · intro q
          rw [lst] at q
          split at q
          · rcases List.mem_append.mp q with q | q
            · exact absurd hy ((D.mm _).mp q).2.2.1
            · rw [List.mem_singleton] at q; exact absurd q.symm ne
          · exact absurd hy ((D.mm _).mp q).2.2.1
        · exact fun q => absurd hy q.2.2.1
      · rw [val z zy, lst]
        by_cases q : z = par y
        · subst q
          rw [if_pos rfl]
          by_cases w : st.1 (par y) - 1 = 0
          · rw [if_pos w]; simp [sk, so, sl, w]
          · rw [if_neg w]; simp [sn, w]
        · rw [if_neg q, ← D.mm z]
          split <;> simp [q]
  · rw [if_neg hp]
    show DSt par ps d.ks l od (m ++ [y]) (setAt st.1 y (-2), st.2)
    refine ⟨fun z hz hzm => ?_, fun z h1 h2 h3 => ?_, D.nd, fun z => ?_⟩
    · show setAt st.1 y (-2) z = -1
      rw [setAt_ne _ _ (show z ≠ y from fun q => hzm (by simp [q]))]
      exact D.m1 z hz fun q => hzm (List.mem_append_left _ q)
    · show setAt st.1 y (-2) z = _
      rw [setAt_ne _ _ (show z ≠ y from fun q => h3 (q ▸ hy)), D.cn z h1 h2 h3, ← List.append_assoc, cntO_not hp]
    · show z ∈ st.2 ↔ z ∈ d.ks ∧ z ∉ od ∧ z ∉ l ∧ setAt st.1 y (-2) z = 0
      by_cases zy : z = y
      · subst zy
        exact ⟨fun q => absurd hy ((D.mm _).mp q).2.2.1, fun q => absurd hy q.2.2.1⟩
      · rw [setAt_ne _ _ zy]; exact D.mm z
theorem LSt.turns (h : LSt par ps d a l od) (lt : ∀ x ∈ ps, par x < x) (pn : ps.Nodup) : ∀ i, i ≤ l.length → DSt par ps d.ks l od (l.take i) ((l.take i).foldl (dstep d.suc) (outNp d.np l, []))
  | 0, _ => h.start
  | i + 1, hi => by
    have ih := h.turns lt pn i (by (first | lia | omega))
    have e : l[i]? = some l[i] := List.getElem?_eq_getElem (by (first | lia | omega))
    rw [take_snoc e, List.foldl_append]
    refine h.turn lt pn (List.getElem_mem _) (fun q => ?_) ih
    obtain ⟨j, hj, e2⟩ := List.mem_take_iff_getElem.mp q
    have := (List.getElem_inj h.lnd).mp e2
    (first | lia | omega)
noncomputable def nextD (d : SD) (a : Addr) (l : List Nat) : SD := doneD (readyD d a l) a [] l
theorem LSt.next (h : LSt par ps d a l od) (lt : ∀ x ∈ ps, par x < x) (pn : ps.Nodup) : LSt par ps (nextD d a l) a (l.foldl (dstep d.suc) (outNp d.np l, [])).2 (od ++ l) := by
  have D := h.turns lt pn l.length (Nat.le_refl _)
  rw [List.take_length] at D
  have mem : ∀ z, z ∉ od ++ l ↔ z ∉ od ∧ z ∉ l := fun z => by simp
  refine ⟨rfl, ?_, ?_, h.ks, h.suc, D.nd, fun y => ?_, ?_, fun y hy => ?_, fun y hy ho => ?_, fun i y e x hx hp => ?_⟩
  · show d.po + (l.length : Int) = _
    rw [h.po, List.length_append]; (first | lia | omega)
  · show d.nf + (l.length : Int) = _
    rw [h.nf, List.length_append]; (first | lia | omega)
  · rw [D.mm, mem]
    exact ⟨fun ⟨p, q, r, s⟩ => ⟨p, ⟨q, r⟩, s⟩, fun ⟨p, ⟨q, r⟩, s⟩ => ⟨p, q, r, s⟩⟩
  · rw [List.nodup_append]
    exact ⟨h.ond, h.lnd, fun u hu v hv e => ((h.lm v).mp hv).2.1 (e ▸ hu)⟩
  · rcases List.mem_append.mp hy with q | q
    · exact h.om y q
    · exact ((h.lm y).mp q).1
  · rw [mem] at ho
    exact D.cn y hy ho.1 ho.2
  · by_cases q : i < od.length
    · rw [List.getElem?_append_left q] at e
      rw [List.take_append_of_le_length (by (first | lia | omega))]
      exact h.ord i y e x hx hp
    · rw [List.getElem?_append_right (by (first | lia | omega))] at e
      obtain ⟨yk, yo, y0⟩ := (h.lm y).mp (List.mem_of_getElem? e)
      rw [h.np y yk yo] at y0
      have h0 : cntO ps par od y = 0 := by (first | lia | omega)
      have := cntO_zero h0 hx hp
      rw [List.take_append, List.take_of_length_le (by (first | lia | omega))]
      exact List.mem_append_left _ this
theorem LSt.all (h : LSt par ps d a [] od) (lt : ∀ x ∈ ps, par x < x) (k10 : ∀ y ∈ d.ks, y < 10) : ∀ y ∈ d.ks, y ∈ od := by
  have key : ∀ n y, 10 ≤ y + n → y ∈ d.ks → y ∈ od := fun n => by
    induction n with
    | zero => intro y hn hy; have := k10 y hy; (first | lia | omega)
    | succ n ih =>
      intro y hn hy
      refine Classical.byContradiction fun q => ?_
      have h0 : cntO ps par od y = 0 := by
        refine Classical.byContradiction fun w => ?_
        unfold cntO at w
        obtain ⟨x, hx⟩ := List.exists_mem_of_length_pos (Nat.pos_of_ne_zero w)
        rw [List.mem_filter, decide_eq_true_iff] at hx
        have h1 := lt x hx.1
        refine hx.2.2 (ih x ?_ ((h.ks x).mpr ⟨x, hx.1, .inl rfl⟩))
        have := hx.2.1
        (first | lia | omega)
      have h1 := (h.lm y).mpr ⟨hy, q, by rw [h.np y hy q, h0]; rfl⟩
      cases h1
  exact fun y hy => key 10 y (by (first | lia | omega)) hy
end


open Builtin Builtin.ObjectAttr

/-! a method called with a starred argument: the bound method is made -/
structure BndIn (K : Frag) (Cl : Addr) (name : Str) (f : Addr) : Prop where
  hg : plainGet K Cl name = true
  hf : findIn K (.ref Cl) name = some (some (.ref f))
  ht : isFn K (.ref f) = true
  hh : hasDictIn K Cl = true
  gf : specialIn K (.ref f) "__get__" = some (some (.builtin "function.__get__"))
  tk : takesIn K (.ref f) = some false
  cp : copiedNames.contains name = false
theorem BndIn.find {K : Frag} {Cl : Addr} {name : Str} {f : Addr} (h : BndIn K Cl name f) {od : Obj} (hl : lookIn name od = some none) : findObj K Cl (some od) name = some (.bind (.builtin "function.__get__") (.ref f)) := by
  obtain ⟨cd, hc', hd⟩ := any_some h.hh
  unfold findObj
  have ho : PySem.W.ownOf cd (some od) name = some none := by unfold PySem.W.ownOf; rw [if_pos hd]; exact hl
  rw [hc', Option.bind_some, h.hf, Option.bind_some]
  simp only [h.gf, h.tk, Option.bind_some, ho, h.cp, Bool.false_and, Bool.false_eq_true, if_false]
theorem callB_of {M : Model} {A : Around} {E : Value → Shared → Prop} {s : Shared} {pos : Pos} {q f : Addr} {self : Value} {args : List (Bool × Sem Value)} {Q : Value → Shared → Prop} (hst : args.any (·.1) = true)
    (h : wpAny M A (evalArgs (.ref q) true args []) (fun x s₁ => s₁.heap.get? q = some (methodObj (.ref f) self) ∧ (∃ o fd, s₁.heap.get? f = some o ∧ o.data = .func fd) ∧ wpAny M A (call (.ref q) x.pos x.kw) Q E s₁) E s) :
    wpAny M A (callWith pos (.ref q) [] args []) Q E s := by
  unfold callWith
  refine wpAny_bind (wpAny_holding (wpAny_mono h (fun x s₁ h₁ => wpAny_bind (wpAny_standAt ?_)) fun _ _ x => x))
  refine by_ng fun ng => ?_
  obtain ⟨hq, ⟨o, fd, ho, hd⟩, hc⟩ := h₁
  refine ng ?_
  clear ng
  simp only [hst, List.any_nil, Bool.or_false]
  refine wpAny_bind (m := keeperOf (.ref q)) ?_
  unfold keeperOf
  refine wpAny_bind (wpAny_load hq ?_)
  show wpAny _ _ (load f >>= fun o => pure (match o.data with | .func _ => Keeper.boundFrame | _ => Keeper.caller)) _ _ _
  refine wpAny_bind (wpAny_load ho ?_)
  rw [hd]
  refine wpAny_pure ?_
  exact wpAny_bind (wpAny_operateT (wpAny_mono hc (fun r s₂ hr => wpAny_bind (wpAny_holding (wpAny_point (wpAny_pure hr)))) fun _ _ x => x))
theorem code_bound {prog : Program} {w : World} {A : Around} {b f : Addr} {x : Value} {a : Args} {R : Result → Shared → Prop} {s : Shared} (hb : s.heap.get? b = some (methodObj (.ref f) x))
    (hq : codeAny (model prog w) A (.call (.ref f) { a with pos := x :: a.pos }) R s) : codeAny (model prog w) A (.call (.ref b) a) R s := by
  refine codeAny_of_tree ?_
  show wpAny _ A.in1 (callAny (.ref b) a) _ _ _
  unfold callAny
  refine wpAny_bind (wpAny_load hb ?_)
  exact wpAny_pure ⟨rfl, hq⟩
section
variable {C : Ctx} {env : Env}
theorem E_imethB {K : Frag} {Cl : Addr} {f : Addr} {o a : PySem.Expr} {name : Str} {apos pos q : Pos} {w wa : W Value} {cw : BW} (X : K.In C.P) (M : BndIn K Cl name f) (hk : ∃ o fd, C.P.get? f = some o ∧ o.data = .func fd) (ho : OkAV C (eval o env) w)
    (ha : OkAV C (eval a env) wa) (hc : CodeA C (.ref f) cw) (hs : backTo pos (starEach [.Starred a q] env) = [(true, do let v ← eval a env; standAt pos; pure v)] := by rfl)
    (he : eval (.Call (.Attribute o name apos) [.Starred a q] [] pos) env = (do
      let ov ← eval o env
      standAt apos.atName
      let (f, first) ← PySem.holding [ov] (do pure (← getAttr ov name true, []))
      callWith pos f first (backTo pos (starEach [.Starred a q] env)) (backToKw pos (keywordEach [] env))) := by rfl) :
    OkAV C (eval (.Call (.Attribute o name apos) [.Starred a q] [] pos) env) (fun Q => w fun v H L => ∃ x dx es, v = .ref x ∧ H x = some (.raw (instObj Cl dx)) ∧ H dx = some (.ns es) ∧ es.lookup name = none ∧
      ∀ b, H b = none → wa (fun u H L => ∃ t xs, u = .ref t ∧ H b = some (.raw (methodObj (.ref f) (.ref x))) ∧ H t = some (.tup xs) ∧ xs.length ≤ 1048576 ∧ cw (v :: xs) Q H L) (upd H b (.raw (methodObj (.ref f) (.ref x)))) L) := OkA.mk fun P hP s H L Q tk r e => by
  rw [he]
  refine wpAny_bind (wpAny_post (ho.ok P hP s H L _ tk r e) (fun v s₁ H₁ L₁ o₁ r₁ rr57 => ?_))
  refine by_ng fun ng => ?_
  obtain ⟨x, dx, es, hv, h1, h2, h3, e₁⟩ := rr57
  refine ng ?_
  clear ng
  have t₁ := Nat.zero_le s₁.toks
  cases er_ref hv
  have hx := (r₁.hp _ _ h1).2
  obtain ⟨m, hn, hm⟩ := (r₁.hp _ _ h2).2
  have hma := hm name
  rw [h3, Option.map_eq_none_iff] at hma
  obtain ⟨od, hod, hl⟩ := ns_look (name := name) hn
  rw [hma] at hl
  have X' : K.In s₁.heap := X.keeps fun b o q => r₁.keep b o (hP b o q)
  have I : InstAt s₁.heap x (instObj Cl dx) Cl (some od) := ⟨hx, rfl, rfl, hod⟩
  refine wpAny_bind (wpAny_standAt ?_)
  refine wpAny_bind (wpAny_holding (wpAny_bind ?_))
  refine get_bind X' I (plainGet_of M.hg).1 (M.find hl) (plainGet_of M.hg).2 (wpAny_call (fn_get (s := { s₁ with toks := s₁.toks + 1 }) X' (beq_iff_eq.mp M.ht) (handed_on rfl ?_)))
  refine wpAny_pure ?_
  rw [hs]
  refine by_ng fun ng => ?_
  obtain ⟨of, fd, hof, hfd⟩ := hk
  refine ng ?_
  clear ng
  have r₂ := r₁.alloc (ho := .raw (methodObj (.ref f) (.ref x))) (methodObj (.ref f) (.ref x)) (Heap.get?_push_size _ rfl)
  have e₂ := e₁ _ r₁.fresh
  refine callB_of (f := f) (self := .ref x) rfl ?_
  unfold evalArgs
  dsimp only
  refine wpAny_bind (wpAny_bind (wpAny_post (ha.ok P hP { s₁ with heap := s₁.heap.push (methodObj (.ref f) (.ref x)), toks := s₁.toks + 1 } _ L₁ _ (Nat.zero_le _) r₂ e₂) (fun v s₃ H₃ L₃ o₃ r₃ rr58 => ?_)))
  refine by_ng fun ng => ?_
  obtain ⟨t, xs, hv, g0, g1, g2, g3⟩ := rr58
  refine ng ?_
  clear ng
  have t₃ := Nat.zero_le s₃.toks
  cases er_ref hv
  refine wpAny_bind (wpAny_standAt (wpAny_pure (wpAny_bind (wpAny_pure ?_))))
  refine by_ng fun ng => ?_
  obtain ⟨_, its, n, hto, hxs⟩ := r₃.hp _ _ g1
  refine ng ?_
  clear ng
  have hlx : its.size = xs.length := by rw [← hxs]; simp
  dsimp only
  refine wpAny_holding ?_
  rw [if_pos (by rfl)]
  refine wpAny_bind ?_
  show wpAny _ _ (evalAll []) _ _ _
  refine wpAny_pure ?_
  refine wpAny_bind ?_
  refine wpAny_bind (tuple_iterable (tupOf_is hto).typeIs ?_)
  rw [if_neg (by decide)]
  refine wpAny_holding ?_
  refine wpAny_collect_seq t (.inr rfl) hto rfl rfl (fun h' hk' => ?_) (Nat.le_trans (by (first | lia | omega) : its.size ≤ 1048576) (by decide))
  have r₄ : Rep (C.at P) h' H₃ L₃ := r₃.grow hk'
  have hb := (r₄.hp _ _ g0).2
  refine wpAny_pure ⟨hb, ⟨of, fd, r₄.keep _ _ (hP _ _ hof), hfd⟩, wpAny_call (code_bound hb ?_)⟩
  refine codeAny_mono (hc P hP (.ref x :: its.toList) { s₃ with heap := h' } H₃ L₃ Q t₃ r₄ ?_) fun r s'' h'' => ?_
  · rw [List.map_cons, hxs]; exact g3
  · rcases r with e' | f'
    · exact h''
    · cases f' with
      | ret v => exact ((h''.from (s₀ := s₃) ⟨rfl, rfl, rfl⟩).from (s₀ := s₁) ⟨o₃.1, o₃.2.1, o₃.2.2⟩).from o₁
      | _ => exact h''
end

noncomputable def T36 (TS : Addr) : List (Str × NK) := [(Str.ofString "pairs", NK.slot 0 false), (Str.ofString "sorter", NK.slot 1 false), (Str.ofString "path", NK.slot 2 false), (Str.ofString "folder", NK.slot 3 false), (Str.ofString "order", NK.slot 4 false), (Str.ofString "ready", NK.slot 5 false), (Str.ofString "TopologicalSorter", .glob (.ref TS))]
noncomputable def G36 (TS : Addr) : List (Str × Value) := [(Str.ofString "TopologicalSorter", .ref TS)]
theorem tab36 (TS : Addr) : fnT (FS 36) (G36 TS) = T36 TS := by kernel_rfl
theorem chk36 : scOk (FS 36) [Str.ofString "pairs"] = true := by decide +kernel
theorem bind36 {fd : FuncData} (hp : fd.params = FP 36) (hd : fd.defaults = .none) (hk : fd.kwdefaults = .none) (vs : List Value) (hl : vs.length = 1) : bindArgs fd ⟨vs, []⟩ = pure ([Str.ofString "pairs"].zip vs) := by
  refine by_ng fun ng => ?_
  obtain ⟨a0, rfl⟩ := len1 hl
  obtain ⟨n, q, p, bd, sc, g, cl, df, kd, doc, pm, an, cd, ct, bu⟩ := fd
  refine ng ?_
  clear ng
  subst hp; subst hd; subst hk
  kernel_rfl
theorem ini36 (a0 : Value) : iniOf (FS 36) ([Str.ofString "pairs"].zip [a0]) = [some a0, none, none, none, none, none] := by kernel_rfl

inductive orderB (TS NI : Addr) (P : Addr) (Q : Value → HA → Ls → Prop) (H : HA) (L : Ls) : Prop
  | mk (nm : _) (par : _) (k1 : Tree nm par) (ps : _) (k2 : RefsAt (PairAt nm par) H P ps) (k3 : PsOk par [] ps) (k4 : ∀ O H' (od : List Nat), H O = none → HSub H H' → H' O = some (.lst (vS (od.map nm))) → od.Nodup → (∀ y, y ∈ od ↔ ∃ x ∈ ps, y = x ∨ y = par x) → (∀ i y, od[i]? = some y → ∀ x ∈ ps, par x = y → x ∈ od.take i) → Q (.ref O) H' L) : orderB TS NI P Q H L
noncomputable def orderW (TS NI : Addr) : BW := fun vs Q H L => mR (fun P => mN (orderB TS NI P Q H L)) vs
theorem Srt.turnB {TS NI : Addr} {nm : Nat → Str} {Hb H : HA} {d : SD} (h : Srt TS NI nm Hb H d) {O : Addr} {xs ys : List Value} (e : Hb O = some (.lst xs)) : Srt TS NI nm (upd Hb O (.lst ys)) (upd H O (.lst ys)) d := by
  have eH := h.sub _ _ e
  have nb : ∀ {p : Addr}, Hb p = none → p ≠ O := fun q z => by rw [z, e] at q; cases q
  have nk : ∀ {p : Addr} {ho : HO}, H p = some ho → (∀ s, ho ≠ .lst s) → p ≠ O := fun q k z => by rw [z, eH] at q; cases q; exact k _ rfl
  refine ⟨fun a ho ea => ?_, (upd_ne _ _ (nk h.hx (fun _ q => by cases q))).trans h.hx, (upd_ne _ _ (nb h.bx)).trans h.hdx, let ⟨ep, en⟩ := h.hnd; ⟨ep, (upd_ne _ _ (nb h.bn)).trans en⟩, fun y hy => ?_, fun a l er => ?_, (upd_ne _ _ (nb h.bx)).trans h.bx, (upd_ne _ _ (nb h.bn)).trans h.bn, fun y hy => ?_, h.inj, h.lt, h.nod, h.nmi, h.df⟩
  · by_cases q : a = O
    · subst q; rw [upd_same] at ea ⊢; exact ea
    · rw [upd_ne _ _ q] at ea ⊢; exact h.sub _ _ ea
  · obtain ⟨a, b, c⟩ := h.hi y hy
    exact ⟨(upd_ne _ _ (nb (h.bi y hy).1)).trans a, (upd_ne _ _ (nk b (fun _ q => by cases q))).trans b, (upd_ne _ _ (nb (h.bi y hy).2)).trans c⟩
  · obtain ⟨u, v, w⟩ := h.hr a l er
    exact ⟨(upd_ne _ _ (nb v)).trans u, (upd_ne _ _ (nb v)).trans v, w⟩
  · obtain ⟨u, v⟩ := h.bi y hy
    exact ⟨(upd_ne _ _ (nb u)).trans u, (upd_ne _ _ (nb v)).trans v⟩
theorem take_at {l : List Nat} {i y : Nat} (h : l.Nodup) (e : l[i]? = some y) : y ∉ l.take i := fun q => by
  refine by_ng fun ng => ?_
  obtain ⟨j, hj, e2⟩ := List.mem_take_iff_getElem.mp q
  obtain ⟨hi, e3⟩ := List.getElem?_eq_some_iff.mp e
  refine ng ?_
  clear ng
  have := (List.getElem_inj h).mp (e2.trans e3.symm)
  (first | lia | omega)
theorem s_ext {Q : Value → HA → Ls → Prop} {H : HA} {L : Ls} {a b : Addr} {xs ys : List Value} (e : H a = some (.lst xs)) (e2 : H b = some (.tup ys)) (f : xs.length + ys.length ≤ 1048575) (h : Q .none (upd H a (.lst (xs ++ ys))) L) : extendW [.ref a, .ref b] Q H L := ⟨xs, ys, e, e2, f, h⟩
theorem order_walk {B : Heap} (hB : Bas B) {n : Nat} (K : Frag) (X : K.In B) {fI fA fP fV fG fO : Addr} (CT : ClsIn K TS fI) (hTI : FnK B false n fI (tsInitW TS)) (MA : MethIn K TS (Str.ofString "add") fA) (hA : Fn B (n + 2) fA (addW TS NI)) (MP_ : MethIn K TS (Str.ofString "prepare") fP) (hP_ : FnR B (n + 2) fP (prepW TS NI)) (MV : MethIn K TS (Str.ofString "is_active") fV) (hV : Fn B (n + 2) fV (activeW TS NI)) (MG : MethIn K TS (Str.ofString "get_ready") fG) (hG : Fn B (n + 2) fG (readyW TS NI)) (MO : BndIn K TS (Str.ofString "done") fO) (hO_a : ∃ o fd, B.get? fO = some o ∧ o.data = .func fd) (hO_ : FnK B false (n + 2) fO (doneW TS NI)) {f : Addr} {fd : FuncData} (Fi : FnIn B f fd (FB 36)) (hsc : fd.scope = FS 36) (hp : fd.params = FP 36) (hg : ∀ g ∈ G36 TS, GlobOk B fd.globals fd.builtins g.1 g.2) : FnK B true (n + 2 + 1) f (orderW TS NI) := by
  have main := fn_okK (n := n + 2) (fr := true) hB Fi.toFnIn0 (by rw [hsc]; exact chk36) (fun _ => by rw [hsc]; decide +kernel) hg (fun C _ vs => bind_args (bind36 hp Fi.dfl Fi.kwd) C vs) (fun C env le room V len0 hF =>
    have lenC : C.locs.length = 6 := len0.trans (by rw [hsc]; kernel_rfl)
    have V : EnvOk C (T36 TS) env := tab_eq (hsc ▸ tab36 TS) V
    have S := hB.stat le room
    have hh := room.handled
    (S_cons (S_assign (E_callK V (.tail _ (.tail _ (.tail _ (.tail _ (.tail _ (.tail _ (.head _))))))) (KeepA.of_K (X.keeps le) CT.hk) E_nil (cls_ok false (X.keeps le) CT le hTI room)) (A_cons (A_name V (.tail _ (.head _))) A_nil)) (S_cons (S_for hh S (E_name V (.head _)) (A_tuple hh (A_cons (A_name V (.tail _ (.tail _ (.head _)))) (A_cons (A_name V (.tail _ (.tail _ (.tail _ (.head _))))) A_nil))) (S_cons (S_expr V.fn (E_imeth (X.keeps le) MA (hA.callee le) (E_name V (.tail _ (.head _))) (E_cons (E_name V (.tail _ (.tail _ (.tail _ (.head _))))) (E_cons (E_name V (.tail _ (.tail _ (.head _)))) E_nil)) (hA.ok _ le room))) S_nil) S_nil) (S_cons (S_expr V.fn (E_imeth (X.keeps le) MP_ (hP_.callee le) (E_name V (.tail _ (.head _))) E_nil (hP_.ok _ le room (fun _ => (hF rfl).1)))) (S_cons (S_assign (E_list E_nil) (A_cons (A_name V (.tail _ (.tail _ (.tail _ (.tail _ (.head _)))))) A_nil)) (S_cons (S_while (T_val (E_imeth (X.keeps le) MV (hV.callee le) (E_name V (.tail _ (.head _))) E_nil (hV.ok _ le room))) (S_cons (S_assign (E_imeth (X.keeps le) MG (hG.callee le) (E_name V (.tail _ (.head _))) E_nil (hG.ok _ le room)) (A_cons (A_name V (.tail _ (.tail _ (.tail _ (.tail _ (.tail _ (.head _))))))) A_nil)) (S_cons (S_expr V.fn (E_meth (E_name V (.tail _ (.tail _ (.tail _ (.tail _ (.head _)))))) F.plainAttrs_list F.slot_list_extend F.type_list_extend (E_cons (E_name V (.tail _ (.tail _ (.tail _ (.tail _ (.tail _ (.head _))))))) E_nil) b_extend)) (S_cons (S_expr V.fn (E_imethB (X.keeps le) MO (hO_a.imp fun _ h => h.imp fun _ h => ⟨le _ _ h.1, h.2⟩) (E_name V (.tail _ (.head _))) (E_name V (.tail _ (.tail _ (.tail _ (.tail _ (.tail _ (.head _))))))) (hO_ _ le room (fun z => nomatch z)))) S_nil))) S_nil) (S_cons (S_ret (E_name V (.tail _ (.tail _ (.tail _ (.tail _ (.head _))))))) S_nil)))))))
  refine main.spec ?_
  clear main
  rw [hsc]
  intro vs Q H L h
  refine by_ng fun ng => ?_
  obtain ⟨P, r0, rfl, hq0⟩ := mR_inv h
  obtain ⟨rfl, hq1⟩ := mN_inv hq0
  refine ng ?_
  clear ng
  replace h := hq1
  · skip
    refine by_ng fun ng => ?_
    obtain ⟨nm, par, T, ps, hP, hps, hq⟩ := h
    obtain ⟨rs, hPv, hrs⟩ := hP
    refine ng ?_
    clear ng
    have hrl := hrs.length
    have hpl := hps.len
    have lt : ∀ x ∈ ps, par x < x := fun x hx => T.lt x (hps.rg x hx).1 (hps.rg x hx).2
    refine ⟨rfl, ?_⟩
    refine' s_start (ini36 _) ?_
    walk_at "st"
    intro x dx hx hdx hne
    refine ⟨dx, upd_same _ _ _, (upd_ne _ _ (Ne.symm hne)).trans (upd_same _ _ _), fun H1 nd k1 k2 k3 k4 => ⟨rfl, ?_⟩⟩
    have knd : nd ≠ x ∧ nd ≠ dx ∧ H nd = none := by
      obtain ⟨q1, q2⟩ := none_upd k2
      obtain ⟨q3, q4⟩ := none_upd q1
      exact ⟨q2, q4, q3⟩
    have hS0 : Srt TS NI nm H H1 ⟨x, dx, nd, fun _ => x, fun _ => x, fun _ => x, [], fun _ => 0, fun _ => [], none, 0, 0⟩ := by
      refine ⟨fun a ho e => k1 a ho (fun z => by rw [z, hdx] at e; cases e) ?_, k1 x _ hne (upd_same _ _ _), k3, ⟨0, k4⟩, fun y hy => absurd hy List.not_mem_nil, fun a l e => (nomatch e), hdx, knd.2.2, fun y hy => absurd hy List.not_mem_nil, fun y hy => absurd hy List.not_mem_nil, fun y hy => absurd hy List.not_mem_nil, List.nodup_nil, T.inj, fun _ _ => ⟨rfl, rfl⟩⟩
      rw [upd_ne _ _ (fun z => by rw [z, hx] at e; cases e), upd_ne _ _ (fun z => by rw [z, hdx] at e; cases e)]; exact e
    clear k1 k2 k3 k4
    walk_at "st"
    refine' s_for (k := .lst P) (xs := rs.map Value.ref) (fun i H' L' => i ≤ ps.length ∧ (∃ d, Srt TS NI nm H H' d ∧ d.x = x ∧ AddSt par d (ps.take i)) ∧ ∃ c1 c2, L' = [some (.ref P), some (.ref x), c1, c2, none, none]) (.lst (hS0.sub _ _ hPv)) ⟨Nat.zero_le _, ⟨_, hS0, rfl, rfl, rfl, rfl, fun y => by simp, fun y => rfl, fun y => by simp⟩, none, none, rfl⟩ ?_
    intro i H' L' rr59
    refine by_ng fun ng => ?_
    obtain ⟨hi, ⟨d, hS, hxe, hA1⟩, c1, c2, rfl⟩ := rr59
    refine ng ?_
    clear ng
    refine ⟨.lst (hS.sub _ _ hPv), fun e => ?_, fun z e QN hN hC => ?_⟩
    · have hil : ps.length ≤ i := by
        rw [List.getElem?_eq_none_iff, List.length_map] at e; (first | lia | omega)
      rw [List.take_of_length_le hil] at hA1
      walk_at "st"
      refine' s_imeth (hxe ▸ hS.hx) hS.hdx rfl ?_
      refine ⟨nm, H, d, hS, hxe, hA1.rd, fun y hy => ?_, fun H2 a hS2 => ?_⟩
      · rw [hA1.suc y]
        by_cases hyp : y ∈ ps
        · rw [if_pos hyp]
          exact ⟨Nat.le_refl _, fun z hz => by
            rw [List.mem_singleton] at hz; subst hz
            exact ⟨(hA1.ks _).mpr ⟨y, hyp, .inr rfl⟩, lt y hyp⟩⟩
        · rw [if_neg hyp]
          exact ⟨Nat.zero_le _, fun z hz => absurd hz List.not_mem_nil⟩
      have hL := hA1.prep hS.nod a
      generalize (d.ks.filter fun y => decide (d.np y = 0)) = l0 at hL
      have hxe2 : (prepD d a).x = x := hxe
      generalize prepD d a = d2 at hL hS2 hxe2
      clear hA1 hS hxe d
      walk_at "st"
      refine' ⟨by show 0 ≤ sizeLine; decide, fun O hO => ?_⟩
      have hO0 : H O = none := hS2.sub.none hO
      have hS3 := hS2.enlarge hO (.lst [])
      walk_at "st"
      refine' s_while (fun m H' L' => ∃ (d : SD) (l od : List Nat) (c : Option Value), m = 10 - od.length ∧ LSt par ps d a l od ∧ Srt TS NI nm (upd H O (.lst (vS (od.map nm)))) H' d ∧ d.x = x ∧ L' = [some (.ref P), some (.ref x), c1, c2, some (.ref O), c]) ⟨10, d2, l0, [], none, rfl, hL, hS3, hxe2, rfl⟩ ?_
      clear hL hS2 hS3 hxe2 hO
      intro m H' L' rr60 QN hN hC hB hR
      refine by_ng fun ng => ?_
      obtain ⟨d, l, od, c, rfl, hL, hS, hxe, rfl⟩ := rr60
      refine ng ?_
      clear ng
      have hol : od.length ≤ 10 := nodup_len 10 od hL.ond fun y hy => hS.lt y (hL.om y hy)
      have hll : l.length ≤ 10 := nodup_len 10 l hL.lnd fun y hy => hS.lt y ((hL.lm y).mp hy).1
      have hsu : ∀ y, (d.suc y).length ≤ 10 := fun y => by rw [hL.suc]; split <;> simp
      have hx1 := hxe ▸ hS.hx
      have hOv := hS.sub _ _ (upd_same H O (.lst (vS (od.map nm))))
      walk_at "st"
      refine' s_imeth hx1 hS.hdx rfl ?_
      refine ⟨nm, _, d, a, l, hS, hxe, hL.rd, by (first | lia | omega), ?_⟩
      have hb : decide (d.nf < d.po) = false := by rw [hL.nf, hL.po]; simp
      rw [hb, Bool.false_or]
      walk_at "st"
      cases hl : l with
      | nil =>
        subst hl
        refine' s_if_f rfl ?_
        walk_at "st"
        refine ⟨H', HSub.refl _, hq O H' od hO0 (fun p ho e => ?_) hOv hL.ond (fun y => ?_) hL.ord⟩
        · exact hS.sub _ _ ((upd_ne _ _ (fun z => by rw [z, hO0] at e; cases e)).trans e)
        · rw [← hL.ks]
          exact ⟨hL.om y, fun h => hL.all lt hS.lt y h⟩
      | cons l1 lr =>
        have hlp : 0 < l.length := by rw [hl]; simp
        refine' s_if_t rfl ?_
        clear hl
        walk_at "st"
        refine' s_imeth hx1 hS.hdx rfl ?_
        refine ⟨nm, _, d, a, l, hS, hxe, hL.rd, by (first | lia | omega), fun y hy => ((hL.lm y).mp hy).1, fun H2 t ht hS2 => ?_⟩
        have htO : t ≠ O := fun z => by rw [z, hOv] at ht; cases ht
        have hb1 : upd (upd H O (.lst (vS (od.map nm)))) t (.tup (vS (l.map nm))) O = some (.lst (vS (od.map nm))) := (upd_ne _ _ (Ne.symm htO)).trans (upd_same _ _ _)
        have hb2 : upd (upd H O (.lst (vS (od.map nm)))) t (.tup (vS (l.map nm))) t = some (.tup (vS (l.map nm))) := upd_same _ _ _
        have hHt : H t = none := by
          have := hS.sub.none ht
          rwa [upd_ne _ _ htO] at this
        have kb : HSub (upd H O (.lst (vS ((od ++ l).map nm)))) (upd (upd (upd H O (.lst (vS (od.map nm)))) t (.tup (vS (l.map nm)))) O (.lst (vS ((od ++ l).map nm)))) := fun p ho e => by
          by_cases q : p = O
          · subst q; rw [upd_same] at e ⊢; exact e
          · rw [upd_ne _ _ q] at e
            rw [upd_ne _ _ q, upd_ne _ _ (fun z => by rw [z, hHt] at e; cases e), upd_ne _ _ q]; exact e
        have hS3 := hS2.turnB (ys := vS ((od ++ l).map nm)) hb1
        have g1 := hS2.sub _ _ hb1
        have g2 := hS2.sub _ _ hb2
        have g3 := hS3.sub _ _ ((upd_ne _ _ htO).trans hb2)
        have hvs : vS (od.map nm) ++ vS (l.map nm) = vS ((od ++ l).map nm) := by unfold vS; simp
        generalize upd (upd (upd H O (.lst (vS (od.map nm)))) t (.tup (vS (l.map nm)))) O (.lst (vS ((od ++ l).map nm))) = Hb3 at hS3 kb
        walk_at "st"
        refine' s_meth_l g1 ?_
        walk_at "st"
        refine' s_ext g1 g2 (by rw [vS_len, vS_len, List.length_map, List.length_map]; (first | lia | omega)) ?_
        rw [hvs]
        generalize upd H2 O (.lst (vS ((od ++ l).map nm))) = H3 at hS3 g3
        walk_at "st"
        refine ⟨x, d.dx, _, rfl, (hxe ▸ hS3.hx : H3 x = some (.raw (instObj TS (readyD d a l).dx))), hS3.hdx, rfl, fun b hb' => ?_⟩
        have s3 := (HSub.refl H3).upd (ho := .raw (methodObj (.ref fO) (.ref x))) hb'
        have hS3 := hS3.up s3
        have g3 := s3 _ _ g3
        have g4 := upd_same H3 b (.raw (methodObj (.ref fO) (.ref x)))
        generalize upd H3 b (.raw (methodObj (.ref fO) (.ref x))) = H3 at hS3 g3 g4
        walk_at "st"
        refine ⟨t, _, rfl, g4, g3, by rw [vS_len, List.length_map]; (first | lia | omega), ?_⟩
        refine ⟨nm, _, readyD d a l, a, [], l, hS3, hxe, rfl, rfl, Nat.zero_le _, hll, hsu, fun y hy => ⟨((hL.lm y).mp hy).1, fun s hs => ?_⟩, fun i y e => ?_, fun H4 hS4 => ?_⟩
        · have hs' : s ∈ d.suc y := hs
          rw [hL.suc] at hs'
          split at hs'
          · rename_i hyp
            rw [List.mem_singleton] at hs'; subst hs'
            exact (hL.ks _).mpr ⟨y, hyp, .inr rfl⟩
          · cases hs'
        · have hil := (List.getElem?_eq_some_iff.mp e).1
          exact (hL.turns lt hps.nd i (by (first | lia | omega))).m1 y (List.mem_of_getElem? e) (take_at hL.lnd e)
        · have hS5 := hS4.shrink kb
          have hL5 := hL.next lt hps.nd
          walk_at "st"
          refine hN _ _ ⟨10 - (od ++ l).length, ?_, _, _, _, _, rfl, hL5, hS5, hxe, rfl⟩
          have h6 : (od ++ l).length ≤ 10 := nodup_len 10 _ hL5.ond fun y hy => hS5.lt y (hL5.om y hy)
          rw [List.length_append] at h6 ⊢
          (first | lia | omega)
    · refine by_ng fun ng => ?_
      obtain ⟨r, hr, rfl⟩ := refs_get e
      obtain ⟨y, hy, hyt⟩ := hrs.get hr
      refine ng ?_
      clear ng
      have hyp := List.mem_of_getElem? hy
      have hilt : i < ps.length := (List.getElem?_eq_some_iff.mp hy).1
      refine' s_unpack (hS.sub _ _ hyt) rfl ?_
      walk_at "st"
      refine' s_imeth (hxe ▸ hS.hx) hS.hdx rfl ?_
      walk_at "st"
      have hny := take_at hps.nd hy
      refine ⟨nm, H, d, par y, y, hS, hxe, hA1.rd, rfl, rfl, rfl, rfl, ?_, (hps.rg y hyp).2, ?_, fun H2 d2 hS2 r2 => ?_⟩
      · have := lt y hyp
        have := (hps.rg y hyp).2
        (first | lia | omega)
      · rw [hA1.suc, if_neg hny]; simp
      · walk_at "st"
        refine hN _ _ ⟨hilt, ⟨d2, hS2, r2.x.trans hxe, ?_⟩, _, _, rfl⟩
        rw [take_snoc hy]
        exact hA1.add hny r2



/-! the texts: facts by evaluation over lists of code points -/
noncomputable def LS (l : List Nat) : Str := ⟨l.toArray⟩
theorem LS_app (a b : List Nat) : LS a ++ LS b = LS (a ++ b) := by
  show (⟨a.toArray ++ b.toArray⟩ : Str) = ⟨(a ++ b).toArray⟩
  rw [List.append_toArray]
theorem LS_len (a : List Nat) : (LS a).length = a.length := rfl
theorem LS_inj {a b : List Nat} (h : LS a = LS b) : a = b := by
  have := congrArg (fun s : Str => s.cps.toList) h
  exact this
theorem l_dot : Str.ofString "." = LS [46] := by decide +kernel
theorem l_dd : Str.ofString ".." = LS [46, 46] := by decide +kernel
theorem l_sl : Str.ofString "/" = LS [47] := by decide +kernel
theorem l_q : Str.ofString "\"" = LS [34] := by decide +kernel
theorem l_qq : Str.ofString "\"\"" = LS [34, 34] := by decide +kernel
theorem l_257 : Str.ofString "257" = LS [50, 53, 55] := by decide +kernel
theorem l_257q : Str.ofString "257 \"" = LS [50, 53, 55, 32, 34] := by decide +kernel
theorem l_sq : Str.ofString " \"" = LS [32, 34] := by decide +kernel
theorem l_is : Str.ofString "\" is there" = LS [34, 32, 105, 115, 32, 116, 104, 101, 114, 101] := by decide +kernel
noncomputable def tnL : List (List Nat) := [[47], [47, 47], [47, 46, 47], [47, 113, 47, 46, 46, 47]]
theorem l_turns : turns = tnL.map LS := by decide +kernel
noncomputable def tL8 : List (List Nat) := [[], [47, 34], [47, 97, 34], [47, 34, 47, 97, 34], [47, 34, 34], [47, 34, 47, 34, 34], [47, 97, 34, 47, 34, 34], [47, 34, 47, 97, 34, 47, 34, 34]]
noncomputable def lets : List Nat := [117, 118, 119, 120, 121, 122]

noncomputable def prunL : Nat → List Nat → List Nat → List Nat
  | 0, _, a => a
  | _ + 1, [], a => a
  | f + 1, c :: r, a => if c = 34 then (match r with
      | [] => a
      | c' :: r' => if c' = 34 then prunL f r' (a ++ [34]) else a) else prunL f r (a ++ [c])
theorem one_eq (c d : Nat) : ((⟨#[c]⟩ : Str) == LS [d]) = decide (c = d) := by
  rw [Bool.eq_iff_iff, beq_iff_eq, decide_eq_true_iff]
  exact ⟨fun h => by have := LS_inj (a := [c]) (b := [d]) h; injection this, fun h => by rw [h]; rfl⟩
theorem prun_list (x : List Nat) : ∀ (f : Nat) (pre r acc : List Nat), x = pre ++ r → r.length < f → prun (LS x) f pre.length (LS acc) = some (LS (prunL f r acc))
  | 0, _, _, _, _, h => absurd h (Nat.not_lt_zero _)
  | f + 1, pre, [], acc, hx, _ => by
    unfold prun prunL
    rw [if_neg]
    rw [LS_len, hx]; simp
  | f + 1, pre, c :: r, acc, hx, hf => by
    have h1 : pre.length < (LS x).length := by rw [LS_len, hx]; simp
    have h2 : (LS x).cps[pre.length]? = some c := by
      show x.toArray[pre.length]? = some c
      rw [hx]; simp
    unfold prun
    rw [if_pos h1, h2, l_q]
    simp only [one_eq]
    by_cases hc : c = 34
    · rw [if_pos (by simpa using hc)]
      subst hc
      cases r with
      | nil =>
        rw [if_neg (by rw [LS_len, hx]; simp)]
        unfold prunL
        rw [if_pos rfl]
      | cons c' r' =>
        have h3 : pre.length + 1 < (LS x).length := by rw [LS_len, hx]; simp
        have h4 : (LS x).cps[pre.length + 1]? = some c' := by
          show x.toArray[pre.length + 1]? = some c'
          rw [hx]; simp
        rw [if_pos h3, h4]
        unfold prunL
        rw [if_pos rfl]
        have e : ((⟨#[c']⟩ : Str) != LS [34]) = !decide (c' = 34) := by
          show (!((⟨#[c']⟩ : Str) == LS [34])) = _
          rw [one_eq]
        simp only [e]
        by_cases hc' : c' = 34
        · rw [if_neg (by simp [hc']), if_pos hc']
          have ih := prun_list x f (pre ++ [34, c']) r' (acc ++ [34]) (by rw [hx]; simp) (by simp at hf; (first | lia | omega))
          rw [List.length_append] at ih
          rw [← ih, ← LS_app]; rfl
        · rw [if_pos (by simp [hc']), if_neg hc']
    · rw [if_neg (by simpa using hc)]
      unfold prunL
      rw [if_neg hc]
      have ih := prun_list x f (pre ++ [c]) r (acc ++ [c]) (by rw [hx]; simp) (by simp at hf; (first | lia | omega))
      rw [List.length_append] at ih
      rw [← ih, ← LS_app]; rfl

noncomputable def cL (t tn : List Nat) (l : Nat) : List Nat := 46 :: (t ++ tn ++ [l])
noncomputable def rL (x : List Nat) : List Nat := x.flatMap fun c => if c = 34 then [34, 34] else [c]
noncomputable def nL (t tn : List Nat) (l : Nat) : List Nat := [50, 53, 55, 32, 34] ++ rL (cL t tn l) ++ [34, 32, 105, 115, 32, 116, 104, 101, 114, 101]
noncomputable def spL : List Nat → List Nat → List (List Nat)
  | [], a => [a]
  | c :: r, a => if c = 47 then a :: spL r [] else spL r (a ++ [c])
noncomputable def nstepA (acc : List Str) (c : Str) : List Str :=
  if (c.length != 0) = false then acc
  else if (c == LS [46]) = true then acc
  else if (c != LS [46, 46]) = true then acc ++ [c]
  else match acc.getLast? with
    | none => acc
    | some l => if (l == LS [46, 46]) = true then acc ++ [c] else acc.dropLast
theorem nfoldA (cs : List Str) : nfold cs = cs.foldl nstepA [] := by
  have : nstep = nstepA := by
    funext acc c
    unfold nstep nstepA
    (simp only [l_dot, l_dd]) <;> rfl
  unfold nfold
  rw [this]
noncomputable def okA (t tn : List Nat) (l : Nat) : Bool :=
  (cL t tn l).length.ble 60 && (nL t tn l).length.ble 90 && (rL (cL t tn l)).length.ble 90 && t.length.ble 90 && tn.length.ble 90 && (prunL 90 ((nL t tn l).drop 5) [] == cL t tn l) && (t ++ [47, l] == 47 :: (t ++ [47, l]).drop 1) &&
  (Txt.replace (LS (cL t tn l)) (LS [34]) (LS [34, 34]) == LS (rL (cL t tn l))) &&
  (sliceS (LS (nL t tn l)) none (some 3) == LS [50, 53, 55]) && (sliceS (LS (nL t tn l)) (some 3) (some 5) == LS [32, 34]) && !(Txt.startswith (LS (cL t tn l)) (LS [47])) &&
  (sliceS (LS (47 :: cL t tn l)) none (some 1) == LS [47]) && (sliceS (LS (47 :: cL t tn l)) (some 1) (some 2) != LS [47]) && (sliceS (LS (47 :: cL t tn l)) (some 1) none == LS (cL t tn l)) &&
  (Txt.split (LS (cL t tn l)) (LS [47]) == (spL (cL t tn l) []).map LS) && (spL (cL t tn l) []).length.ble 90 && (spL (cL t tn l) []).all (fun c => c.length.ble 90) &&
  JoinOk (LS [47]) (((spL (cL t tn l) []).map LS).foldl nstepA []) && (Txt.join (LS [47]) (((spL (cL t tn l) []).map LS).foldl nstepA []) == LS ((t ++ [47, l]).drop 1))
noncomputable def okT (t : List Nat) : Bool := tnL.all fun tn => lets.all fun l => okA t tn l
theorem okT_0 : okT [] = true := by decide +kernel
theorem okT_1 : okT [47, 34] = true := by decide +kernel
theorem okT_2 : okT [47, 97, 34] = true := by decide +kernel
theorem okT_3 : okT [47, 34, 47, 97, 34] = true := by decide +kernel
theorem okT_4 : okT [47, 34, 34] = true := by decide +kernel
theorem okT_5 : okT [47, 34, 47, 34, 34] = true := by decide +kernel
theorem okT_6 : okT [47, 97, 34, 47, 34, 34] = true := by decide +kernel
theorem okT_7 : okT [47, 34, 47, 97, 34, 47, 34, 34] = true := by decide +kernel
theorem ok_all {t : List Nat} (h : t ∈ tL8) : okT t = true := by
  simp only [tL8, List.mem_cons, List.not_mem_nil, or_false] at h
  rcases h with rfl | rfl | rfl | rfl | rfl | rfl | rfl | rfl
  · exact okT_0
  · exact okT_1
  · exact okT_2
  · exact okT_3
  · exact okT_4
  · exact okT_5
  · exact okT_6
  · exact okT_7
theorem crk_L (t tn : List Nat) (l : Nat) : crk (LS t) (LS tn) l = LS (cL t tn l) := by
  unfold crk
  rw [l_dot, LS_app, LS_app]
  show LS ([46] ++ t ++ tn) ++ LS [l] = _
  rw [LS_app]
  unfold cL
  simp
theorem line_of {n : Nat} (h : n ≤ 1000) : n ≤ sizeLine := Nat.le_trans h (by decide)
theorem parts_len (s : Str) (cuts : List Nat) (w : Nat) : (PySem.Builtin.Str.partsBetween s cuts w).length ≤ cuts.length + 1 := by
  unfold PySem.Builtin.Str.partsBetween
  simp
structure TxtOk (t tn : Str) (l : Nat) : Prop where
  h1 : t.length ≤ 100
  h2 : tn.length ≤ 100
  h3 : (Txt.replace (crk t tn l) (Str.ofString "\"") (Str.ofString "\"\"")).length ≤ 1000
  p7 : ∃ fuel, P257 (nmd t tn l) (crk t tn l) fuel
  j1 : Txt.startswith (crk t tn l) (Str.ofString "/") = false
  j2 : (Str.ofString "/").length + (crk t tn l).length ≤ sizeLine
  nr : ∃ rest cs, Nrm (Str.ofString "/" ++ crk t tn l) (t ++ Str.ofString "/" ++ ⟨#[l]⟩) rest cs
theorem txtOk {t tn : List Nat} {l : Nat} (ht : t ∈ tL8) (hn : tn ∈ tnL) (hl : l ∈ lets) : TxtOk (LS t) (LS tn) l := by
  have h := ok_all ht
  unfold okT at h
  rw [List.all_eq_true] at h
  have h := h tn hn
  rw [List.all_eq_true] at h
  have h := h l hl
  unfold okA at h
  simp only [Bool.and_eq_true, beq_iff_eq, Nat.ble_eq, Bool.not_eq_true', List.all_eq_true] at h
  refine by_ng fun ng => ?_
  obtain ⟨⟨⟨⟨⟨⟨⟨⟨⟨⟨⟨⟨⟨⟨⟨⟨⟨⟨a1, a2⟩, a3⟩, a4⟩, a5⟩, a6⟩, a7⟩, b1⟩, b2⟩, b3⟩, b4⟩, b5⟩, b6⟩, b7⟩, b8⟩, b9⟩, b10⟩, b11⟩, b12⟩ := h
  refine ng ?_
  clear ng
  have en : nmd (LS t) (LS tn) l = LS (nL t tn l) := by
    unfold nmd
    rw [crk_L, l_q, l_qq, b1, l_257q, l_is, LS_app, LS_app]
    rfl
  have ey : LS t ++ Str.ofString "/" ++ (⟨#[l]⟩ : Str) = LS (t ++ [47, l]) := by
    rw [l_sl, LS_app]
    show LS (t ++ [47]) ++ LS [l] = _
    rw [LS_app]
    simp
  have ex : Str.ofString "/" ++ LS (cL t tn l) = LS (47 :: cL t tn l) := by rw [l_sl, LS_app]; rfl
  refine ⟨by rw [LS_len]; (first | lia | omega), by rw [LS_len]; (first | lia | omega), ?_, ⟨90, ?_⟩, ?_, ?_, ?_⟩
  · rw [crk_L, l_q, l_qq, b1, LS_len]; (first | lia | omega)
  · rw [en, crk_L]
    refine ⟨by rw [LS_len]; (first | lia | omega), by rw [l_257, b2, bne_self_eq_false], by rw [l_sq, b3, bne_self_eq_false], ?_⟩
    have := prun_list (nL t tn l) 90 [50, 53, 55, 32, 34] ((nL t tn l).drop 5) [] (by unfold nL; rfl) (by rw [List.length_drop]; (first | lia | omega))
    rw [a6] at this
    exact this
  · rw [crk_L, l_sl]; exact b4
  · rw [crk_L]
    refine line_of ?_
    rw [l_sl, LS_len, LS_len]
    simp only [List.length_cons, List.length_nil]; (first | lia | omega)
  · rw [crk_L, ey, ex]
    refine ⟨_, (spL (cL t tn l) []).map LS, ?_, ?_, by rw [l_sl]; exact b5, by rw [l_sl]; exact b6, b7, by rw [l_sl]; exact b8, ?_, ?_, ?_, ?_, ?_, ?_, ?_, ?_, ?_⟩
    · rw [LS_len, List.length_cons]; (first | lia | omega)
    · rw [LS_len, List.length_cons]; simp
    · rw [LS_len]; (first | lia | omega)
    · refine Nat.le_trans (parts_len ..) (line_of ?_)
      have := StrLaws.occ_length_le (LS (cL t tn l)) (Str.ofString "/") 0 (LS (cL t tn l)).length ((LS (cL t tn l)).length + 1)
      rw [LS_len] at this ⊢
      (first | lia | omega)
    · rw [List.length_map]; (first | lia | omega)
    · intro c hc
      obtain ⟨d, hd, rfl⟩ := List.mem_map.mp hc
      have := b10 d hd
      rw [LS_len]; (first | lia | omega)
    · rw [nfoldA, l_sl]; exact b11
    · rw [nfoldA, l_sl, b12, LS_app, a7]; rfl
    · refine line_of ?_
      rw [nfoldA, l_sl, b12, LS_len, LS_len, List.length_drop, List.length_append]
      simp only [List.length_cons, List.length_nil]; (first | lia | omega)
    · rw [LS_len, List.length_append]; simp
    · rw [LS_len, List.length_append]
      simp only [List.length_cons, List.length_nil]; (first | lia | omega)


theorem l_cl : Str.ofString ")" = LS [41] := by decide +kernel
theorem l_op : Str.ofString "(" = LS [40] := by decide +kernel
theorem l_229 : Str.ofString "229" = LS [50, 50, 57] := by decide +kernel
theorem l_own : Str.ofString "229 It is of (" = LS [50, 50, 57, 32, 73, 116, 32, 105, 115, 32, 111, 102, 32, 40] := by decide +kernel
theorem l_aq : Str.ofString "a\"" = LS [97, 34] := by decide +kernel
theorem l_tx1 : tx1 = LS [47, 34] := by decide +kernel
theorem l_o0 : Str.ofString (toString (0 : Int)) = LS [48] := by decide +kernel
theorem l_o7 : Str.ofString (toString (7 : Int)) = LS [55] := by decide +kernel
theorem l_o40 : Str.ofString (toString (40 : Int)) = LS [52, 48] := by decide +kernel
noncomputable def owL (c : Nat) (dg : List Nat) : List Nat := [50, 50, 57, 32, 73, 116, 32, 105, 115, 32, 111, 102, 32, 40, c, c, c] ++ dg ++ [c, 41]
noncomputable def ownA (c : Nat) (dg : List Nat) (o : Int) : Bool :=
  dg.length.ble 9 && (sliceS (LS (owL c dg)) none (some 3) == LS [50, 50, 57]) && decide (Txt.find (LS (owL c dg)) (LS [40]) = 13) && decide (Txt.find3 (LS (owL c dg)) (LS [41]) 14 = ((18 + dg.length : Nat) : Int)) &&
  (atS? (LS (owL c dg)) 14 == some c) && (atS? (LS (owL c dg)) (((18 + dg.length : Nat) : Int) - 1) == some c) && (sliceS (LS (owL c dg)) (some 14) (some ((18 + dg.length : Nat) : Int)) == LS ([c, c, c] ++ dg ++ [c])) &&
  (Txt.split (LS ([c, c, c] ++ dg ++ [c])) (LS [c]) == [LS [], LS [], LS [], LS dg, LS []]) && decide (PySem.intText? (LS dg) = some o)
noncomputable def sgn : List Nat := [124, 47, 34, 40]
noncomputable def dgs : List (List Nat × Int) := [([48], 0), ([55], 7), ([52, 48], 40)]
theorem ownA_all : (sgn.all fun c => dgs.all fun d => ownA c d.1 d.2) = true := by decide +kernel
theorem own_of {c : Nat} {dg : List Nat} {o : Int} (hc : c ∈ sgn) (hd : (dg, o) ∈ dgs) (e : Str.ofString (toString o) = LS dg) : ∃ r w, Own (owd c o) o c r w := by
  have h := ownA_all
  rw [List.all_eq_true] at h
  have h := h c hc
  rw [List.all_eq_true] at h
  have h := h _ hd
  unfold ownA at h
  simp only [Bool.and_eq_true, beq_iff_eq, Nat.ble_eq, decide_eq_true_iff] at h
  refine by_ng fun ng => ?_
  obtain ⟨⟨⟨⟨⟨⟨⟨⟨a1, a2⟩, a3⟩, a4⟩, a5⟩, a6⟩, a7⟩, a8⟩, a9⟩ := h
  refine ng ?_
  clear ng
  have eo : owd c o = LS (owL c dg) := by
    unfold owd
    have em : mulS (⟨#[c]⟩ : Str) 3 = LS [c, c, c] := rfl
    rw [l_own, em, e, l_cl, LS_app, LS_app]
    show LS _ ++ LS [c] ++ LS [41] = _
    rw [LS_app, LS_app]
    unfold owL
    simp
  have hl : (owL c dg).length = 19 + dg.length := by unfold owL; simp; (first | lia | omega)
  rw [eo]
  refine ⟨((18 + dg.length : Nat) : Int), LS dg, ?_, by rw [l_229]; exact a2, by rw [l_op]; exact a3, by rw [l_cl]; exact a4, decide_eq_false (by (first | lia | omega)), a5, a6, by rw [a7]; exact a8, ?_, ?_, a9, ?_, ?_⟩
  · rw [LS_len, hl]; (first | lia | omega)
  · rw [a7, LS_len]; simp; (first | lia | omega)
  · rw [a7]
    refine Nat.le_trans (parts_len ..) (line_of ?_)
    have := StrLaws.occ_length_le (LS ([c, c, c] ++ dg ++ [c])) ⟨#[c]⟩ 0 (LS ([c, c, c] ++ dg ++ [c])).length ((LS ([c, c, c] ++ dg ++ [c])).length + 1)
    rw [LS_len] at this ⊢
    have e : ([c, c, c] ++ dg ++ [c]).length = 4 + dg.length := by simp; (first | lia | omega)
    rw [e] at this ⊢
    (first | lia | omega)
  · rw [LS_len]; (first | lia | omega)
  · unfold fits; (first | lia | omega)

/-- the place of the last stroke -/
noncomputable def lastS : Nat → List Nat → Nat → Nat
  | _, [], k => k
  | i, c :: r, k => lastS (i + 1) r (if c = 47 then i else k)
noncomputable def dirA (x y : List Nat) : Bool :=
  let k := lastS 0 x 0
  let hd := x.take (k + 1)
  let b := !(hd == List.replicate hd.length 47)
  x.length.ble 90 && decide (Txt.rfind (LS x) (LS [47]) = (k : Int)) && (sliceS (LS x) none (some ((k : Int) + 1)) == LS hd) && !(hd.length == 0) && mulOk (LS [47]) hd.length && (mulS (LS [47]) hd.length == LS (List.replicate hd.length 47)) &&
  (if b = true then Txt.rstripChars (LS hd) (LS [47]) == LS y else hd == y)
theorem dir_of {x y : List Nat} (h : dirA x y = true) : DirOk (LS x) (LS y) := by
  unfold dirA at h
  simp only [Bool.and_eq_true, beq_iff_eq, Nat.ble_eq, decide_eq_true_iff, Bool.not_eq_true'] at h
  have hle0 : (x.take (lastS 0 x 0 + 1)).length ≤ x.length := List.length_take_le' ..
  generalize x.take (lastS 0 x 0 + 1) = hd at h hle0
  refine by_ng fun ng => ?_
  obtain ⟨⟨⟨⟨⟨⟨a1, a2⟩, a3⟩, a4⟩, a5⟩, a6⟩, a7⟩ := h
  refine ng ?_
  clear ng
  have hle : hd.length ≤ 90 := Nat.le_trans hle0 a1
  refine ⟨_, LS hd, !(hd == List.replicate hd.length 47), ?_, by rw [l_sl]; exact a2, a3, ?_, ?_, by rw [l_sl]; exact a5, ?_, ?_, ?_⟩
  · rw [LS_len]; (first | lia | omega)
  · rw [LS_len]; simp at a4 ⊢; exact a4
  · rw [LS_len]; (first | lia | omega)
  · rw [l_sl, LS_len, a6, LS_len, List.length_replicate]; exact line_of (by (first | lia | omega))
  · rw [l_sl, LS_len, a6]
    show (!(LS hd == LS (List.replicate hd.length 47))) = _
    congr 1
    rw [Bool.eq_iff_iff, beq_iff_eq, beq_iff_eq]
    exact ⟨LS_inj, fun h => by rw [← h]⟩
  · rw [l_sl]
    split at a7
    · rename_i q; rw [if_pos (by rw [q]; rfl)]; exact eq_of_beq a7
    · rename_i q; rw [if_neg (by simpa using q), eq_of_beq a7]

/-- the folders' texts -/
noncomputable def tl (b2 b3 : Nat) : Nat → List Nat
  | 0 => []
  | 1 => [47, 34]
  | 2 => if b2 = 0 then [47, 97, 34] else [47, 34, 47, 97, 34]
  | _ + 3 => if b3 = 0 then [47, 34, 34] else if b3 = 1 then [47, 34, 47, 34, 34] else if b2 = 0 then [47, 97, 34, 47, 34, 34] else [47, 34, 47, 97, 34, 47, 34, 34]
noncomputable def abv (b2 b3 : Nat) : Nat → Nat
  | 0 => 0
  | 1 => 0
  | 2 => b2
  | _ + 3 => b3
noncomputable def par0 (b2 b3 : Nat) (pl : Nat → Nat) (x : Nat) : Nat := if x < 4 then abv b2 b3 x else pl (x - 4)
noncomputable def nmL (b2 b3 : Nat) (pl : Nat → Nat) (x : Nat) : List Nat := if x = 0 then [47] else if x < 4 then tl b2 b3 x else tl b2 b3 (pl (x - 4)) ++ [47, 113 + x]
noncomputable def nm0 (b2 b3 : Nat) (pl : Nat → Nat) (x : Nat) : Str := LS (nmL b2 b3 pl x)
noncomputable def upL (t : List Nat) : List Nat := if t = [] then [47] else t
theorem dirF : (tL8.all fun t => lets.all fun l => dirA (t ++ [47, l]) (upL t)) = true := by decide +kernel
theorem dirD : ([0, 1].all fun b2 => [0, 1, 2].all fun b3 => [1, 2, 3].all fun x => dirA (tl b2 b3 x) (upL (tl b2 b3 (abv b2 b3 x))) && tL8.contains (tl b2 b3 x) && ([1, 2, 3].all fun y => decide (tl b2 b3 x = tl b2 b3 y → x = y)) && !(tl b2 b3 x == []) && !(tl b2 b3 x == [47]) && ((tl b2 b3 x).getLast? == some 34)) = true := by decide +kernel
structure TlOk (b2 b3 x : Nat) : Prop where
  dir : DirOk (LS (tl b2 b3 x)) (LS (upL (tl b2 b3 (abv b2 b3 x))))
  mem : tl b2 b3 x ∈ tL8
  inj : ∀ y, 0 < y → y < 4 → tl b2 b3 x = tl b2 b3 y → x = y
  ne : tl b2 b3 x ≠ []
  ne1 : tl b2 b3 x ≠ [47]
  last : (tl b2 b3 x).getLast? = some 34
theorem tlOk {b2 b3 x : Nat} (h2 : b2 < 2) (h3 : b3 < 3) (h0 : 0 < x) (h4 : x < 4) : TlOk b2 b3 x := by
  have m2 : b2 ∈ [0, 1] := by simp; (first | lia | omega)
  have m3 : b3 ∈ [0, 1, 2] := by simp; (first | lia | omega)
  have mx : ∀ y, 0 < y → y < 4 → y ∈ [1, 2, 3] := fun y a b => by simp; (first | lia | omega)
  have h := List.all_eq_true.mp (List.all_eq_true.mp (List.all_eq_true.mp dirD b2 m2) b3 m3) x (mx x h0 h4)
  simp only [Bool.and_eq_true, List.all_eq_true, decide_eq_true_iff, Bool.not_eq_true', beq_eq_false_iff_ne, beq_iff_eq, List.contains_iff_mem] at h
  refine by_ng fun ng => ?_
  obtain ⟨⟨⟨⟨⟨a1, a2⟩, a3⟩, a4⟩, a5⟩, a6⟩ := h
  refine ng ?_
  clear ng
  exact ⟨dir_of a1, a2, fun y a b => a3 y (mx y a b), a4, a5, a6⟩
theorem tl_mem {b2 b3 x : Nat} (h2 : b2 < 2) (h3 : b3 < 3) (h4 : x < 4) : tl b2 b3 x ∈ tL8 := by
  by_cases h0 : 0 < x
  · exact (tlOk h2 h3 h0 h4).mem
  · have : x = 0 := by (first | lia | omega)
    subst this; exact List.mem_cons_self ..
theorem let_k : ∀ k, k < 6 → 117 + k ∈ lets := by decide
theorem let_mem : ∀ {x : Nat}, 4 ≤ x → x < 10 → 113 + x ∈ lets := by
  have h : ∀ x, x < 10 → 4 ≤ x → 113 + x ∈ lets := by decide
  exact fun {x} a b => h x b a
theorem abv_lt {b2 b3 x : Nat} (h2 : b2 < 2) (h3 : b3 < 3) (h0 : 0 < x) (h4 : x < 4) : abv b2 b3 x < x := by
  match x, h0, h4 with
  | 1, _, _ => exact Nat.zero_lt_one
  | 2, _, _ => exact h2
  | 3, _, _ => exact h3
theorem nm_up {b2 b3 : Nat} {pl : Nat → Nat} (h2 : b2 < 2) (h3 : b3 < 3) {x : Nat} (h4 : x < 4) : nm0 b2 b3 pl x = LS (upL (tl b2 b3 x)) := by
  unfold nm0 nmL upL
  by_cases h0 : x = 0
  · subst h0; rfl
  · rw [if_neg h0, if_pos h4, if_neg (tlOk h2 h3 (by (first | lia | omega)) h4).ne]
theorem tree_ok {b2 b3 : Nat} {pl : Nat → Nat} (h2 : b2 < 2) (h3 : b3 < 3) (hp : ∀ k, k < 6 → pl k < 4) : Tree (nm0 b2 b3 pl) (par0 b2 b3 pl) := by
  have lst : ∀ x, 4 ≤ x → (nmL b2 b3 pl x).getLast? = some (113 + x) := fun x h => by
    unfold nmL
    rw [if_neg (by (first | lia | omega)), if_neg (by (first | lia | omega)), List.getLast?_append]
    rfl
  have lsd : ∀ x, 0 < x → x < 4 → nmL b2 b3 pl x = tl b2 b3 x := fun x h h' => by
    unfold nmL
    rw [if_neg (by (first | lia | omega)), if_pos h']
  refine ⟨l_sl.symm, fun x y hx hy e => ?_, fun x h0 hx => ?_, fun x h0 hx => ?_⟩
  · have e := LS_inj e
    have key : ∀ x y, x < 10 → y < 10 → x ≤ y → nmL b2 b3 pl x = nmL b2 b3 pl y → x = y := fun x y hx hy hxy e => by
      by_cases hy4 : y < 4
      · by_cases hy0 : y = 0
        · (first | lia | omega)
        · by_cases hx0 : x = 0
          · subst hx0
            rw [lsd y (by (first | lia | omega)) hy4] at e
            exact absurd e.symm (tlOk h2 h3 (by (first | lia | omega)) hy4).ne1
          · rw [lsd y (by (first | lia | omega)) hy4, lsd x (by (first | lia | omega)) (by (first | lia | omega))] at e
            exact (tlOk h2 h3 (by (first | lia | omega)) (by (first | lia | omega))).inj y (by (first | lia | omega)) hy4 e
      · have l1 := lst y (by (first | lia | omega))
        by_cases hx4 : x < 4
        · by_cases hx0 : x = 0
          · subst hx0
            rw [← e] at l1
            have : some 47 = some (113 + y) := l1
            injection this
            (first | lia | omega)
          · rw [← e, lsd x (by (first | lia | omega)) hx4, (tlOk h2 h3 (by (first | lia | omega)) hx4).last] at l1
            injection l1
            (first | lia | omega)
        · have l2 := lst x (by (first | lia | omega))
          rw [e, l1] at l2
          injection l2
          (first | lia | omega)
    rcases Nat.le_total x y with h | h
    · exact key x y hx hy h e
    · exact (key y x hy hx h e.symm).symm
  · by_cases h4 : x < 4
    · have h := (tlOk h2 h3 h0 h4).dir
      have e1 : nm0 b2 b3 pl x = LS (tl b2 b3 x) := congrArg LS (lsd x h0 h4)
      have e2 : par0 b2 b3 pl x = abv b2 b3 x := if_pos h4
      rw [e1, e2, nm_up h2 h3 (Nat.lt_trans (abv_lt h2 h3 h0 h4) h4)]
      exact h
    · have hk := hp (x - 4) (by (first | lia | omega))
      have e1 : nm0 b2 b3 pl x = LS (tl b2 b3 (pl (x - 4)) ++ [47, 113 + x]) := by
        unfold nm0 nmL
        rw [if_neg (by (first | lia | omega)), if_neg h4]
      have e2 : par0 b2 b3 pl x = pl (x - 4) := if_neg h4
      rw [e1, e2, nm_up h2 h3 hk]
      exact dir_of (List.all_eq_true.mp (List.all_eq_true.mp dirF _ (tl_mem h2 h3 hk)) _ (let_mem (by (first | lia | omega)) hx))
  · unfold par0
    by_cases h4 : x < 4
    · rw [if_pos h4]; exact abv_lt h2 h3 h0 h4
    · rw [if_neg h4]
      have := hp (x - 4) (by (first | lia | omega))
      (first | lia | omega)
/-- what _law_folders needs -/
theorem tx_ok (a2 a3 : Int) (h1 : 0 ≤ a2) (h2 : a2 < 2) (h3 : 0 ≤ a3) (h4 : a3 < 3) : ∃ u2 u3, Tx a2 a3 u2 u3 (LS (tl a2.toNat a3.toNat 2)) (LS (tl a2.toNat a3.toNat 3)) := by
  have c2 : a2 = 0 ∨ a2 = 1 := by (first | lia | omega)
  have c3 : a3 = 0 ∨ a3 = 1 ∨ a3 = 2 := by (first | lia | omega)
  have em : Str.empty = LS [] := rfl
  have key : ∀ (b2 b3 : Nat) (u2 u3 : List Nat), b2 < 2 → b3 < 3 → at? [.str (LS []) 0, .str (LS [47, 34]) 0] (b2 : Int) = some (.str (LS u2) 0) → at? [.str (LS []) 0, .str (LS [47, 34]) 0, .str (LS (tl b2 b3 2)) 0] (b3 : Int) = some (.str (LS u3) 0) →
      u2.length ≤ 90 → u3.length ≤ 90 → u2 ++ [47] ++ [97, 34] = tl b2 b3 2 → u3 ++ [47] ++ [34, 34] = tl b2 b3 3 → ∃ u2 u3, Tx (b2 : Int) (b3 : Int) u2 u3 (LS (tl b2 b3 2)) (LS (tl b2 b3 3)) := fun b2 b3 u2 u3 q2 q3 g2 g3 k2 k3 e2 e3 => by
    refine ⟨LS u2, LS u3, ⟨by unfold fits; (first | lia | omega), by unfold fits; (first | lia | omega), by rw [em, l_tx1]; exact g2, by rw [em, l_tx1]; exact g3, ?_, ?_, ?_, ?_, ?_, ?_⟩⟩
    · rw [l_sl, LS_len, LS_len]; simp; exact line_of (by (first | lia | omega))
    · rw [l_sl, l_aq, LS_app, LS_len, LS_len]; simp; exact line_of (by (first | lia | omega))
    · rw [l_sl, l_aq, LS_app, LS_app, e2]
    · rw [l_sl, LS_len, LS_len]; simp; exact line_of (by (first | lia | omega))
    · rw [l_sl, l_qq, LS_app, LS_len, LS_len]; simp; exact line_of (by (first | lia | omega))
    · rw [l_sl, l_qq, LS_app, LS_app, e3]
  rcases c2 with rfl | rfl <;> rcases c3 with rfl | rfl | rfl
  · exact key 0 0 [] [] (by decide) (by decide) rfl rfl (by decide) (by decide) rfl rfl
  · exact key 0 1 [] [47, 34] (by decide) (by decide) rfl rfl (by decide) (by decide) rfl rfl
  · exact key 0 2 [] [47, 97, 34] (by decide) (by decide) rfl rfl (by decide) (by decide) rfl rfl
  · exact key 1 0 [47, 34] [] (by decide) (by decide) rfl rfl (by decide) (by decide) rfl rfl
  · exact key 1 1 [47, 34] [47, 34] (by decide) (by decide) rfl rfl (by decide) (by decide) rfl rfl
  · exact key 1 2 [47, 34] [47, 34, 47, 97, 34] (by decide) (by decide) rfl rfl (by decide) (by decide) rfl rfl
/-- the texts of the folders -/
noncomputable def txL (b2 b3 : Nat) : List Str := [Str.empty, tx1, LS (tl b2 b3 2), LS (tl b2 b3 3)]
theorem txL_get {b2 b3 k : Nat} (h : k < 4) : (txL b2 b3)[k]? = some (LS (tl b2 b3 k)) := by
  match k, h with
  | 0, _ => rfl
  | 1, _ => show some tx1 = _; rw [l_tx1]; rfl
  | 2, _ => rfl
  | 3, _ => rfl
theorem let_at' {k : Nat} (h : k < 6) : atS? letters (k : Int) = some (117 + k) := by
  have el : letters = LS [117, 118, 119, 120, 121, 122] := by decide +kernel
  have key : ∀ k : Nat, k < 6 → atS? (LS [117, 118, 119, 120, 121, 122]) (k : Int) = some (117 + k) := by decide +kernel
  rw [el]
  exact key k h
theorem sign_at {j c : Nat} (h : j < 4) (e : atS? signs (j : Int) = some c) : c ∈ sgn := by
  have el : signs = LS [124, 47, 34, 40] := by decide +kernel
  rw [el] at e
  match j, h with
  | 0, _ => have e' : (124 : Nat) = c := Option.some.inj e; subst e'; decide
  | 1, _ => have e' : (47 : Nat) = c := Option.some.inj e; subst e'; decide
  | 2, _ => have e' : (34 : Nat) = c := Option.some.inj e; subst e'; decide
  | 3, _ => have e' : (40 : Nat) = c := Option.some.inj e; subst e'; decide
theorem txL_ok {b2 b3 : Nat} (h2 : b2 < 2) (h3 : b3 < 3) {t tn : Str} {l : Nat} (ht : t ∈ txL b2 b3) (hn : tn ∈ turns) (hl : l ∈ lets) : TxtOk t tn l := by
  obtain ⟨k, hk⟩ := List.getElem?_of_mem ht
  have hk4 : k < 4 := (List.getElem?_eq_some_iff.mp hk).1
  rw [txL_get hk4] at hk
  rw [l_turns] at hn
  obtain ⟨t', h', rfl⟩ := List.mem_map.mp hn
  rw [← Option.some.inj hk]
  exact txtOk (tl_mem h2 h3 hk4) h' hl
theorem tgood {b2 b3 : Nat} (h2 : b2 < 2) (h3 : b3 < 3) : TGood (txL b2 b3) := ⟨rfl, fun t ht tn hn k l hk e => by
  rw [let_at' hk] at e
  injection e with e
  subst e
  have T := txL_ok h2 h3 ht hn (let_k k hk)
  exact ⟨T.h1, T.h2, T.h3⟩⟩
theorem own_ok {c : Nat} {o : Int} (hc : c ∈ sgn) (ho : o ∈ owns) : ∃ r w, Own (owd c o) o c r w := by
  simp only [owns, List.mem_cons, List.not_mem_nil, or_false] at ho
  rcases ho with rfl | rfl | rfl
  · exact own_of hc (dg := [48]) (by simp [dgs]) l_o0
  · exact own_of hc (dg := [55]) (by simp [dgs]) l_o7
  · exact own_of hc (dg := [52, 48]) (by simp [dgs]) l_o40


/-! the plain law: the fewest marks (Hartigan) -/
theorem cp_le {p : Nat → Bool} : ∀ {l l' : List Nat}, l.Nodup → (∀ x ∈ l, p x = true → x ∈ l') → l.countP p ≤ l'.countP p
  | [], _, _, _ => Nat.zero_le _
  | a :: r, l', nd, h => by
    rw [List.nodup_cons] at nd
    by_cases q : p a = true
    · have ha := h a (List.mem_cons_self ..) q
      have e := (List.perm_cons_erase ha).countP_eq p
      have ih := cp_le (p := p) (l := r) (l' := l'.erase a) nd.2 fun x hx hp => by
        have : x ≠ a := fun z => nd.1 (z ▸ hx)
        exact (List.mem_erase_of_ne this).mpr (h x (List.mem_cons_of_mem _ hx) hp)
      rw [e, List.countP_cons_of_pos q, List.countP_cons_of_pos q]
      (first | lia | omega)
    · rw [List.countP_cons_of_neg q]
      exact cp_le nd.2 fun x hx hp => h x (List.mem_cons_of_mem _ hx) hp
theorem cp_add {p q r : Nat → Bool} : ∀ {l : List Nat}, (∀ x ∈ l, (p x = true → q x = true ∨ r x = true)) → l.countP p ≤ l.countP q + l.countP r
  | [], _ => Nat.zero_le _
  | a :: l, h => by
    have ih := cp_add (p := p) (q := q) (r := r) (l := l) fun x hx => h x (List.mem_cons_of_mem _ hx)
    have h0 := h a (List.mem_cons_self ..)
    rw [List.countP_cons, List.countP_cons, List.countP_cons]
    by_cases hp : p a = true
    · rw [if_pos hp]
      rcases h0 hp with z | z
      · rw [if_pos z]; (first | lia | omega)
      · rw [if_pos z]; (first | lia | omega)
    · rw [if_neg hp]; (first | lia | omega)

theorem ite_split (n : Nat) (h : n < 4) (p : Nat → Bool) : (if (n == 0 && p 0) = true then 1 else 0) + (if (n == 1 && p 1) = true then 1 else 0) + (if (n == 2 && p 2) = true then 1 else 0) + (if (n == 3 && p 3) = true then 1 else 0) = if p n = true then 1 else 0 := by
  match n, h with
  | 0, _ => rfl
  | 1, _ => exact Nat.zero_add _
  | 2, _ => exact Nat.zero_add _
  | 3, _ => exact Nat.zero_add _
theorem lin_split {a b c d s i j k l m : Nat} (h : a + b + c + d = s) (q : i + j + k + l = m) : (a + i) + (b + j) + (c + k) + (d + l) = s + m := by (first | lia | omega)
theorem cnt_split {α : Type} (f : α → Nat) (p : Nat → α → Bool) : ∀ (l : List α), (∀ x ∈ l, f x < 4) → (l.countP fun x => f x == 0 && p 0 x) + (l.countP fun x => f x == 1 && p 1 x) + (l.countP fun x => f x == 2 && p 2 x) + (l.countP fun x => f x == 3 && p 3 x) = l.countP fun x => p (f x) x
  | [], _ => rfl
  | a :: l, h => by
    rw [List.countP_cons, List.countP_cons, List.countP_cons, List.countP_cons, List.countP_cons]
    exact lin_split (cnt_split f p l fun x hx => h x (List.mem_cons_of_mem _ hx)) (ite_split (f a) (h a (List.mem_cons_self ..)) fun y => p y a)
section
variable {par : Nat → Nat} {W : Nat → List Int} {ps : List Nat}
noncomputable def gO (ps : List Nat) (par : Nat → Nat) (W : Nat → List Int) (y : Nat) (o : Int) : Nat := ps.countP fun x => decide (par x = y ∧ o ∉ W x)
noncomputable def tO (ps : List Nat) (par : Nat → Nat) (W : Nat → List Int) (c : Nat → Int) : Nat := ps.countP fun x => decide (c (par x) ∉ W x)
noncomputable def chg (l : List Nat) (par : Nat → Nat) (c : Nat → Int) : Nat := l.countP fun x => decide (c x ≠ c (par x))
theorem tO_sum (c : Nat → Int) (l : List Nat) (h : ∀ x ∈ l, par x < 4) : tO l par W c = gO l par W 0 (c 0) + gO l par W 1 (c 1) + gO l par W 2 (c 2) + gO l par W 3 (c 3) := by
  have e := cnt_split par (fun y x => decide (c y ∉ W x)) l h
  have g : ∀ y, (l.countP fun x => par x == y && decide (c y ∉ W x)) = gO l par W y (c y) := fun y => by
    unfold gO
    refine List.countP_congr fun x _ => ?_
    rw [Bool.and_eq_true, beq_iff_eq, decide_eq_true_iff, decide_eq_true_iff]
  rw [g, g, g, g] at e
  exact e.symm
theorem cnt_g (y : Nat) (o : Int) : ∀ (l : List Nat), cntW l par W y o + gO l par W y o = l.countP fun x => decide (par x = y)
  | [] => rfl
  | a :: l => by
    have ih := cnt_g y o l
    unfold cntW gO at ih ⊢
    rw [List.countP_cons, List.countP_cons, List.filter_cons]
    by_cases e : par a = y
    · rw [if_pos (by simpa using e), List.filter_cons]
      by_cases q : o ∈ W a
      · rw [if_pos (by simpa using q), List.length_cons, if_neg (by simp [q]), if_pos (by simpa using e)]; (first | lia | omega)
      · rw [if_neg (by simpa using q), if_pos (by simp [e, q]), if_pos (by simpa using e)]; (first | lia | omega)
    · rw [if_neg (by simpa using e), if_neg (by simp [e]), if_neg (by simpa using e)]; exact ih
theorem best_mem {c : Int → Nat} {o : Int} : o ∈ bestW c ↔ o ∈ owns ∧ ∀ o' ∈ owns, c o' ≤ c o := by
  unfold bestW
  rw [List.mem_filter, List.all_eq_true]
  simp
theorem best_le {c : Int → Nat} {o o' : Int} (h : o ∈ bestW c) (h' : o' ∈ owns) : c o' ≤ c o := (best_mem.mp h).2 o' h'
theorem best_lt {c : Int → Nat} {o o' : Int} (h : o ∈ bestW c) (h' : o' ∈ owns) (hn : o' ∉ bestW c) : c o' < c o := by
  refine Nat.lt_of_le_of_ne (best_le h h') fun e => hn (best_mem.mpr ⟨h', fun q hq => ?_⟩)
  rw [e]; exact best_le h hq
theorem best_ne (c : Int → Nat) : bestW c ≠ [] := by
  have key : ∃ o ∈ owns, ∀ o' ∈ owns, c o' ≤ c o := by
    by_cases h1 : c 0 ≤ c 7
    · by_cases h2 : c 7 ≤ c 40
      · exact ⟨40, by decide, fun o' h => by simp [owns] at h; rcases h with rfl | rfl | rfl <;> (first | lia | omega)⟩
      · exact ⟨7, by decide, fun o' h => by simp [owns] at h; rcases h with rfl | rfl | rfl <;> (first | lia | omega)⟩
    · by_cases h2 : c 0 ≤ c 40
      · exact ⟨40, by decide, fun o' h => by simp [owns] at h; rcases h with rfl | rfl | rfl <;> (first | lia | omega)⟩
      · exact ⟨0, by decide, fun o' h => by simp [owns] at h; rcases h with rfl | rfl | rfl <;> (first | lia | omega)⟩
  obtain ⟨o, h1, h2⟩ := key
  exact List.ne_nil_of_mem (best_mem.mpr ⟨h1, h2⟩)
theorem best_len (c : Int → Nat) : (bestW c).length ≤ 3 := List.length_filter_le _ _
/-- what the marks' colours keep -/
structure ROk (ps : List Nat) (par : Nat → Nat) (W : Nat → List Int) (R : Nat → Int) : Prop where
  mem : ∀ x, x < 10 → R x ∈ W x
  keep : ∀ x, 0 < x → x < 10 → R (par x) ∈ W x → R x = R (par x)
theorem ROk.chg {R : Nat → Int} (h : ROk ps par W R) {l : List Nat} (hl : ∀ x ∈ l, 0 < x ∧ x < 10) : chg l par R = tO l par W R := by
  unfold Mine.chg tO
  refine List.countP_congr fun x hx => ?_
  obtain ⟨h0, h1⟩ := hl x hx
  simp only [decide_eq_true_eq]
  constructor
  · exact fun q z => q (h.keep x h0 h1 z)
  · exact fun q z => q (z ▸ h.mem x h1)
theorem lin_four {a b c d i j k l p q r s : Nat} (h0 : a + i ≤ p) (h1 : b + j ≤ q) (h2 : c + k ≤ r) (h3 : d + l ≤ s) : a + b + c + d + (0 + l + k + j + i) ≤ p + q + r + s := by (first | lia | omega)
theorem t_low {R c : Nat → Int} (hW : ∀ y, y < 4 → W y = bestW (cntW ps par W y)) (hp : ∀ x ∈ ps, par x < 4) (hR : ∀ y, y < 4 → R y ∈ W y) (hc : ∀ y, y < 4 → c y ∈ owns) :
    tO ps par W R + [0, 1, 2, 3].countP (fun y => decide (c y ∉ W y)) ≤ tO ps par W c := by
  rw [tO_sum _ ps hp, tO_sum _ ps hp]
  have key : ∀ y, y < 4 → gO ps par W y (R y) + (if decide (c y ∉ W y) = true then 1 else 0) ≤ gO ps par W y (c y) := fun y hy => by
    have e1 := cnt_g (par := par) (W := W) y (R y) ps
    have e2 := cnt_g (par := par) (W := W) y (c y) ps
    have hRy := hR y hy
    rw [hW y hy] at hRy
    by_cases q : c y ∉ W y
    · rw [if_pos (decide_eq_true q)]
      have hq := q
      rw [hW y hy] at hq
      have := best_lt hRy (hc y hy) hq
      (first | lia | omega)
    · rw [if_neg (by simpa using q)]
      have := best_le hRy (hc y hy)
      (first | lia | omega)
  rw [List.countP_cons, List.countP_cons, List.countP_cons, List.countP_cons, List.countP_nil]
  exact lin_four (key 0 (by decide)) (key 1 (by decide)) (key 2 (by decide)) (key 3 (by decide))
end

/-! the table of the ways -/
noncomputable def csum (f : Nat → Nat) : Nat → Nat
  | 0 => 0
  | k + 1 => csum f k + f k
theorem csum_congr {f g : Nat → Nat} : ∀ {k : Nat}, (∀ j, j < k → f j = g j) → csum f k = csum g k
  | 0, _ => rfl
  | k + 1, h => by
    unfold csum
    rw [csum_congr fun j hj => h j (by (first | lia | omega)), h k (by (first | lia | omega))]
noncomputable def wterm (abv : Nat → Nat) (oth : Nat → Int → Nat) (c : Nat → Int) (k : Nat) : Nat := oth k (c k) + if 0 < k ∧ c (abv k) = c k then 0 else 1
section
variable {abv : Nat → Nat} {oth : Nat → Int → Nat}
theorem wstep_at {c : Nat → Int} {k : Nat} (h : 0 < k → abv k < k) (n : Nat) : wstep abv oth k (c k) ((List.range k).map c, n) = ((List.range (k + 1)).map c, n + wterm abv oth c k) := by
  unfold wstep wterm
  refine Prod.ext ?_ ?_
  · simp [List.range_succ]
  · show n + oth k (c k) + (if decide (0 < k ∧ ((List.range k).map c)[abv k]? = some (c k)) = true then 0 else 1) = _
    have e : (0 < k ∧ ((List.range k).map c)[abv k]? = some (c k)) ↔ (0 < k ∧ c (abv k) = c k) := by
      refine and_congr_right fun h0 => ?_
      rw [List.getElem?_map, List.getElem?_range (h h0)]
      simp
    rw [Nat.add_assoc]
    congr 2
    by_cases q : 0 < k ∧ c (abv k) = c k
    · rw [if_pos (decide_eq_true (e.mpr q)), if_pos q]
    · rw [if_neg (by rw [decide_eq_true_iff, e]; exact q), if_neg q]
theorem ways_of (ha : ∀ k, 0 < k → k < 4 → abv k < k) {c : Nat → Int} (hc : ∀ y, y < 4 → c y ∈ owns) : ∀ k, k ≤ 4 → ((List.range k).map c, csum (wterm abv oth c) k) ∈ ways abv oth k
  | 0, _ => List.mem_singleton.mpr rfl
  | k + 1, hk => by
    have ih := ways_of ha hc k (by (first | lia | omega))
    unfold ways
    rw [List.mem_flatMap]
    refine ⟨c k, hc k (by (first | lia | omega)), List.mem_map.mpr ⟨_, ih, ?_⟩⟩
    rw [wstep_at fun h => ha k h (by (first | lia | omega))]
    rfl
theorem of_ways (ha : ∀ k, 0 < k → k < 4 → abv k < k) : ∀ k, k ≤ 4 → ∀ w ∈ ways abv oth k, ∃ c : Nat → Int, (∀ y, c y ∈ owns) ∧ w = ((List.range k).map c, csum (wterm abv oth c) k)
  | 0, _, w, h => ⟨fun _ => 0, fun _ => List.mem_cons_self .., List.mem_singleton.mp h⟩
  | k + 1, hk, w, h => by
    unfold ways at h
    rw [List.mem_flatMap] at h
    refine by_ng fun ng => ?_
    obtain ⟨o, ho, h⟩ := h
    obtain ⟨w', hw', rfl⟩ := List.mem_map.mp h
    obtain ⟨c, hc, rfl⟩ := of_ways ha k (by (first | lia | omega)) w' hw'
    refine ng ?_
    clear ng
    refine ⟨fun y => if y = k then o else c y, fun y => ?_, ?_⟩
    · show (if y = k then o else c y) ∈ owns
      split
      · exact ho
      · exact hc y
    · have e1 : (List.range k).map c = (List.range k).map (fun y => if y = k then o else c y) := List.map_congr_left fun y hy => by
        have := List.mem_range.mp hy
        rw [if_neg (by (first | lia | omega))]
      have e2 : csum (wterm abv oth c) k = csum (wterm abv oth fun y => if y = k then o else c y) k := csum_congr fun j hj => by
        unfold wterm
        show _ = oth j (if j = k then o else c j) + if 0 < j ∧ (if abv j = k then o else c (abv j)) = (if j = k then o else c j) then 0 else 1
        rw [if_neg (show ¬ j = k by (first | lia | omega))]
        by_cases h0 : 0 < j
        · have := ha j h0 (by (first | lia | omega))
          rw [if_neg (show ¬ abv j = k by (first | lia | omega))]
        · simp [h0]
      have := wstep_at (abv := abv) (oth := oth) (c := fun y => if y = k then o else c y) (k := k) (fun h => ha k h (by (first | lia | omega))) (csum (wterm abv oth fun y => if y = k then o else c y) k)
      rw [if_pos rfl] at this
      rw [e1, e2, this]
      rfl
end
theorem oth_sum (c : Nat → Int) (dl : List (Nat × Int)) (h : ∀ p ∈ dl, p.1 < 4) : othersOf dl 0 (c 0) + othersOf dl 1 (c 1) + othersOf dl 2 (c 2) + othersOf dl 3 (c 3) = dl.countP fun p => decide (p.2 ≠ c p.1) := by
  have e := cnt_split (fun p : Nat × Int => p.1) (fun y p => p.2 != c y) dl h
  have g : ∀ y, (dl.countP fun p => p.1 == y && p.2 != c y) = othersOf dl y (c y) := fun y => List.countP_eq_length_filter ..
  rw [g, g, g, g] at e
  rw [e]
  refine List.countP_congr fun x _ => ?_
  rw [bne_iff_ne, decide_eq_true_iff]

/-! the law in one place -/
section
variable (b2 b3 : Nat) (pl : Nat → Nat) (ow : Nat → Int) (ps : List Nat)
noncomputable def dl0 : List (Nat × Int) := (List.range 6).map fun k => (pl k, ow k)
noncomputable def fl0 : List (Nat × Int) := (List.range 6).map fun k => (4 + k, ow k)
noncomputable def W0 (x : Nat) : List Int := if x < 4 then [] else [ow (x - 4)]
noncomputable def setWn (W : Nat → List Int) (par : Nat → Nat) (y : Nat) : Nat → List Int := fun x => if x = y then bestW (cntW ps par W y) else W x
noncomputable def Wn (par : Nat → Nat) : Nat → List Int := setWn ps (setWn ps (setWn ps (setWn ps (W0 ow) par 3) par 2) par 1) par 0
end
theorem cnt_congr {ps : List Nat} {par : Nat → Nat} {W W' : Nat → List Int} {y : Nat} (h : ∀ x ∈ ps, par x = y → W x = W' x) : cntW ps par W y = cntW ps par W' y := by
  funext o
  unfold cntW
  congr 1
  refine List.filter_congr fun x hx => ?_
  rw [List.mem_filter] at hx
  rw [h x hx.1 (by simpa using hx.2)]
theorem setWn_ne {ps : List Nat} {par : Nat → Nat} {W : Nat → List Int} {x y : Nat} (h : x ≠ y) : setWn ps W par y x = W x := if_neg h
theorem setWn_eq {ps : List Nat} {par : Nat → Nat} {W : Nat → List Int} {y : Nat} : setWn ps W par y y = bestW (cntW ps par W y) := if_pos rfl
theorem Wn_file {ow : Nat → Int} {ps : List Nat} {par : Nat → Nat} {x : Nat} (h : 4 ≤ x) : Wn ow ps par x = [ow (x - 4)] := by
  unfold Wn
  rw [setWn_ne (by (first | lia | omega)), setWn_ne (by (first | lia | omega)), setWn_ne (by (first | lia | omega)), setWn_ne (by (first | lia | omega))]
  exact if_neg (by (first | lia | omega))
theorem Wn_fold {ow : Nat → Int} {ps : List Nat} {par : Nat → Nat} (lt : ∀ x ∈ ps, par x < x) {y : Nat} (h : y < 4) : Wn ow ps par y = bestW (cntW ps par (Wn ow ps par) y) := by
  match y, h with
  | 0, _ =>
    rw [show cntW ps par (Wn ow ps par) 0 = cntW ps par (setWn ps (setWn ps (setWn ps (W0 ow) par 3) par 2) par 1) 0 from cnt_congr fun x hx e => by
      have := lt x hx
      unfold Wn; rw [setWn_ne (by (first | lia | omega))]]
    exact setWn_eq
  | 1, _ =>
    rw [show cntW ps par (Wn ow ps par) 1 = cntW ps par (setWn ps (setWn ps (W0 ow) par 3) par 2) 1 from cnt_congr fun x hx e => by
      have := lt x hx
      unfold Wn; rw [setWn_ne (by (first | lia | omega)), setWn_ne (by (first | lia | omega))]]
    unfold Wn; rw [setWn_ne (by (first | lia | omega))]; exact setWn_eq
  | 2, _ =>
    rw [show cntW ps par (Wn ow ps par) 2 = cntW ps par (setWn ps (W0 ow) par 3) 2 from cnt_congr fun x hx e => by
      have := lt x hx
      unfold Wn; rw [setWn_ne (by (first | lia | omega)), setWn_ne (by (first | lia | omega)), setWn_ne (by (first | lia | omega))]]
    unfold Wn; rw [setWn_ne (by (first | lia | omega)), setWn_ne (by (first | lia | omega))]; exact setWn_eq
  | 3, _ =>
    rw [show cntW ps par (Wn ow ps par) 3 = cntW ps par (W0 ow) 3 from cnt_congr fun x hx e => by
      have := lt x hx
      unfold Wn; rw [setWn_ne (by (first | lia | omega)), setWn_ne (by (first | lia | omega)), setWn_ne (by (first | lia | omega)), setWn_ne (by (first | lia | omega))]]
    unfold Wn; rw [setWn_ne (by (first | lia | omega)), setWn_ne (by (first | lia | omega)), setWn_ne (by (first | lia | omega))]; exact setWn_eq
/-- a colouring from the root down -/
noncomputable def Rf (par : Nat → Nat) (W : Nat → List Int) (pk : Nat → Int) : Nat → Nat → Int
  | 0, y => pk y
  | n + 1, y => if y = 0 then pk y else if Rf par W pk n (par y) ∈ W y then Rf par W pk n (par y) else pk y
section
variable {par : Nat → Nat} {W : Nat → List Int} {pk : Nat → Int}
theorem Rf_at (lt : ∀ x, 0 < x → x < 10 → par x < x) : ∀ (n y : Nat), y < 10 → y ≤ n → Rf par W pk n y = Rf par W pk (n + 1) y
  | 0, y, _, h => by
    have : y = 0 := by (first | lia | omega)
    subst this
    unfold Rf; rw [if_pos rfl]
  | n + 1, y, hy, h => by
    rw [Rf, Rf]
    by_cases h0 : y = 0
    · rw [if_pos h0, if_pos h0]
    · have hl := lt y (by (first | lia | omega)) hy
      rw [if_neg h0, if_neg h0, Rf_at lt n (par y) (by (first | lia | omega)) (by (first | lia | omega))]
theorem Rf_eq (lt : ∀ x, 0 < x → x < 10 → par x < x) {y : Nat} (h0 : 0 < y) (hy : y < 10) : Rf par W pk 10 y = if Rf par W pk 10 (par y) ∈ W y then Rf par W pk 10 (par y) else pk y := by
  have hl := lt y h0 hy
  rw [Rf_at lt 10 (par y) (by (first | lia | omega)) (by (first | lia | omega)), Rf_at lt 10 y hy (by (first | lia | omega))]
  conv => lhs; rw [Rf]
  rw [if_neg (by (first | lia | omega)), ← Rf_at lt 10 (par y) (by (first | lia | omega)) (by (first | lia | omega))]
theorem Rf_ok (ps : List Nat) (lt : ∀ x, 0 < x → x < 10 → par x < x) (hk : ∀ y, y < 10 → pk y ∈ W y) : ROk ps par W (Rf par W pk 10) := by
  refine ⟨fun x hx => ?_, fun x h0 hx h => by rw [Rf_eq lt h0 hx, if_pos h]⟩
  by_cases h0 : 0 < x
  · rw [Rf_eq lt h0 hx]
    split
    · assumption
    · exact hk x hx
  · have : x = 0 := by (first | lia | omega)
    subst this
    exact hk 0 hx
end


noncomputable def NN : List Nat := [1, 2, 3] ++ (List.range 6).map fun k => 4 + k
theorem NN_mem {x : Nat} : x ∈ NN ↔ 0 < x ∧ x < 10 := by
  simp only [NN, List.mem_append, List.mem_cons, List.not_mem_nil, or_false, List.mem_map, List.mem_range]
  constructor
  · rintro (h | ⟨k, hk, rfl⟩) <;> (first | lia | omega)
  · intro h
    by_cases q : x < 4
    · left; (first | lia | omega)
    · right; exact ⟨x - 4, by (first | lia | omega), by (first | lia | omega)⟩
theorem NN_nd : NN.Nodup := by decide
noncomputable def extC (ow : Nat → Int) (c : Nat → Int) (x : Nat) : Int := if x < 4 then c x else ow (x - 4)
structure Cfg (b2 b3 : Nat) (pl : Nat → Nat) (ow : Nat → Int) (ps : List Nat) : Prop where
  h2 : b2 < 2
  h3 : b3 < 3
  hp : ∀ k, k < 6 → pl k < 4
  ho : ∀ k, k < 6 → ow k ∈ owns
  hs : PsOk (par0 b2 b3 pl) ((fl0 ow).map (·.1)) ps
section
variable {b2 b3 : Nat} {pl : Nat → Nat} {ow : Nat → Int} {ps : List Nat}
theorem Cfg.lt (h : Cfg b2 b3 pl ow ps) (x : Nat) (h0 : 0 < x) (hx : x < 10) : par0 b2 b3 pl x < x := (tree_ok h.h2 h.h3 h.hp).lt x h0 hx
theorem Cfg.par4 (h : Cfg b2 b3 pl ow ps) {x : Nat} (h0 : 0 < x) (hx : x < 10) : par0 b2 b3 pl x < 4 := by
  by_cases q : x < 4
  · exact Nat.lt_trans (h.lt x h0 hx) q
  · unfold par0
    rw [if_neg q]
    exact h.hp _ (by (first | lia | omega))
theorem Cfg.files (h : Cfg b2 b3 pl ow ps) {x : Nat} (h4 : 4 ≤ x) (hx : x < 10) : x ∈ ps := h.hs.fl x (List.mem_map.mpr ⟨(x, ow (x - 4)), List.mem_map.mpr ⟨x - 4, List.mem_range.mpr (by (first | lia | omega)), by rw [show 4 + (x - 4) = x by (first | lia | omega)]⟩, rfl⟩)
theorem Cfg.Wf (h : Cfg b2 b3 pl ow ps) {y : Nat} (hy : y < 4) : Wn ow ps (par0 b2 b3 pl) y = bestW (cntW ps (par0 b2 b3 pl) (Wn ow ps (par0 b2 b3 pl)) y) := Wn_fold (fun x hx => h.lt x (h.hs.rg x hx).1 (h.hs.rg x hx).2) hy
theorem Cfg.Wow (h : Cfg b2 b3 pl ow ps) {x : Nat} {o : Int} (hx : x < 10) (ho : o ∈ Wn ow ps (par0 b2 b3 pl) x) : o ∈ owns := by
  by_cases q : x < 4
  · rw [h.Wf q] at ho; exact (best_mem.mp ho).1
  · rw [Wn_file (by (first | lia | omega)), List.mem_singleton] at ho
    rw [ho]; exact h.ho _ (by (first | lia | omega))
/-- a folder without a file: all the same -/
theorem Cfg.Wall (h : Cfg b2 b3 pl ow ps) {x : Nat} (h0 : 0 < x) (hx : x < 10) (hn : x ∉ ps) {o : Int} (ho : o ∈ owns) : o ∈ Wn ow ps (par0 b2 b3 pl) x := by
  have h4 : x < 4 := by
    refine Classical.byContradiction fun q => hn (h.files (by (first | lia | omega)) hx)
  rw [h.Wf h4, best_mem]
  refine ⟨ho, fun o' _ => ?_⟩
  have e : ∀ o, cntW ps (par0 b2 b3 pl) (Wn ow ps (par0 b2 b3 pl)) x o = 0 := fun o => by
    unfold cntW
    rw [List.filter_eq_nil_iff.mpr]
    · rfl
    · intro z hz _
      have q : par0 b2 b3 pl z = x := by simpa using (List.mem_filter.mp hz).2
      have hz := (List.mem_filter.mp hz).1
      rcases h.hs.cl z hz with w | w
      · (first | lia | omega)
      · exact hn (q ▸ w)
  rw [e, e]; exact Nat.le_refl _
theorem Cfg.cost (h : Cfg b2 b3 pl ow ps) (c : Nat → Int) : csum (wterm (abv b2 b3) (othersOf (dl0 pl ow)) c) 4 = 1 + chg NN (par0 b2 b3 pl) (extC ow c) := by
  have e1 := oth_sum c (dl0 pl ow) fun p hp => by
    obtain ⟨k, hk, rfl⟩ := List.mem_map.mp hp
    exact h.hp k (List.mem_range.mp hk)
  have e2 : (dl0 pl ow).countP (fun p => decide (p.2 ≠ c p.1)) = ((List.range 6).map fun k => 4 + k).countP fun x => decide (extC ow c x ≠ extC ow c (par0 b2 b3 pl x)) := by
    unfold dl0
    rw [List.countP_map, List.countP_map]
    refine List.countP_congr fun k hk => ?_
    have hk := List.mem_range.mp hk
    have hq := h.hp k hk
    have w1 : extC ow c (4 + k) = ow k := by unfold extC; rw [if_neg (by (first | lia | omega))]; congr 1; (first | lia | omega)
    have w2 : par0 b2 b3 pl (4 + k) = pl k := by unfold par0; rw [if_neg (by (first | lia | omega))]; congr 1; (first | lia | omega)
    have w3 : extC ow c (pl k) = c (pl k) := if_pos hq
    simp only [Function.comp, w1, w2, w3]
  have a1 : ∀ k, 0 < k → k < 4 → (if 0 < k ∧ c (abv b2 b3 k) = c k then 0 else 1) = if decide (extC ow c k ≠ extC ow c (par0 b2 b3 pl k)) = true then 1 else 0 := fun k h0 h4 => by
    have w1 : extC ow c k = c k := if_pos h4
    have w2 : par0 b2 b3 pl k = abv b2 b3 k := if_pos h4
    have w3 : extC ow c (abv b2 b3 k) = c (abv b2 b3 k) := if_pos (Nat.lt_trans (abv_lt h.h2 h.h3 h0 h4) h4)
    rw [w1, w2, w3]
    by_cases q : c (abv b2 b3 k) = c k
    · simp [h0, q]
    · rw [if_neg (fun z => q z.2), if_pos (decide_eq_true (show c k ≠ c (abv b2 b3 k) from fun z => q z.symm))]
  have b1 := a1 1 (by decide) (by decide)
  have b2' := a1 2 (by decide) (by decide)
  have b3' := a1 3 (by decide) (by decide)
  unfold chg NN
  rw [List.countP_append, ← e2, ← e1]
  simp only [csum, wterm, List.countP_cons, List.countP_nil]
  rw [b1, b2', b3']
  rw [if_neg (show ¬ (0 < 0 ∧ c (abv b2 b3 0) = c 0) from fun z => absurd z.1 (Nat.lt_irrefl _))]
  (first | lia | omega)
theorem Cfg.low (h : Cfg b2 b3 pl ow ps) {R : Nat → Int} (hR : ROk ps (par0 b2 b3 pl) (Wn ow ps (par0 b2 b3 pl)) R) {c : Nat → Int} (hc : ∀ y, y < 4 → c y ∈ owns) :
    tO ps (par0 b2 b3 pl) (Wn ow ps (par0 b2 b3 pl)) R + (if c 0 ∉ Wn ow ps (par0 b2 b3 pl) 0 then 1 else 0) ≤ chg NN (par0 b2 b3 pl) (extC ow c) := by
  have e : ∀ y, y < 4 → extC ow c y = c y := fun y hy => if_pos hy
  have k1 := t_low (W := Wn ow ps (par0 b2 b3 pl)) (R := R) (c := extC ow c) (fun y hy => h.Wf hy) (fun x hx => h.par4 (h.hs.rg x hx).1 (h.hs.rg x hx).2) (fun y hy => hR.mem y (by (first | lia | omega))) (fun y hy => by rw [e y hy]; exact hc y hy)
  have k2 : tO ps (par0 b2 b3 pl) (Wn ow ps (par0 b2 b3 pl)) (extC ow c) ≤ chg ps (par0 b2 b3 pl) (extC ow c) + ps.countP fun x => decide (extC ow c x ∉ Wn ow ps (par0 b2 b3 pl) x) := by
    unfold tO chg
    refine cp_add fun x hx q => ?_
    simp only [decide_eq_true_eq] at q ⊢
    by_cases z : extC ow c x = extC ow c (par0 b2 b3 pl x)
    · right; rw [z]; exact q
    · left; exact z
  have k3 : (ps.countP fun x => decide (extC ow c x ∉ Wn ow ps (par0 b2 b3 pl) x)) ≤ [1, 2, 3].countP fun x => decide (extC ow c x ∉ Wn ow ps (par0 b2 b3 pl) x) := by
    refine cp_le h.hs.nd fun x hx q => ?_
    obtain ⟨h0, h9⟩ := h.hs.rg x hx
    simp only [decide_eq_true_eq] at q
    have : x < 4 := by
      refine Classical.byContradiction fun z => q ?_
      rw [Wn_file (by (first | lia | omega))]
      unfold extC
      rw [if_neg z]; exact List.mem_cons_self ..
    simp; (first | lia | omega)
  have k4 : chg ps (par0 b2 b3 pl) (extC ow c) ≤ chg NN (par0 b2 b3 pl) (extC ow c) := cp_le h.hs.nd fun x hx _ => NN_mem.mpr (h.hs.rg x hx)
  rw [List.countP_cons] at k1
  rw [e 0 (by decide)] at k1
  have k5 : (if decide (c 0 ∉ Wn ow ps (par0 b2 b3 pl) 0) = true then 1 else 0) = if c 0 ∉ Wn ow ps (par0 b2 b3 pl) 0 then 1 else 0 := by simp
  rw [k5] at k1
  (first | lia | omega)
theorem Cfg.high (h : Cfg b2 b3 pl ow ps) {R : Nat → Int} (hR : ROk ps (par0 b2 b3 pl) (Wn ow ps (par0 b2 b3 pl)) R) : chg NN (par0 b2 b3 pl) (extC ow R) = tO ps (par0 b2 b3 pl) (Wn ow ps (par0 b2 b3 pl)) R := by
  have e : ∀ x, x < 10 → extC ow R x = R x := fun x hx => by
    unfold extC
    by_cases q : x < 4
    · rw [if_pos q]
    · rw [if_neg q]
      have := hR.mem x hx
      rw [Wn_file (by (first | lia | omega)), List.mem_singleton] at this
      exact this.symm
  have e1 : chg NN (par0 b2 b3 pl) (extC ow R) = chg NN (par0 b2 b3 pl) R := by
    unfold chg
    refine List.countP_congr fun x hx => ?_
    obtain ⟨h0, h9⟩ := NN_mem.mp hx
    rw [e x h9, e _ (Nat.lt_trans (h.lt x h0 h9) h9)]
  rw [e1, ← hR.chg h.hs.rg]
  refine Nat.le_antisymm (cp_le NN_nd fun x hx q => ?_) (cp_le h.hs.nd fun x hx _ => NN_mem.mpr (h.hs.rg x hx))
  obtain ⟨h0, h9⟩ := NN_mem.mp hx
  simp only [decide_eq_true_eq] at q
  refine Classical.byContradiction fun z => q (hR.keep x h0 h9 (h.Wall h0 h9 z ?_))
  have hl : par0 b2 b3 pl x < 10 := Nat.lt_trans (h.lt x h0 h9) h9
  exact h.Wow hl (hR.mem _ hl)
theorem Cfg.hart (h : Cfg b2 b3 pl ow ps) {R : Nat → Int} (hR : ROk ps (par0 b2 b3 pl) (Wn ow ps (par0 b2 b3 pl)) R) {M : Nat} (h1 : ∃ w ∈ ways (abv b2 b3) (othersOf (dl0 pl ow)) 4, w.2 = M) (h2 : ∀ w ∈ ways (abv b2 b3) (othersOf (dl0 pl ow)) 4, M ≤ w.2) :
    M = 1 + tO ps (par0 b2 b3 pl) (Wn ow ps (par0 b2 b3 pl)) R ∧ (owns.filter fun o => (ways (abv b2 b3) (othersOf (dl0 pl ow)) 4).any fun w => w.2 == M && w.1.head? == some o) = Wn ow ps (par0 b2 b3 pl) 0 := by
  have ha : ∀ k, 0 < k → k < 4 → abv b2 b3 k < k := fun k a b => abv_lt h.h2 h.h3 a b
  have up : ∀ R', ROk ps (par0 b2 b3 pl) (Wn ow ps (par0 b2 b3 pl)) R' → ((List.range 4).map R', 1 + tO ps (par0 b2 b3 pl) (Wn ow ps (par0 b2 b3 pl)) R') ∈ ways (abv b2 b3) (othersOf (dl0 pl ow)) 4 := fun R' hR' => by
    have := ways_of (oth := othersOf (dl0 pl ow)) ha (c := R') (fun y hy => h.Wow (by (first | lia | omega)) (hR'.mem y (by (first | lia | omega)))) 4 (Nat.le_refl _)
    rw [h.cost, h.high hR'] at this
    exact this
  have lo : ∀ w ∈ ways (abv b2 b3) (othersOf (dl0 pl ow)) 4, ∃ c0, w.1.head? = some c0 ∧ c0 ∈ owns ∧ 1 + tO ps (par0 b2 b3 pl) (Wn ow ps (par0 b2 b3 pl)) R + (if c0 ∉ Wn ow ps (par0 b2 b3 pl) 0 then 1 else 0) ≤ w.2 := fun w hw => by
    obtain ⟨c, hc, rfl⟩ := of_ways ha 4 (Nat.le_refl _) w hw
    refine ⟨c 0, rfl, hc 0, ?_⟩
    have := h.low hR (c := c) fun y _ => hc y
    show _ ≤ csum _ 4
    rw [h.cost]
    (first | lia | omega)
  have hM : M = 1 + tO ps (par0 b2 b3 pl) (Wn ow ps (par0 b2 b3 pl)) R := by
    refine by_ng fun ng => ?_
    obtain ⟨w, hw, e⟩ := h1
    obtain ⟨c0, _, _, q⟩ := lo w hw
    refine ng ?_
    clear ng
    have := h2 _ (up R hR)
    rw [← e] at this ⊢
    have q' : w.2 ≤ 1 + tO ps (par0 b2 b3 pl) (Wn ow ps (par0 b2 b3 pl)) R := this
    (first | lia | omega)
  refine ⟨hM, ?_⟩
  rw [h.Wf (by decide)]
  unfold bestW
  refine List.filter_congr fun o ho => ?_
  have e : (owns.all fun o' => decide (cntW ps (par0 b2 b3 pl) (Wn ow ps (par0 b2 b3 pl)) 0 o' ≤ cntW ps (par0 b2 b3 pl) (Wn ow ps (par0 b2 b3 pl)) 0 o)) = decide (o ∈ Wn ow ps (par0 b2 b3 pl) 0) := by
    rw [Bool.eq_iff_iff, decide_eq_true_iff, h.Wf (by decide), best_mem, List.all_eq_true]
    simp [ho]
  rw [e, Bool.eq_iff_iff, decide_eq_true_iff, List.any_eq_true]
  constructor
  · intro rr61
    obtain ⟨w, hw, q⟩ := rr61
    simp only [Bool.and_eq_true, beq_iff_eq] at q
    refine by_ng fun ng => ?_
    obtain ⟨c0, k1, _, k2⟩ := lo w hw
    refine ng ?_
    clear ng
    rw [q.2] at k1
    cases k1
    refine Classical.byContradiction fun z => ?_
    rw [if_pos z] at k2
    (first | lia | omega)
  · intro q
    have ok := Rf_ok (pk := fun y => if y = 0 then o else ((Wn ow ps (par0 b2 b3 pl) y).head?).getD 0) (W := Wn ow ps (par0 b2 b3 pl)) ps h.lt fun y hy => by
      by_cases z : y = 0
      · subst z; exact q
      · show (if y = 0 then o else _) ∈ _
        rw [if_neg z]
        have ne : Wn ow ps (par0 b2 b3 pl) y ≠ [] := by
          by_cases y4 : y < 4
          · rw [h.Wf y4]; exact best_ne _
          · rw [Wn_file (by (first | lia | omega))]; simp
        cases e : Wn ow ps (par0 b2 b3 pl) y with
        | nil => exact absurd e ne
        | cons a r => exact List.mem_cons_self ..
    refine ⟨_, up _ ok, ?_⟩
    have k1 := h.low hR (c := Rf (par0 b2 b3 pl) (Wn ow ps (par0 b2 b3 pl)) (fun y => if y = 0 then o else ((Wn ow ps (par0 b2 b3 pl) y).head?).getD 0) 10) fun y hy => h.Wow (by (first | lia | omega)) (ok.mem y (by (first | lia | omega)))
    have k2 := h.low ok (c := R) fun y hy => h.Wow (by (first | lia | omega)) (hR.mem y (by (first | lia | omega)))
    rw [h.high ok] at k1
    rw [h.high hR] at k2
    simp only [Bool.and_eq_true, beq_iff_eq]
    refine ⟨by (first | lia | omega), rfl⟩
theorem Cfg.top (h : Cfg b2 b3 pl ow ps) : ∃ x ∈ ps, par0 b2 b3 pl x = 0 := by
  have key : ∀ n x, x ≤ n → x ∈ ps → ∃ x ∈ ps, par0 b2 b3 pl x = 0 := fun n => by
    induction n with
    | zero => intro x hx hp; have := (h.hs.rg x hp).1; (first | lia | omega)
    | succ n ih =>
      intro x hx hp
      rcases h.hs.cl x hp with w | w
      · exact ⟨x, hp, w⟩
      · have := h.lt x (h.hs.rg x hp).1 (h.hs.rg x hp).2
        exact ih _ (by (first | lia | omega)) w
  exact key 9 9 (Nat.le_refl _) (h.files (by decide) (by decide))
theorem Cfg.marks (h : Cfg b2 b3 pl ow ps) {R : Nat → Int} {rv : List Nat} (nd : rv.Nodup) (hm : ∀ y, y ∈ rv ↔ ∃ x ∈ ps, y = x ∨ y = par0 b2 b3 pl x) : (rv.filter (mkd (par0 b2 b3 pl) (Wn ow ps (par0 b2 b3 pl)) R)).length = 1 + tO ps (par0 b2 b3 pl) (Wn ow ps (par0 b2 b3 pl)) R := by
  have n0 : 0 ∉ ps := fun z => absurd (h.hs.rg 0 z).1 (Nat.lt_irrefl _)
  have z0 : 0 ∈ rv := by
    obtain ⟨x, hx, e⟩ := h.top
    exact (hm 0).mpr ⟨x, hx, .inr e.symm⟩
  have mem : ∀ y, y ∈ rv ↔ y ∈ 0 :: ps := fun y => by
    rw [List.mem_cons]
    constructor
    · intro q
      obtain ⟨x, hx, e⟩ := (hm y).mp q
      rcases e with rfl | rfl
      · exact .inr hx
      · exact h.hs.cl x hx
    · rintro (rfl | q)
      · exact z0
      · exact (hm y).mpr ⟨y, q, .inl rfl⟩
  rw [← List.countP_eq_length_filter]
  have e : rv.countP (mkd (par0 b2 b3 pl) (Wn ow ps (par0 b2 b3 pl)) R) = (0 :: ps).countP (mkd (par0 b2 b3 pl) (Wn ow ps (par0 b2 b3 pl)) R) :=
    Nat.le_antisymm (cp_le nd fun x hx _ => (mem x).mp hx) (cp_le (List.nodup_cons.mpr ⟨n0, h.hs.nd⟩) fun x hx _ => (mem x).mpr hx)
  rw [e, List.countP_cons_of_pos (by unfold mkd; simp), Nat.add_comm]
  congr 1
  unfold tO
  refine List.countP_congr fun x hx => ?_
  have := (h.hs.rg x hx).1
  unfold mkd
  have : ¬ x = 0 := by (first | lia | omega)
  simp [this]
end


noncomputable def lenDW : BW := fun vs Q H L => ∃ a es ep, vs = [.ref a] ∧ H a = some (.dct es ep) ∧ es.length ≤ 1000 ∧ Q (.int es.length 0) H L
theorem b_lenD {C : Ctx} (S : Stat C) : CallA C (.builtin "len") lenDW := fun P hP vs s H L Q tk r rrq => by
  refine by_ng fun ng => ?_
  obtain ⟨a, es, ep, h, h1, h2, h3⟩ := rrq
  refine ng ?_
  clear ng
  obtain ⟨v, vs', rfl, e1, h⟩ := map_cons_inv h; cases map_nil_inv h
  cases er_ref e1
  have hs := not_sys (S.at hP).sys r h1
  refine by_ng fun ng => ?_
  obtain ⟨_, kvs, hd, rfl⟩ := r.hp _ _ h1
  refine ng ?_
  clear ng
  rw [List.length_map] at h2 h3
  exact call_len_dict hs hd.dictOf (by (first | lia | omega)) (Post.tok r h3)
theorem All2.of {α β : Type} {p : α → β → Prop} : ∀ {as : List α} {bs : List β}, as.length = bs.length → (∀ (k : Nat) (a : α) (b : β), as[k]? = some a → bs[k]? = some b → p a b) → All2 p as bs
  | [], [], _, _ => trivial
  | a :: as, b :: bs, e, h => ⟨h 0 a b rfl rfl, All2.of (Nat.succ.inj e) fun k x y h1 h2 => h (k + 1) x y h1 h2⟩
theorem three {H : HA} {A X c : Addr} {a x t : HO} (hA : H A = none) (hX : H X = none) (hc : H c = none) (n1 : X ≠ A) (n2 : c ≠ A) (n3 : c ≠ X) :
    upd (upd (upd H A a) X x) c t A = some a ∧ upd (upd (upd H A a) X x) c t X = some x ∧ upd (upd (upd H A a) X x) c t c = some t ∧ HSub H (upd (upd (upd H A a) X x) c t) :=
  ⟨by rw [upd_ne _ _ n2.symm, upd_ne _ _ n1.symm, upd_same], by rw [upd_ne _ _ n3.symm, upd_same], upd_same _ _ _, fun p ho e => by
    have ne : ∀ {q : Addr}, H q = none → p ≠ q := fun w z => by rw [z, w] at e; cases e
    rw [upd_ne _ _ (ne hc), upd_ne _ _ (ne hX), upd_ne _ _ (ne hA)]; exact e⟩
theorem nm_file {b2 b3 : Nat} {pl : Nat → Nat} {k : Nat} : LS (tl b2 b3 (pl k)) ++ Str.ofString "/" ++ (⟨#[117 + k]⟩ : Str) = nm0 b2 b3 pl (4 + k) := by
  rw [l_sl, LS_app]
  show LS _ ++ LS [117 + k] = _
  rw [LS_app]
  unfold nm0 nmL
  rw [if_neg (by (first | lia | omega)), if_neg (by (first | lia | omega)), show 4 + k - 4 = k by (first | lia | omega), show 113 + (4 + k) = 117 + k by (first | lia | omega)]
  simp
theorem drw_file {b2 b3 : Nat} (h2 : b2 < 2) (h3 : b3 < 3) {pl : Nat → Nat} {ow : Nat → Int} {H : HA} {k : Nat} (hk : k < 6) {r : Addr} (D : Drw (txL b2 b3) H k r (pl k) (ow k)) :
    ∃ nm od dn, H r = some (.tup [.int (pl k : Int) 0, .int (ow k) 0, .str nm 0, .str od 0]) ∧ FileOk nm od (nm0 b2 b3 pl (4 + k)) (ow k) dn := by
  refine by_ng fun ng => ?_
  obtain ⟨p4, po, t, tn, l, c, e1, e2, e3, ⟨j, hj, e4⟩, e5⟩ := D
  refine ng ?_
  clear ng
  have hl : l = 117 + k := by rw [let_at' hk] at e3; injection e3 with e3; exact e3.symm
  rw [txL_get p4] at e1
  injection e1 with e1
  subst e1
  subst hl
  have T := txL_ok h2 h3 (List.mem_of_getElem? (txL_get (b2 := b2) (b3 := b3) p4)) e2 (l := 117 + k) (let_k k hk)
  obtain ⟨rr, w, O⟩ := own_ok (sign_at hj e4) po
  have N := T.nr
  rw [nm_file] at N
  exact ⟨_, _, _, e5, T.p7, T.j1, T.j2, N, _, _, _, O⟩
theorem s_path {Q : Value → HA → Ls → Prop} {H : HA} {L : Ls} {a : Addr} {xs : List Value} {k : Nat} (e : H a = some (.lst xs)) (hk : k ≤ 100) {v : Value} (g : xs[k]? = some v) (h : Q v H L) : itemW (.ref a) (.int (k : Int) 0) Q H L :=
  s_list e (by unfold fits; (first | lia | omega)) (at_lt (by (first | lia | omega)) (by have := (List.getElem?_eq_some_iff.mp g).1; (first | lia | omega)) (by simpa using g)) h
/-! data of the compared lists -/
noncomputable def fdat (nm : Nat → Str) (p : Nat × Int) : PyData := .tuple [.str (nm p.1), .int p.2]
theorem rd_files {nm : Nat → Str} {H : HA} : ∀ {rs : List Addr} {fl : List (Nat × Int)}, All2 (FileAt nm H) rs fl → RdAll H (rs.map Value.ref) (fl.map (fdat nm))
  | [], [], _ => .nil
  | _ :: _, _ :: _, h => .cons (.tup h.1 (.cons (.str _) (.cons (.int _) .nil))) (rd_files h.2)
theorem cl_files {nm : Nat → Str} : ∀ (fl : List (Nat × Int)), (∀ p ∈ fl, PyData.strOk (nm p.1) = true) → PyData.canLayAll0 (fl.map (fdat nm)) = true
  | [], _ => rfl
  | p :: fl, h => by
    have := cl_files (nm := nm) fl fun q hq => h q (List.mem_cons_of_mem _ hq)
    have h0 := h p (List.mem_cons_self ..)
    rw [List.map_cons]
    unfold PyData.canLayAll0
    rw [this]
    simp [fdat, PyData.canLay0, PyData.canLayAll0, h0]
theorem dp_files {nm : Nat → Str} : ∀ (fl : List (Nat × Int)), PyData.depthAll (fl.map (fdat nm)) ≤ 3
  | [] => by rw [List.map_nil]; decide
  | p :: fl => by
    have := dp_files (nm := nm) fl
    rw [List.map_cons]
    unfold PyData.depthAll
    have e : (fdat nm p).depth ≤ 3 := by simp [fdat, PyData.depth, PyData.depthAll]
    exact Nat.max_le.mpr ⟨e, this⟩
theorem s_neF {Q : Value → HA → Ls → Prop} {H : HA} {L : Ls} {nm : Nat → Str} {fl : List (Nat × Int)} {a b : Addr} (hs : ∀ p ∈ fl, PyData.strOk (nm p.1) = true) (h1 : RefsAt (FileAt nm) H a fl) (h2 : RefsAt (FileAt nm) H b fl) (h : Q (.bool false) H L) : cmpW .NotEq (.ref a) (.ref b) Q H L := by
  refine by_ng fun ng => ?_
  obtain ⟨rs, e1, r1⟩ := h1
  obtain ⟨rs', e2, r2⟩ := h2
  refine ng ?_
  clear ng
  have cl : PyData.canLay0 (.list (fl.map (fdat nm))) = true := by
    unfold PyData.canLay0; exact cl_files fl hs
  have sh : SeqAt.shaped (.list (fl.map (fdat nm))) = true := by
    unfold SeqAt.shaped
    rw [cl, Bool.true_and, decide_eq_true_iff]
    unfold PyData.depth
    have := dp_files (nm := nm) fl
    (first | lia | omega)
  refine ⟨_, _, .lst e1 (rd_files r1), .lst e2 (rd_files r2), sh, sh, ?_⟩
  rw [SeqAt.eqv_refl _ cl]; exact h

theorem tl_len {b2 b3 k : Nat} (h2 : b2 < 2) (h3 : b3 < 3) (h : k < 4) : (LS (tl b2 b3 k)).length ≤ 8 := by
  have key : ∀ t ∈ tL8, t.length ≤ 8 := by decide
  exact key _ (tl_mem h2 h3 h)
structure LwB (ms : List Int) (c1 A D F : Addr) (b2 b3 : Nat) (pl : Nat → Nat) (ow : Nat → Int) (H0 H : HA) : Prop where
  g1 : H c1 = some (.lst (vI ms))
  e1 : H A = some (.lst (vI [0, 0, (b2 : Int), (b3 : Int)]))
  hD : RefsAt DrAt H D (dl0 pl ow)
  hF : RefsAt (FileAt (nm0 b2 b3 pl)) H F (fl0 ow)
  k : HSub H0 H
theorem LwB.sub {ms : List Int} {c1 A D F : Addr} {b2 b3 : Nat} {pl : Nat → Nat} {ow : Nat → Int} {H0 H H' : HA} (h : LwB ms c1 A D F b2 b3 pl ow H0 H) (k : HSub H H') : LwB ms c1 A D F b2 b3 pl ow H0 H' :=
  ⟨k _ _ h.g1, k _ _ h.e1, let ⟨rs, a, b⟩ := h.hD; ⟨rs, k _ _ a, b.mono fun r p ⟨x, y, z⟩ => ⟨x, y, k _ _ z⟩⟩, h.hF.files k, h.k.trans k⟩
theorem dl_get {pl : Nat → Nat} {ow : Nat → Int} {k : Nat} (h : k < 6) : (dl0 pl ow)[k]? = some (pl k, ow k) := by
  unfold dl0
  rw [List.getElem?_map, List.getElem?_range h]; rfl
theorem fl_get {ow : Nat → Int} {k : Nat} (h : k < 6) : (fl0 ow)[k]? = some (4 + k, ow k) := by
  unfold fl0
  rw [List.getElem?_map, List.getElem?_range h]; rfl
theorem fl_len {ow : Nat → Int} : (fl0 ow).length = 6 := by unfold fl0; simp
theorem rng_get0 {n i : Nat} {x : Value} (e : ((List.range n).map fun (i : Nat) => Value.int (0 + (i : Int)) 0)[i]? = some x) : i < n ∧ x = .int (i : Int) 0 := by
  have := rng_get e
  rwa [Int.zero_add] at this
theorem nm_str {b2 b3 : Nat} {pl : Nat → Nat} (h2 : b2 < 2) (h3 : b3 < 3) (hp : ∀ k, k < 6 → pl k < 4) {ow : Nat → Int} : ∀ p ∈ fl0 ow, PyData.strOk (nm0 b2 b3 pl p.1) = true := fun p hp' => by
  obtain ⟨k, hk⟩ := List.getElem?_of_mem hp'
  have hk6 := (List.getElem?_eq_some_iff.mp hk).1
  rw [fl_len] at hk6
  rw [fl_get hk6] at hk
  cases hk
  have key : ∀ t ∈ tL8, (t.all fun c => decide (c < 0x110000)) = true := by decide
  have := key _ (tl_mem h2 h3 (hp k hk6))
  show PyData.strOk (nm0 b2 b3 pl (4 + k)) = true
  unfold nm0 nmL PyData.strOk LS
  rw [if_neg (by (first | lia | omega)), if_neg (by (first | lia | omega)), show 4 + k - 4 = k by (first | lia | omega), List.all_toArray, List.all_append, this]
  simp
  (first | lia | omega)
theorem Cfg.R {b2 b3 : Nat} {pl : Nat → Nat} {ow : Nat → Int} {ps : List Nat} (h : Cfg b2 b3 pl ow ps) (m0 : Int) : ∃ R, ROk ps (par0 b2 b3 pl) (Wn ow ps (par0 b2 b3 pl)) R ∧
    (∀ y, y < 10 → Wn ow ps (par0 b2 b3 pl) y ≠ [] ∧ (Wn ow ps (par0 b2 b3 pl) y).length ≤ 3) ∧
    (∀ y, y < 10 → mkd (par0 b2 b3 pl) (Wn ow ps (par0 b2 b3 pl)) R y = true → (Wn ow ps (par0 b2 b3 pl) y)[(m0.fmod (Wn ow ps (par0 b2 b3 pl) y).length).toNat]? = some (R y)) ∧
    (∀ y, y < 10 → mkd (par0 b2 b3 pl) (Wn ow ps (par0 b2 b3 pl)) R y = false → R y = R (par0 b2 b3 pl y)) := by
  have ne : ∀ y, y < 10 → Wn ow ps (par0 b2 b3 pl) y ≠ [] ∧ (Wn ow ps (par0 b2 b3 pl) y).length ≤ 3 := fun y hy => by
    by_cases y4 : y < 4
    · rw [h.Wf y4]; exact ⟨best_ne _, best_len _⟩
    · rw [Wn_file (by (first | lia | omega))]; simp
  generalize Wn ow ps (par0 b2 b3 pl) = W at ne ⊢
  have lt := h.lt
  generalize par0 b2 b3 pl = par at lt ⊢
  have hpk : ∀ y, y < 10 → ∃ o, (W y)[(m0.fmod (W y).length).toNat]? = some o := fun y hy => by
    have h0 : 0 < (W y).length := List.length_pos_iff.mpr (ne y hy).1
    have h1 : 0 ≤ m0.fmod (W y).length := Int.fmod_nonneg_of_pos _ (by (first | lia | omega))
    have h2 : m0.fmod (W y).length < (W y).length := Int.fmod_lt_of_pos _ (by (first | lia | omega))
    exact ⟨_, List.getElem?_eq_getElem (by (first | lia | omega))⟩
  have pk : ∃ pk : Nat → Int, ∀ y, y < 10 → (W y)[(m0.fmod (W y).length).toNat]? = some (pk y) := ⟨fun y => ((W y)[(m0.fmod (W y).length).toNat]?).getD 0, fun y hy => by
    obtain ⟨o, e⟩ := hpk y hy
    show _ = some (((W y)[(m0.fmod (W y).length).toNat]?).getD 0)
    rw [e]; rfl⟩
  obtain ⟨pk, hk⟩ := pk
  have ok := Rf_ok (pk := pk) ps lt fun y hy => List.mem_of_getElem? (hk y hy)
  refine ⟨_, ok, ne, fun y hy hm => ?_, fun y hy hm => ?_⟩
  · rw [hk y hy]
    congr 1
    unfold mkd at hm
    rw [decide_eq_true_iff] at hm
    by_cases h0 : y = 0
    · subst h0; rfl
    · rw [Rf_eq lt (by (first | lia | omega)) hy, if_neg (hm.resolve_left h0)]
  · unfold mkd at hm
    rw [decide_eq_false_iff_not] at hm
    have h0 : 0 < y := Nat.pos_of_ne_zero fun z => hm (.inl z)
    refine ok.keep y h0 hy (Classical.byContradiction fun z => hm (.inr z))
theorem rev_lt {n i j q : Nat} (hi : i < n) (hj : j < n) (h2 : q = n - 1 - i) (hq : q < min j n) {l : List Nat} (hl : l.length = n := by simp) : n - 1 - j < min i l.length := by rw [hl]; (first | lia | omega)
theorem ord_rev {par : Nat → Nat} {ps od : List Nat} (nd : od.Nodup) (hm : ∀ y, y ∈ od ↔ ∃ x ∈ ps, y = x ∨ y = par x) (hord : ∀ i y, od[i]? = some y → ∀ x ∈ ps, par x = y → x ∈ od.take i) {i y : Nat} (e : od.reverse[i]? = some y) (hy : y ∈ ps) : par y ∈ od.reverse.take i := by
  have hi : i < od.length := by have := (List.getElem?_eq_some_iff.mp e).1; rwa [List.length_reverse] at this
  rw [List.getElem?_reverse hi] at e
  obtain ⟨j, hj⟩ := List.getElem?_of_mem ((hm (par y)).mpr ⟨y, hy, .inr rfl⟩)
  have h1 := hord j _ hj y hy rfl
  refine by_ng fun ng => ?_
  obtain ⟨q, hq, eq⟩ := List.mem_take_iff_getElem.mp h1
  obtain ⟨w1, w2⟩ := List.getElem?_eq_some_iff.mp e
  refine ng ?_
  clear ng
  have h2 := (List.getElem_inj nd).mp (eq.trans w2.symm)
  have hj' := (List.getElem?_eq_some_iff.mp hj).1
  have ee : od.length - 1 - (od.length - 1 - j) = j := Nat.sub_sub_self (Nat.le_sub_one_of_lt hj')
  have h3 : od.reverse[od.length - 1 - j]? = some (par y) := by
    rw [List.getElem?_reverse (Nat.lt_of_le_of_lt (Nat.sub_le _ _) (Nat.sub_lt (Nat.lt_of_le_of_lt (Nat.zero_le _) hj') Nat.zero_lt_one)), ee]; exact hj
  rw [List.mem_take_iff_getElem]
  obtain ⟨w3, w4⟩ := List.getElem?_eq_some_iff.mp h3
  exact ⟨od.length - 1 - j, rev_lt hi hj' h2 hq, w4⟩
theorem near_of {nm : Nat → Str} {par : Nat → Nat} (T : Tree nm par) {W : Nat → List Int} {R : Nat → Int} {es : List (Str × Value)} {rv : List Nat} (M : MAt nm R (mkd par W R) es rv) (hk : ∀ y, y < 10 → mkd par W R y = false → R y = R (par y)) (h9 : ∀ y ∈ rv, y < 10) (hup : ∀ y ∈ rv, 0 < y → par y ∈ rv) :
    ∀ (n x : Nat), x ≤ n → x ∈ rv → ∃ (m : Nat) (f : Nat → Str), f 0 = nm x ∧ (∀ i, i < m → es.lookup (f i) = none ∧ DirOk (f i) (f (i + 1))) ∧ es.lookup (f m) = some (.int (R x) 0)
  | n, x, hn, hx => by
    have hx9 := h9 x hx
    by_cases q : mkd par W R x = true
    · exact ⟨0, fun _ => nm x, rfl, fun i hi => absurd hi (Nat.not_lt_zero _), by rw [M.at_ x hx9, if_pos ⟨hx, q⟩]⟩
    · have q' : mkd par W R x = false := by simpa using q
      have h0 : 0 < x := Nat.pos_of_ne_zero fun z => q (by unfold mkd; simp [z])
      have hl := T.lt x h0 hx9
      match n, hn with
      | 0, hn => (first | lia | omega)
      | n + 1, hn =>
        refine by_ng fun ng => ?_
        obtain ⟨m, f, f0, fs, fe⟩ := near_of T M hk h9 hup n (par x) (by (first | lia | omega)) (hup x hx h0)
        refine ng ?_
        clear ng
        refine ⟨m + 1, fun i => match i with | 0 => nm x | i + 1 => f i, rfl, fun i hi => ?_, by rw [hk x hx9 q']; exact fe⟩
        match i, hi with
        | 0, _ => exact ⟨by show es.lookup (nm x) = none; rw [M.at_ x hx9, if_neg fun z => q z.2], by show DirOk (nm x) (f 0); rw [f0]; exact T.dir x h0 hx9⟩
        | i + 1, hi => exact fs i (by (first | lia | omega))
noncomputable def fwdat (M : Nat) (l : List Int) : PyData := .tuple [.int (M : Int), .list (l.map PyData.int)]
theorem cl_ints : ∀ l : List Int, PyData.canLayAll0 (l.map PyData.int) = true
  | [] => rfl
  | _ :: l => by
    have := cl_ints l
    rw [List.map_cons]
    unfold PyData.canLayAll0
    rw [this]; rfl
theorem dp_ints : ∀ l : List Int, PyData.depthAll (l.map PyData.int) ≤ 3
  | [] => by rw [List.map_nil]; decide
  | p :: l => by
    have := dp_ints l
    rw [List.map_cons]
    unfold PyData.depthAll
    have e : (PyData.int p).depth ≤ 3 := by simp [PyData.depth]
    exact Nat.max_le.mpr ⟨e, this⟩
theorem s_eqT {Q : Value → HA → Ls → Prop} {H : HA} {L : Ls} {a b r r' : Addr} {M : Nat} {l : List Int} (e1 : H a = some (.tup [.int (M : Int) 0, .ref r])) (e2 : H r = some (.lst (vI l))) (e3 : H b = some (.tup [.int (M : Int) 0, .ref r'])) (e4 : H r' = some (.lst (vI l))) (h : Q (.bool true) H L) : cmpW .Eq (.ref a) (.ref b) Q H L := by
  have cl : (fwdat M l).canLay0 = true := by
    have := cl_ints l
    simp [fwdat, PyData.canLay0, PyData.canLayAll0, this]
  have sh : SeqAt.shaped (fwdat M l) = true := by
    unfold SeqAt.shaped
    rw [cl, Bool.true_and, decide_eq_true_iff]
    have := dp_ints l
    simp [fwdat, PyData.depth, PyData.depthAll]
    (first | lia | omega)
  refine ⟨_, _, .tup e1 (.cons (.int _) (.cons (.lst e2 (RdAll.ints H l)) .nil)), .tup e3 (.cons (.int _) (.cons (.lst e4 (RdAll.ints H l)) .nil)), sh, sh, ?_⟩
  have := SeqAt.eqv_refl _ cl
  unfold fwdat at this
  rw [this]; exact h
noncomputable def T41 (a31 a32 a33 a34 a35 a36 a37 a38 a39 a40 : Addr) : List (Str × NK) := [(Str.ofString "script", NK.slot 0 false), (Str.ofString "numbers", NK.slot 1 false), (Str.ofString "above", NK.slot 2 false), (Str.ofString "texts", NK.slot 3 true), (Str.ofString "drawn", NK.slot 4 true), (Str.ofString "files", NK.slot 5 false), (Str.ofString "pairs", NK.slot 6 false), (Str.ofString "order", NK.slot 7 false), (Str.ofString "wanted", NK.slot 8 false), (Str.ofString "marks", NK.slot 9 true), (Str.ofString "_law_numbers", .glob (.ref a31)), (Str.ofString "_law_folders", .glob (.ref a32)), (Str.ofString "_law_drawn", .glob (.ref a33)), (Str.ofString "_law_files", .glob (.ref a34)), (Str.ofString "_law_pairs", .glob (.ref a35)), (Str.ofString "_law_order", .glob (.ref a36)), (Str.ofString "_law_wanted", .glob (.ref a37)), (Str.ofString "_law_marks", .glob (.ref a38)), (Str.ofString "_law_nearest", .hid (.ref a39)), (Str.ofString "_law_fewest", .glob (.ref a40)), (Str.ofString "range", .glob (.type "range")), (Str.ofString "len", .glob (.builtin "len"))]
noncomputable def G41 (a31 a32 a33 a34 a35 a36 a37 a38 a39 a40 : Addr) : List (Str × Value) := [(Str.ofString "_law_numbers", .ref a31), (Str.ofString "_law_folders", .ref a32), (Str.ofString "_law_drawn", .ref a33), (Str.ofString "_law_files", .ref a34), (Str.ofString "_law_pairs", .ref a35), (Str.ofString "_law_order", .ref a36), (Str.ofString "_law_wanted", .ref a37), (Str.ofString "_law_marks", .ref a38), (Str.ofString "_law_nearest", .ref a39), (Str.ofString "_law_fewest", .ref a40), (Str.ofString "range", .type "range"), (Str.ofString "len", .builtin "len")]
theorem tab41 (a31 a32 a33 a34 a35 a36 a37 a38 a39 a40 : Addr) : fnT (FS 41) (G41 a31 a32 a33 a34 a35 a36 a37 a38 a39 a40) = T41 a31 a32 a33 a34 a35 a36 a37 a38 a39 a40 := by kernel_rfl
theorem chk41 : scOk (FS 41) [Str.ofString "script"] = true := by decide +kernel
theorem bind41 {fd : FuncData} (hp : fd.params = FP 41) (hd : fd.defaults = .none) (hk : fd.kwdefaults = .none) (vs : List Value) (hl : vs.length = 1) : bindArgs fd ⟨vs, []⟩ = pure ([Str.ofString "script"].zip vs) := by
  refine by_ng fun ng => ?_
  obtain ⟨a0, rfl⟩ := len1 hl
  obtain ⟨n, q, p, bd, sc, g, cl, df, kd, doc, pm, an, cd, ct, bu⟩ := fd
  refine ng ?_
  clear ng
  subst hp; subst hd; subst hk
  kernel_rfl
theorem ini41 (a0 : Value) : iniOf (FS 41) ([Str.ofString "script"].zip [a0]) = [some a0, none, none, none, none, none, none, none, none, none] := by kernel_rfl

noncomputable def lawB (p : Addr) (Q : Value → HA → Ls → Prop) (H : HA) (L : Ls) : Prop :=
  (∃ its n ns, H p = some (.raw (PySem.W.listOf its n)) ∧ its.toList.map er = vI ns ∧ ns.length ≤ 1000) ∧ Q (.bool true) H L
noncomputable def lawW : BW := fun vs Q H L => mR (fun p => mN (lawB p Q H L)) vs
theorem law_walk {B : Heap} (hB : Bas B) {n : Nat} (h31 : Fn B n a31 numbersW) (h32 : Fn B n a32 foldersW) (h33 : Fn B n a33 drawnW) (h34 : Fn B n a34 filesW) (h35 : Fn B n a35 pairsW) (h36 : FnR B n a36 (orderW TS NI)) (h37 : Fn B n a37 wantedW) (h38 : Fn B n a38 marksW) (h39 : Fn B n a39 nearestW) (h40 : Fn B n a40 fewestW) {f : Addr} {fd : FuncData} (Fi : FnIn B f fd (FB 41)) (hsc : fd.scope = FS 41) (hp : fd.params = FP 41) (hg : ∀ g ∈ G41 a31 a32 a33 a34 a35 a36 a37 a38 a39 a40, GlobOk B fd.globals fd.builtins g.1 g.2) : FnK B true (n + 1) f lawW := by
  have main := fn_okK (n := n) (fr := true) hB Fi.toFnIn0 (by rw [hsc]; exact chk41) (fun _ => by rw [hsc]; decide +kernel) hg (fun C _ vs => bind_args (bind41 hp Fi.dfl Fi.kwd) C vs) (fun C env le room V len0 hF =>
    have lenC : C.locs.length = 10 := len0.trans (by rw [hsc]; kernel_rfl)
    have V : EnvOk C (T41 a31 a32 a33 a34 a35 a36 a37 a38 a39 a40) env := tab_eq (hsc ▸ tab41 a31 a32 a33 a34 a35 a36 a37 a38 a39 a40) V
    have S := hB.stat le room
    have hh := room.handled
    (S_cons (S_assign (E_call V (.tail _ (.tail _ (.tail _ (.tail _ (.tail _ (.tail _ (.tail _ (.tail _ (.tail _ (.tail _ (.head _))))))))))) (h31.callee le) (E_cons (E_name V (.head _)) E_nil) (h31.ok _ le room)) (A_cons (A_name V (.tail _ (.head _))) A_nil)) (S_cons (S_assign (E_call V (.tail _ (.tail _ (.tail _ (.tail _ (.tail _ (.tail _ (.tail _ (.tail _ (.tail _ (.tail _ (.tail _ (.head _)))))))))))) (h32.callee le) (E_cons (E_name V (.tail _ (.head _))) E_nil) (h32.ok _ le room)) (A_cons (A_tuple hh (A_cons (A_name V (.tail _ (.tail _ (.head _)))) (A_cons (A_name V (.tail _ (.tail _ (.tail _ (.head _))))) A_nil))) A_nil)) (S_cons (S_assign (E_call V (.tail _ (.tail _ (.tail _ (.tail _ (.tail _ (.tail _ (.tail _ (.tail _ (.tail _ (.tail _ (.tail _ (.tail _ (.head _))))))))))))) (h33.callee le) (E_cons (E_name V (.tail _ (.head _))) (E_cons (E_name V (.tail _ (.tail _ (.tail _ (.head _))))) E_nil)) (h33.ok _ le room)) (A_cons (A_name V (.tail _ (.tail _ (.tail _ (.tail _ (.head _)))))) A_nil)) (S_cons (S_assign (E_call V (.tail _ (.tail _ (.tail _ (.tail _ (.tail _ (.tail _ (.tail _ (.tail _ (.tail _ (.tail _ (.tail _ (.tail _ (.tail _ (.head _)))))))))))))) (h34.callee le) (E_cons (E_name V (.tail _ (.tail _ (.tail _ (.tail _ (.head _)))))) E_nil) (h34.ok _ le room)) (A_cons (A_name V (.tail _ (.tail _ (.tail _ (.tail _ (.tail _ (.head _))))))) A_nil)) (S_cons (S_if (T_cmp S (E_name V (.tail _ (.tail _ (.tail _ (.tail _ (.tail _ (.head _))))))) (E_compN (sc := ⟨ScopeKind.function, [(Str.ofString ".0", NameKind.local), (Str.ofString "k", NameKind.local), (Str.ofString "drawn", NameKind.free), (Str.ofString "texts", NameKind.free)], false, false, []⟩) lenC hh S V (by kernel_rfl) (E_call V (.tail _ (.tail _ (.tail _ (.tail _ (.tail _ (.tail _ (.tail _ (.tail _ (.tail _ (.tail _ (.tail _ (.tail _ (.tail _ (.tail _ (.tail _ (.tail _ (.tail _ (.tail _ (.tail _ (.tail _ (.head _))))))))))))))))))))) (.inr (.inl ⟨_, rfl⟩)) (E_cons (E_const _ _ _) E_nil) b_range) (fun C2 env2 hA2 hP2 W2 len2 => have V2 : EnvOk C2 [(Str.ofString ".0", NK.slot 10 false), (Str.ofString "k", NK.slot 11 false), (Str.ofString "texts", NK.slot 3 true), (Str.ofString "drawn", NK.slot 4 true), (Str.ofString "_law_numbers", .hid (.ref a31)), (Str.ofString "_law_folders", .hid (.ref a32)), (Str.ofString "_law_drawn", .hid (.ref a33)), (Str.ofString "_law_files", .hid (.ref a34)), (Str.ofString "_law_pairs", .hid (.ref a35)), (Str.ofString "_law_order", .hid (.ref a36)), (Str.ofString "_law_wanted", .hid (.ref a37)), (Str.ofString "_law_marks", .hid (.ref a38)), (Str.ofString "_law_nearest", .hid (.ref a39)), (Str.ofString "_law_fewest", .hid (.ref a40)), (Str.ofString "range", .hid (.type "range")), (Str.ofString "len", .hid (.builtin "len"))] env2 := tab_eq (by rw [lenC]; kernel_rfl) W2; have L2 : C2.locs.length = 13 := len2.trans (by rw [lenC]; kernel_rfl); have S2 := S.sub hA2 hP2; have hh2 : C2.A.handled = none := (by rw [hA2]; exact hh); have le2 := le.trans hP2; have room2 : Room C2.A n := (by rw [hA2]; exact room); ⟨(A_name V2 (.tail _ (.head _))), C_nil, (E_tuple (E_cons (E_bin (E_bin (E_sub (E_name V2 (.tail _ (.tail _ (.head _)))) (E_sub (E_sub (E_name V2 (.tail _ (.tail _ (.tail _ (.head _))))) (E_name V2 (.tail _ (.head _)))) (E_const _ _ _))) (E_const _ _ _)) (E_sub (E_const _ _ _) (E_name V2 (.tail _ (.head _))))) (E_cons (E_sub (E_sub (E_name V2 (.tail _ (.tail _ (.tail _ (.head _))))) (E_name V2 (.tail _ (.head _)))) (E_const _ _ _)) E_nil)))⟩))) (S_cons (S_ret (E_const _ _ _)) S_nil) S_nil) (S_cons (S_assign (E_call V (.tail _ (.tail _ (.tail _ (.tail _ (.tail _ (.tail _ (.tail _ (.tail _ (.tail _ (.tail _ (.tail _ (.tail _ (.tail _ (.tail _ (.head _))))))))))))))) (h35.callee le) (E_cons (E_name V (.tail _ (.tail _ (.tail _ (.tail _ (.tail _ (.head _))))))) E_nil) (h35.ok _ le room)) (A_cons (A_name V (.tail _ (.tail _ (.tail _ (.tail _ (.tail _ (.tail _ (.head _)))))))) A_nil)) (S_cons (S_assign (E_call V (.tail _ (.tail _ (.tail _ (.tail _ (.tail _ (.tail _ (.tail _ (.tail _ (.tail _ (.tail _ (.tail _ (.tail _ (.tail _ (.tail _ (.tail _ (.head _)))))))))))))))) (h36.callee le) (E_cons (E_name V (.tail _ (.tail _ (.tail _ (.tail _ (.tail _ (.tail _ (.head _)))))))) E_nil) (h36.ok _ le room (fun _ => (hF rfl).1))) (A_cons (A_name V (.tail _ (.tail _ (.tail _ (.tail _ (.tail _ (.tail _ (.tail _ (.head _))))))))) A_nil)) (S_cons (S_assign (E_call V (.tail _ (.tail _ (.tail _ (.tail _ (.tail _ (.tail _ (.tail _ (.tail _ (.tail _ (.tail _ (.tail _ (.tail _ (.tail _ (.tail _ (.tail _ (.tail _ (.head _))))))))))))))))) (h37.callee le) (E_cons (E_name V (.tail _ (.tail _ (.tail _ (.tail _ (.tail _ (.tail _ (.head _)))))))) (E_cons (E_name V (.tail _ (.tail _ (.tail _ (.tail _ (.tail _ (.tail _ (.tail _ (.head _))))))))) (E_cons (E_name V (.tail _ (.tail _ (.tail _ (.tail _ (.tail _ (.head _))))))) E_nil))) (h37.ok _ le room)) (A_cons (A_name V (.tail _ (.tail _ (.tail _ (.tail _ (.tail _ (.tail _ (.tail _ (.tail _ (.head _)))))))))) A_nil)) (S_cons (S_assign (E_call V (.tail _ (.tail _ (.tail _ (.tail _ (.tail _ (.tail _ (.tail _ (.tail _ (.tail _ (.tail _ (.tail _ (.tail _ (.tail _ (.tail _ (.tail _ (.tail _ (.tail _ (.head _)))))))))))))))))) (h38.callee le) (E_cons (E_name V (.tail _ (.tail _ (.tail _ (.tail _ (.tail _ (.tail _ (.head _)))))))) (E_cons (E_name V (.tail _ (.tail _ (.tail _ (.tail _ (.tail _ (.tail _ (.tail _ (.head _))))))))) (E_cons (E_name V (.tail _ (.tail _ (.tail _ (.tail _ (.tail _ (.tail _ (.tail _ (.tail _ (.head _)))))))))) (E_cons (E_sub (E_name V (.tail _ (.head _))) (E_const _ _ _)) E_nil)))) (h38.ok _ le room)) (A_cons (A_name V (.tail _ (.tail _ (.tail _ (.tail _ (.tail _ (.tail _ (.tail _ (.tail _ (.tail _ (.head _))))))))))) A_nil)) (S_cons (S_if (T_cmp S (E_compN (sc := ⟨ScopeKind.function, [(Str.ofString ".0", NameKind.local), (Str.ofString "path", NameKind.local), (Str.ofString "owner", NameKind.local), (Str.ofString "_law_nearest", NameKind.globalImplicit), (Str.ofString "marks", NameKind.free)], false, false, []⟩) lenC hh S V (by kernel_rfl) (E_name V (.tail _ (.tail _ (.tail _ (.tail _ (.tail _ (.head _))))))) (fun C1 env1 hA1 hP1 W1 len1 => have V1 : EnvOk C1 [(Str.ofString ".0", NK.slot 10 false), (Str.ofString "path", NK.slot 11 false), (Str.ofString "owner", NK.slot 12 false), (Str.ofString "marks", NK.slot 9 true), (Str.ofString "_law_numbers", .hid (.ref a31)), (Str.ofString "_law_folders", .hid (.ref a32)), (Str.ofString "_law_drawn", .hid (.ref a33)), (Str.ofString "_law_files", .hid (.ref a34)), (Str.ofString "_law_pairs", .hid (.ref a35)), (Str.ofString "_law_order", .hid (.ref a36)), (Str.ofString "_law_wanted", .hid (.ref a37)), (Str.ofString "_law_marks", .hid (.ref a38)), (Str.ofString "_law_nearest", .glob (.ref a39)), (Str.ofString "_law_fewest", .hid (.ref a40)), (Str.ofString "range", .hid (.type "range")), (Str.ofString "len", .hid (.builtin "len"))] env1 := tab_eq (by rw [lenC]; kernel_rfl) W1; have L1 : C1.locs.length = 14 := len1.trans (by rw [lenC]; kernel_rfl); have S1 := S.sub hA1 hP1; have hh1 : C1.A.handled = none := (by rw [hA1]; exact hh); have le1 := le.trans hP1; have room1 : Room C1.A n := (by rw [hA1]; exact room); ⟨(A_tuple hh1 (A_cons (A_name V1 (.tail _ (.head _))) (A_cons (A_name V1 (.tail _ (.tail _ (.head _)))) A_nil))), C_nil, (E_tuple (E_cons (E_name V1 (.tail _ (.head _))) (E_cons (E_call V1 (.tail _ (.tail _ (.tail _ (.tail _ (.tail _ (.tail _ (.tail _ (.tail _ (.tail _ (.tail _ (.tail _ (.tail _ (.head _))))))))))))) (h39.callee le1) (E_cons (E_name V1 (.tail _ (.tail _ (.tail _ (.head _))))) (E_cons (E_name V1 (.tail _ (.head _))) E_nil)) (h39.ok _ le1 room1)) E_nil)))⟩)) (E_name V (.tail _ (.tail _ (.tail _ (.tail _ (.tail _ (.head _)))))))) (S_cons (S_ret (E_const _ _ _)) S_nil) S_nil) (S_cons (S_ret (E_cmp S (E_tuple (E_cons (E_call V (.tail _ (.tail _ (.tail _ (.tail _ (.tail _ (.tail _ (.tail _ (.tail _ (.tail _ (.tail _ (.tail _ (.tail _ (.tail _ (.tail _ (.tail _ (.tail _ (.tail _ (.tail _ (.tail _ (.tail _ (.tail _ (.head _)))))))))))))))))))))) (.inl ⟨_, rfl⟩) (E_cons (E_name V (.tail _ (.tail _ (.tail _ (.tail _ (.tail _ (.tail _ (.tail _ (.tail _ (.tail _ (.head _))))))))))) E_nil) (b_lenD S)) (E_cons (E_sub (E_name V (.tail _ (.tail _ (.tail _ (.tail _ (.tail _ (.tail _ (.tail _ (.tail _ (.head _)))))))))) (E_const _ _ _)) E_nil))) (E_call V (.tail _ (.tail _ (.tail _ (.tail _ (.tail _ (.tail _ (.tail _ (.tail _ (.tail _ (.tail _ (.tail _ (.tail _ (.tail _ (.tail _ (.tail _ (.tail _ (.tail _ (.tail _ (.tail _ (.head _)))))))))))))))))))) (h40.callee le) (E_cons (E_name V (.tail _ (.tail _ (.head _)))) (E_cons (E_name V (.tail _ (.tail _ (.tail _ (.tail _ (.head _)))))) E_nil)) (h40.ok _ le room)))) S_nil))))))))))))
  refine main.spec ?_
  clear main
  rw [hsc]
  intro vs Q H L h
  refine by_ng fun ng => ?_
  obtain ⟨p, r0, rfl, hq0⟩ := mR_inv h
  obtain ⟨rfl, hq1⟩ := mN_inv hq0
  refine ng ?_
  clear ng
  replace h := hq1
  · skip
    refine by_ng fun ng => ?_
    obtain ⟨⟨its, n', ns, hp0, hits, hns⟩, hq⟩ := h
    refine ng ?_
    clear ng
    refine ⟨rfl, ?_⟩
    refine' s_start (ini41 _) ?_
    walk_at "st"
    refine ⟨its, n', ns, hp0, hits, hns, fun ms hms c1 hc1 => ?_⟩
    have g1 : upd H c1 (.lst (vI ms)) c1 = some (.lst (vI ms)) := upd_same _ _ _
    have k1 : HSub H (upd H c1 (.lst (vI ms))) := (HSub.refl H).upd hc1
    generalize upd H c1 (.lst (vI ms)) = H1 at g1 k1
    walk_at "st"
    refine ⟨ms, hms, g1, (fun a2 a3 => LS (tl a2.toNat a3.toNat 2)), (fun a2 a3 => LS (tl a2.toNat a3.toNat 3)), tx_ok, fun a2 a3 q1 q2 q3 q4 A X c hA hX hc n1 n2 n3 => ?_⟩
    obtain ⟨b2, rfl⟩ := Int.eq_ofNat_of_zero_le q1
    obtain ⟨b3, rfl⟩ := Int.eq_ofNat_of_zero_le q3
    have h2 : b2 < 2 := by (first | lia | omega)
    have h3 : b3 < 3 := by (first | lia | omega)
    clear q1 q2 q3 q4
    refine by_ng fun ng => ?_
    obtain ⟨e1, e2, e3, e4⟩ := three (a := .lst (vI [0, 0, (b2 : Int), (b3 : Int)])) (x := .lst (vS (txL b2 b3))) (t := .tup [.ref A, .ref X]) hA hX hc n1 n2 n3
    refine ng ?_
    clear ng
    have g1 := e4 _ _ g1
    have k1 := k1.trans e4
    have et : vS [Str.empty, tx1, (fun a2 a3 : Int => LS (tl a2.toNat a3.toNat 2)) (b2 : Int) (b3 : Int), (fun a2 a3 : Int => LS (tl a2.toNat a3.toNat 3)) (b2 : Int) (b3 : Int)] = vS (txL b2 b3) := rfl
    rw [et]
    generalize upd (upd (upd H1 A (.lst (vI [0, 0, (b2 : Int), (b3 : Int)]))) X (.lst (vS (txL b2 b3)))) c (.tup [.ref A, .ref X]) = H2 at e1 e2 e3 e4 g1 k1
    clear et e4 hA hX hc n1 n2 n3
    walk_at "st"
    refine' s_unpack e3 rfl ?_
    walk_at "st"
    refine ⟨ms, txL b2 b3, hms, g1, e2, tgood h2 h3, fun D H3 rs hD k3 hDl hr6 hrs => ?_⟩
    have hpo : ∃ (pl : Nat → Nat) (ow : Nat → Int), ∀ k, k < 6 → ∀ r, rs[k]? = some r → Drw (txL b2 b3) H3 k r (pl k) (ow k) := by
      have : ∀ k, ∃ po : Nat × Int, k < 6 → ∀ r, rs[k]? = some r → Drw (txL b2 b3) H3 k r po.1 po.2 := fun k => by
        by_cases hk : k < 6
        · refine by_ng fun ng => ?_
          obtain ⟨_, a, b, q⟩ := hrs k rs[k] (List.getElem?_eq_getElem (by (first | lia | omega)))
          refine ng ?_
          clear ng
          refine ⟨(a, b), fun _ r e => ?_⟩
          rw [List.getElem?_eq_getElem (by (first | lia | omega))] at e
          cases e; exact q
        · exact ⟨(0, 0), fun z => absurd z hk⟩
      exact ⟨fun k => (Classical.choose (this k)).1, fun k => (Classical.choose (this k)).2, fun k => Classical.choose_spec (this k)⟩
    obtain ⟨pl, ow, hdr⟩ := hpo
    clear hrs
    have rget : ∀ k, k < 6 → ∃ r, rs[k]? = some r := fun k hk => ⟨_, List.getElem?_eq_getElem (by (first | lia | omega))⟩
    have hp4 : ∀ k, k < 6 → pl k < 4 := fun k hk => let ⟨r, e⟩ := rget k hk; (hdr k hk r e).h1
    have ho : ∀ k, k < 6 → ow k ∈ owns := fun k hk => let ⟨r, e⟩ := rget k hk; (hdr k hk r e).h2
    have hdf := fun k hk r e => drw_file h2 h3 hk (hdr k hk r e)
    clear hdr
    have T := tree_ok h2 h3 hp4
    have e1 := k3 _ _ e1
    have e2 := k3 _ _ e2
    have g1 := k3 _ _ g1
    have k1 := k1.trans k3
    clear e3 k3 hD
    walk_at "st"
    refine ⟨rs, hDl, by (first | lia | omega), (List.range 6).map (fun k => (nm0 b2 b3 pl (4 + k), ow k)), by simp [hr6], fun k r po hr hpo => ?_, fun F H4 fs hF k4 hFl hfl hfs => ?_⟩
    · have hk : k < 6 := by have := (List.getElem?_eq_some_iff.mp hr).1; (first | lia | omega)
      rw [List.getElem?_map, List.getElem?_range hk] at hpo
      cases hpo
      refine by_ng fun ng => ?_
      obtain ⟨nm, od, dn, w1, w2⟩ := hdf k hk r hr
      refine ng ?_
      clear ng
      exact ⟨_, nm, od, dn, w1, w2⟩
    have hB4 : LwB ms c1 A D F b2 b3 pl ow H H4 := by
      refine ⟨k4 _ _ g1, k4 _ _ e1, ⟨rs, k4 _ _ hDl, All2.of hr6 fun k r p hr hp => ?_⟩, ⟨fs, hFl, All2.of (by rw [hfl, hr6]; rfl) fun k r p hr hp => ?_⟩, k1.trans k4⟩
      · have hk : k < 6 := by have := (List.getElem?_eq_some_iff.mp hr).1; (first | lia | omega)
        rw [dl_get hk] at hp
        cases hp
        refine by_ng fun ng => ?_
        obtain ⟨nm, od, dn, w1, _⟩ := hdf k hk r hr
        refine ng ?_
        clear ng
        exact ⟨nm, od, k4 _ _ w1⟩
      · have hk : k < 6 := by have := (List.getElem?_eq_some_iff.mp hr).1; (first | lia | omega)
        rw [fl_get hk] at hp
        cases hp
        exact (hfs k r (nm0 b2 b3 pl (4 + k), ow k) hr (by rw [List.getElem?_map, List.getElem?_range hk]; rfl)).2
    have e2 := k4 _ _ e2
    clear hfs hfl hFl k4 hF hdf rget g1 e1 k1 hDl hr6
    walk_at "st"
    refine' s_range1 (by decide) ?_
    intro R6 hR6
    have hR : upd H4 R6 (.rng 0 (Int.toNat 6)) R6 = some (.rng 0 6) := upd_same _ _ _
    have k5 : HSub H4 (upd H4 R6 (.rng 0 (Int.toNat 6))) := (HSub.refl H4).upd hR6
    have e2 := k5 _ _ e2
    have hB5 := hB4.sub k5
    generalize upd H4 R6 (.rng 0 (Int.toNat 6)) = H5 at hR e2 hB5
    clear k5 hB4 hR6
    refine' s_comp (fun i acc H' L' => HSub H5 H' ∧ i ≤ 6 ∧ (∃ cs : List Addr, acc = cs.map Value.ref ∧ All2 (FileAt (nm0 b2 b3 pl) H') cs ((fl0 ow).take i)) ∧ L' = [some (.ref p), some (.ref c1), some (.ref A), some (.ref X), some (.ref D), some (.ref F), none, none, none, none]) (.rng hR) (by simp) ⟨HSub.refl _, Nat.zero_le _, ⟨[], rfl, trivial⟩, rfl⟩ ?_
    intro i acc H' L' rr62
    refine by_ng fun ng => ?_
    obtain ⟨k6, hi, ⟨cs, rfl, hcs⟩, rfl⟩ := rr62
    refine ng ?_
    clear ng
    have hB6 := hB5.sub k6
    refine ⟨.rng (k6 _ _ hR), fun e c' hc' => ?_, fun x e => ?_⟩
    · have hi6 : i = 6 := by
        rw [List.getElem?_eq_none_iff, List.length_map, List.length_range] at e; (first | lia | omega)
      subst hi6
      rw [List.take_of_length_le (by rw [fl_len]; exact Nat.le_refl _)] at hcs
      have kc : HSub H' (upd H' c' (.lst (cs.map Value.ref))) := (HSub.refl H').upd hc'
      have hB7 := hB6.sub kc
      have hc7 : RefsAt (FileAt (nm0 b2 b3 pl)) (upd H' c' (.lst (cs.map Value.ref))) c' (fl0 ow) := ⟨cs, upd_same _ _ _, hcs.mono fun r q h => kc _ _ h⟩
      generalize upd H' c' (.lst (cs.map Value.ref)) = H7 at hB7 hc7
      clear hB6 hB5 kc hcs hc' e k6 hi e2 hR
      refine' s_neF (nm_str h2 h3 hp4) hB7.hF hc7 ?_
      walk_at "st"
      refine' s_if_f rfl ?_
      clear hc7
      walk_at "st"
      refine ⟨_, _, T, fl0 ow, hB7.hF, Nat.le_of_eq fl_len, fun q hq => ?_, fun P H8 ps hP k8 hPs hps => ?_⟩
      · obtain ⟨k, hk⟩ := List.getElem?_of_mem hq
        have hk6 := (List.getElem?_eq_some_iff.mp hk).1
        rw [fl_len] at hk6
        rw [fl_get hk6] at hk
        cases hk
        show 0 < 4 + k ∧ 4 + k < 10
        (first | lia | omega)
      have cfg : Cfg b2 b3 pl ow ps := ⟨h2, h3, hp4, ho, hps⟩
      have hB8 := hB7.sub k8
      clear hB7 k8 hP
      walk_at "st"
      refine ⟨_, _, T, ps, hPs, ⟨hps.nd, hps.rg, fun x hx => absurd hx List.not_mem_nil, hps.cl⟩, fun O H9 od hO k9 hOl hnd hmem hord => ?_⟩
      have hB9 := hB8.sub k9
      have hPs9 := hPs.pairs k9
      have od9 : ∀ y ∈ od, y < 10 := fun y hy => by
        refine by_ng fun ng => ?_
        obtain ⟨x, hx, w⟩ := (hmem y).mp hy
        obtain ⟨x0, x9⟩ := hps.rg x hx
        refine ng ?_
        clear ng
        rcases w with rfl | rfl
        · exact x9
        · exact Nat.lt_trans (T.lt x x0 x9) x9
      have odl : od.length ≤ 10 := nodup_len 10 od hnd od9
      have fl_no : ∀ y, y ∉ (fl0 ow).map (·.1) → y < 10 → y < 4 := fun y hy h9 => by
        refine Classical.byContradiction fun z => hy (List.mem_map.mpr ⟨(4 + (y - 4), ow (y - 4)), List.mem_of_getElem? (fl_get (k := y - 4) (by (first | lia | omega))), by show 4 + (y - 4) = y; (first | lia | omega)⟩)
      clear hB8 hPs k9 hO
      walk_at "st"
      refine ⟨_, _, T, ps, od, fl0 ow, Wn ow ps (par0 b2 b3 pl), hPs9, hOl, hB9.hF, hps.len, Nat.le_of_eq fl_len, odl, hps.rg, od9, fun i y e _ => hord i y e, fun q hq => ?_, fun q hq => ?_, fun y hy hn => cfg.Wf (fl_no y hn (od9 y hy)), fun Wd H10 es ep hWd k10 hWv hWA => ?_⟩
      · obtain ⟨k, hk⟩ := List.getElem?_of_mem hq
        have hk6 := (List.getElem?_eq_some_iff.mp hk).1
        rw [fl_len] at hk6
        rw [fl_get hk6] at hk
        cases hk
        show 4 + k < 10
        (first | lia | omega)
      · obtain ⟨k, hk⟩ := List.getElem?_of_mem hq
        have hk6 := (List.getElem?_eq_some_iff.mp hk).1
        rw [fl_len] at hk6
        rw [fl_get hk6] at hk
        cases hk
        show Wn ow ps (par0 b2 b3 pl) (4 + k) = [ow k]
        rw [Wn_file (by (first | lia | omega)), show 4 + k - 4 = k by (first | lia | omega)]
      have hB10 := hB9.sub k10
      have hPs10 := hPs9.pairs k10
      have hOl10 := k10 _ _ hOl
      clear hB9 hPs9 hOl k10 hWd fl_no
      refine by_ng fun ng => ?_
      obtain ⟨m0, hm0, hat⟩ := at_ints (ms := ms) (j := 0) (by decide) (by (first | lia | omega))
      obtain ⟨R, hR, hWne, hRm, hRk⟩ := cfg.R m0
      refine ng ?_
      clear ng
      have rvm : ∀ y, y ∈ od.reverse ↔ ∃ x ∈ ps, y = x ∨ y = par0 b2 b3 pl x := fun y => by rw [List.mem_reverse]; exact hmem y
      have rvnd : od.reverse.Nodup := (List.reverse_perm od).nodup_iff.mpr hnd
      have rv9 : ∀ y ∈ od.reverse, y < 10 := fun y hy => od9 y (List.mem_reverse.mp hy)
      have rv0 : ∀ y ∈ od.reverse, y = 0 ∨ y ∈ ps := fun y hy => by
        obtain ⟨x, hx, w⟩ := (rvm y).mp hy
        rcases w with rfl | rfl
        · exact .inr hx
        · exact hps.cl x hx
      walk_at "st"
      refine' s_list hB10.g1 (by unfold fits; (first | lia | omega)) hat ?_
      walk_at "st"
      refine ⟨_, _, T, ps, od, od.reverse, Wn ow ps (par0 b2 b3 pl), R, es, ep, (fl0 ow).map (·.1) ++ od, hPs10, hOl10, rfl, hWv, hWA, hps.len, odl, hps.nd, hps.rg, fun x hx => ⟨rv9 x hx, List.mem_append_right _ (List.mem_reverse.mp hx), rv0 x hx⟩, rvnd, fun i y e h0 => ord_rev hnd hmem hord e ((rv0 y (List.mem_of_getElem? e)).resolve_left (by (first | lia | omega))), fun y hy => hWne y (rv9 y hy), fun y hy => hRm y (rv9 y hy), fun y hy => hRk y (rv9 y hy), fun M H11 es' ep' hM k11 hMv hMA => ?_⟩
      have hB11 := hB10.sub k11
      have hWv11 := k11 _ _ hWv
      obtain ⟨r0, hr0, hr0v⟩ := hWA.has 0 (List.mem_append_right _ ((hmem 0).mpr (by
        obtain ⟨x, hx, e⟩ := cfg.top
        exact ⟨x, hx, .inr e.symm⟩)))
      have hr0v := k11 _ _ hr0v
      have hmk := cfg.marks (R := R) (rvnd) rvm
      have near := near_of T hMA hRk rv9 fun y hy h0 => (rvm _).mpr ⟨y, (rv0 y hy).resolve_left (by (first | lia | omega)), .inr rfl⟩
      clear hB10 hPs10 hOl10 k11 hM hat hm0 hRm hWne
      walk_at "st"
      obtain ⟨fs, hFl, hFs⟩ := hB11.hF
      have hfl := hFs.length
      rw [fl_len] at hfl
      refine' s_comp (fun i acc H' L' => HSub H11 H' ∧ i ≤ 6 ∧ (∃ cs : List Addr, acc = cs.map Value.ref ∧ All2 (FileAt (nm0 b2 b3 pl) H') cs ((fl0 ow).take i)) ∧ L' = [some (.ref p), some (.ref c1), some (.ref A), some (.ref X), some (.ref D), some (.ref F), some (.ref P), some (.ref O), some (.ref Wd), some (.ref M)]) (.lst hFl) (by rw [List.length_map]; (first | lia | omega)) ⟨HSub.refl _, Nat.zero_le _, ⟨[], rfl, trivial⟩, rfl⟩ ?_
      intro i acc H' L' rr63
      refine by_ng fun ng => ?_
      obtain ⟨k6, hi, ⟨cs, rfl, hcs⟩, rfl⟩ := rr63
      refine ng ?_
      clear ng
      refine ⟨.lst (k6 _ _ hFl), fun e c' hc' => ?_, fun x e => ?_⟩
      · have hi6 : i = 6 := by
          rw [List.getElem?_eq_none_iff, List.length_map] at e; (first | lia | omega)
        subst hi6
        rw [List.take_of_length_le (by rw [fl_len]; exact Nat.le_refl _)] at hcs
        have kc : HSub H' (upd H' c' (.lst (cs.map Value.ref))) := (HSub.refl H').upd hc'
        have hB12 := hB11.sub (k6.trans kc)
        have hc7 : RefsAt (FileAt (nm0 b2 b3 pl)) (upd H' c' (.lst (cs.map Value.ref))) c' (fl0 ow) := ⟨cs, upd_same _ _ _, hcs.mono fun r q h => kc _ _ h⟩
        have hWv := kc _ _ (k6 _ _ hWv11)
        have hMv := kc _ _ (k6 _ _ hMv)
        have hr0v := kc _ _ (k6 _ _ hr0v)
        generalize upd H' c' (.lst (cs.map Value.ref)) = H12 at hB12 hc7 hWv hMv hr0v
        clear hB11 kc hcs hc' e k6 hi hFl hFs near
        walk_at "st"
        refine' s_neF (nm_str h2 h3 hp4) hc7 hB12.hF ?_
        walk_at "st"
        refine' s_if_f rfl ?_
        clear hc7
        walk_at "st"
        have hlen : es'.length = 1 + tO ps (par0 b2 b3 pl) (Wn ow ps (par0 b2 b3 pl)) R := hMA.len.trans hmk
        have hl9 : es'.length ≤ 10 := by
          rw [hMA.len]
          exact Nat.le_trans (List.length_filter_le _ _) (by rw [List.length_reverse]; exact odl)
        refine ⟨M, es', ep', rfl, hMv, by (first | lia | omega), ?_⟩
        walk_at "st"
        refine' s_dct hWv (by rw [← T.root]; exact hr0) ?_
        walk_at "st"
        refine ⟨by show 2 ≤ sizeLine; decide, fun Z hZ => ?_⟩
        have kz : HSub H12 (upd H12 Z (.tup [.int (es'.length : Int) 0, .ref r0])) := (HSub.refl H12).upd hZ
        have hZv := upd_same H12 Z (.tup [.int (es'.length : Int) 0, .ref r0])
        have hB13 := hB12.sub kz
        have hr0v := kz _ _ hr0v
        generalize upd H12 Z (.tup [.int (es'.length : Int) 0, .ref r0]) = H13 at hZv hB13 hr0v
        clear kz hZ hWv hMv hB12
        walk_at "st"
        refine ⟨abv b2 b3, dl0 pl ow, hB13.e1, fun k a b => abv_lt h2 h3 a b, hB13.hD, by unfold dl0; simp, fun Tt H14 hr m hTt k14 hTv hhr hM1 hM2 => ?_⟩
        obtain ⟨hart1, hart2⟩ := cfg.hart hR hM1 hM2
        rw [hart2] at hhr
        rw [hart1, ← hlen] at hTv
        refine' s_eqT (k14 _ _ hZv) (k14 _ _ hr0v) hTv hhr ?_
        walk_at "st"
        exact ⟨H, hB13.k.trans k14, hq⟩
      · refine by_ng fun ng => ?_
        obtain ⟨r, hr, rfl⟩ := refs_get e
        obtain ⟨q, hq', hqt⟩ := hFs.get hr
        refine ng ?_
        clear ng
        have hi6 : i < 6 := by have := (List.getElem?_eq_some_iff.mp hr).1; (first | lia | omega)
        have hqe := hq'
        rw [fl_get hi6] at hq'
        cases hq'
        refine' s_unpack (k6 _ _ hqt) rfl ?_
        walk_at "st"
        refine' s_if_t rfl ?_
        walk_at "st"
        refine by_ng fun ng => ?_
        obtain ⟨m, ff, f0, fs', fe⟩ := near 9 (4 + i) (by (first | lia | omega)) ((rvm _).mpr ⟨4 + i, cfg.files (by (first | lia | omega)) (by (first | lia | omega)), .inl rfl⟩)
        refine ng ?_
        clear ng
        refine ⟨es', ep', k6 _ _ hMv, m, ff, _, f0, fs', fe, ?_⟩
        have hRo : R (4 + i) = ow i := by
          have := hR.mem (4 + i) (by (first | lia | omega))
          rw [Wn_file (by (first | lia | omega)), List.mem_singleton, show 4 + i - 4 = i by (first | lia | omega)] at this
          exact this
        rw [hRo]
        refine ⟨by show 2 ≤ sizeLine; decide, fun Z hZ => ?_⟩
        have kz : HSub H' (upd H' Z (.tup [.str (nm0 b2 b3 pl (4 + i)) 0, .int (ow i) 0])) := (HSub.refl H').upd hZ
        refine ⟨k6.trans kz, hi6, ⟨cs ++ [Z], by simp, ?_⟩, rfl⟩
        rw [take_snoc hqe]
        exact (hcs.mono fun r q h => kz _ _ h).snoc (upd_same _ _ _)
    · refine by_ng fun ng => ?_
      obtain ⟨hi6, rfl⟩ := rng_get0 e
      obtain ⟨rs', hDl, hDs⟩ := hB6.hD
      obtain ⟨r, hr, hrd⟩ := hDs.get' (dl_get hi6)
      obtain ⟨na, ob, hrd⟩ := hrd
      refine ng ?_
      clear ng
      have hrr : (rs'.map Value.ref)[i]? = some (.ref r) := by rw [List.getElem?_map, hr]; rfl
      have hpk := hp4 i hi6
      have tlen := tl_len h2 h3 hpk
      walk_at "st"
      refine' s_if_t rfl ?_
      walk_at "st"
      refine' s_path hDl (by (first | lia | omega)) hrr ?_
      walk_at "st"
      refine' s_tup hrd (by unfold fits; (first | lia | omega)) rfl ?_
      walk_at "st"
      refine' s_path (v := .str (LS (tl b2 b3 (pl i))) 0) (k6 _ _ e2) (by show pl i ≤ 100; (first | lia | omega)) (by unfold vS; rw [List.getElem?_map, txL_get hpk]; rfl) ?_
      walk_at "st"
      refine' s_adds (by rw [l_sl, LS_len [47]]; exact line_of (by simp; (first | lia | omega))) rfl ?_
      walk_at "st"
      refine' s_chr (by unfold fits; (first | lia | omega)) (let_at' hi6) ?_
      walk_at "st"
      refine' s_adds (by rw [slen, l_sl, LS_len [47]]; exact line_of (by show _ + 1 + 1 ≤ 1000; (first | lia | omega))) nm_file ?_
      walk_at "st"
      refine' s_path hDl (by (first | lia | omega)) hrr ?_
      walk_at "st"
      refine' s_tup hrd (by unfold fits; (first | lia | omega)) rfl ?_
      refine ⟨by show 2 ≤ sizeLine; decide, fun Z hZ => ?_⟩
      have kz : HSub H' (upd H' Z (.tup [.str (nm0 b2 b3 pl (4 + i)) 0, .int (ow i) 0])) := (HSub.refl H').upd hZ
      refine ⟨k6.trans kz, hi6, ⟨cs ++ [Z], by simp, ?_⟩, rfl⟩
      rw [take_snoc (fl_get hi6)]
      exact (hcs.mono fun r q h => kz _ _ h).snoc (upd_same _ _ _)



/-! what the head's fragment must show -/
noncomputable def fdIn (K : Frag) (a : Addr) : Option FuncData := match K.lookup a with
  | some ⟨_, _, .func fd, _⟩ => some fd
  | _ => none
noncomputable def codeIn (K : Frag) (a : Addr) : Bool := match fdIn K a with
  | some fd => (match fd.code with
    | .ref c => (match K.lookup c with
      | some ⟨_, _, .fields vs, _⟩ => (match (vs[1]? : Option Value) with
        | some (.str q _) => q == fd.qualname
        | _ => false)
      | _ => false)
    | _ => false)
  | none => false
structure FK (K : Frag) (a : Addr) (b : List Stmt) (sc : Scope) (pr : Arguments) (df : Value) : Prop where
  e : (fdIn K a).map (fun fd => (fd.body, fd.scope, fd.params, fd.defaults, fd.kwdefaults, fd.closure, fd.globals, fd.builtins)) = some (.stmts b, sc, pr, df, .none, [], mainGlobals, builtinsNs)
  c : codeIn K a = true
structure FnAt (B : Heap) (a : Addr) (b : List Stmt) (sc : Scope) (pr : Arguments) (df : Value) (fd : FuncData) : Prop where
  fi : FnIn0 B a fd b
  sc : fd.scope = sc
  pr : fd.params = pr
  df : fd.defaults = df
  kw : fd.kwdefaults = .none
  gl : fd.globals = mainGlobals
  bu : fd.builtins = builtinsNs
theorem FK.at {K : Frag} {B : Heap} (X : K.In B) {a : Addr} {b : List Stmt} {sc : Scope} {pr : Arguments} {df : Value} (h : FK K a b sc pr df) : ∃ fd, FnAt B a b sc pr df fd := by
  obtain ⟨fd, hfd, e⟩ := Option.map_eq_some_iff.mp h.e
  have c := h.c
  simp only [Prod.mk.injEq] at e
  refine by_ng fun ng => ?_
  obtain ⟨e1, e2, e3, e4, e5, e6, e7, e8⟩ := e
  refine ng ?_
  clear ng
  refine ⟨fd, ⟨?_, ?_, e1, e6⟩, e2, e3, e4, e5, e7, e8⟩
  · unfold fdIn at hfd
    split at hfd
    · rename_i q
      cases hfd
      exact ⟨_, X _ _ q, rfl⟩
    · cases hfd
  · unfold codeIn at c
    rw [hfd] at c
    dsimp only at c
    split at c
    · rename_i cc hcc
      split at c
      · rename_i q
        split at c
        · rename_i qn t hq
          rw [beq_iff_eq] at c
          subst c
          exact ⟨cc, _, _, t, hcc, X _ _ q, rfl, hq⟩
        · cases c
      · cases c
    · cases c
theorem FnAt.fn {B : Heap} {a : Addr} {b : List Stmt} {sc : Scope} {pr : Arguments} {fd : FuncData} (h : FnAt B a b sc pr .none fd) : FnIn B a fd b := ⟨h.fi, h.df, h.kw⟩
noncomputable def glN : List (Str × Value) := [(Str.ofString "parse229", .ref 65), (Str.ofString "parse257", .ref 72), (Str.ofString "_NODE_OUT", .int (-1) 275), (Str.ofString "_NODE_DONE", .int (-2) 278), (Str.ofString "_NodeInfo", .ref NI), (Str.ofString "TopologicalSorter", .ref TS),
  (Str.ofString "fspath", .ref 265), (Str.ofString "_get_sep", .ref 279), (Str.ofString "join", .ref 286), (Str.ofString "splitroot", .ref 293), (Str.ofString "dirname", .ref 300), (Str.ofString "normpath", .ref 307), (Str.ofString "_law_numbers", .ref 314), (Str.ofString "_law_folders", .ref 321),
  (Str.ofString "_law_drawn", .ref 328), (Str.ofString "_law_files", .ref 335), (Str.ofString "_law_pairs", .ref 340), (Str.ofString "_law_order", .ref 347), (Str.ofString "_law_wanted", .ref 352), (Str.ofString "_law_marks", .ref 357), (Str.ofString "_law_nearest", .ref 364), (Str.ofString "_law_fewest", .ref 369)]
noncomputable def blN : List (Str × Value) := [(Str.ofString "len", .builtin "len"), (Str.ofString "isinstance", .builtin "isinstance"), (Str.ofString "issubclass", .builtin "issubclass"), (Str.ofString "type", .type "type"), (Str.ofString "int", .type "int"), (Str.ofString "str", .type "str"), (Str.ofString "bytes", .type "bytes"),
  (Str.ofString "tuple", .type "tuple"), (Str.ofString "bool", .type "bool"), (Str.ofString "set", .type "set"), (Str.ofString "iter", .builtin "iter"), (Str.ofString "range", .type "range"), (Str.ofString "min", .builtin "min"), (Str.ofString "max", .builtin "max"), (Str.ofString "StopIteration", .type "StopIteration")]
theorem boot_bl : ∀ p ∈ blN, bootBuiltins p.1 = some p.2 ∧ p.1 ≠ "__name__" := by
  have h : (blN.all fun p => decide (bootBuiltins p.1 = some p.2 ∧ p.1 ≠ "__name__")) = true := by decide +kernel
  intro p hp
  exact of_decide_eq_true (List.all_eq_true.mp h p hp)
structure KF (K : Frag) : Prop where
  gl : (glN.all fun p => nsIn K mainGlobals p.1 == some (some p.2)) = true
  bl : (blN.all fun p => nsIn K mainGlobals p.1 == some none) = true
  nl : (K.all fun x => !(x.2.cls == .type "list")) = true
  td : K.lookup 117 = some (tupOf #[.none] 0)
  f5 : FK K 65 (FB 5) (FS 5) (FP 5) .none
  f6 : FK K 72 (FB 6) (FS 6) (FP 6) .none
  f21 : FK K 265 (FB 21) (FS 21) (FP 21) .none
  f25 : FK K 279 (FB 25) (FS 25) (FP 25) .none
  f26 : FK K 286 (FB 26) (FS 26) (FP 26) .none
  f27 : FK K 293 (FB 27) (FS 27) (FP 27) .none
  f28 : FK K 300 (FB 28) (FS 28) (FP 28) .none
  f29 : FK K 307 (FB 29) (FS 29) (FP 29) .none
  f31 : FK K 314 (FB 31) (FS 31) (FP 31) .none
  f32 : FK K 321 (FB 32) (FS 32) (FP 32) .none
  f33 : FK K 328 (FB 33) (FS 33) (FP 33) .none
  f34 : FK K 335 (FB 34) (FS 34) (FP 34) .none
  f35 : FK K 340 (FB 35) (FS 35) (FP 35) .none
  f36 : FK K 347 (FB 36) (FS 36) (FP 36) .none
  f37 : FK K 352 (FB 37) (FS 37) (FP 37) .none
  f38 : FK K 357 (FB 38) (FS 38) (FP 38) .none
  f39 : FK K 364 (FB 39) (FS 39) (FP 39) .none
  f40 : FK K 369 (FB 40) (FS 40) (FP 40) .none
  f41 : FK K 374 (FB 41) (FS 41) (FP 41) .none
  g1 : FK K 87 (MB 10 1) (MS 10 1) (MP 10 1) .none
  m0 : FK K 124 (MB 12 0) (MS 12 0) (MP 12 0) (.ref 117)
  m1 : FK K 131 (MB 12 1) (MS 12 1) (MP 12 1) .none
  m2 : FK K 138 (MB 12 2) (MS 12 2) (MP 12 2) .none
  m3 : FK K 143 (MB 12 3) (MS 12 3) (MP 12 3) .none
  m4 : FK K 150 (MB 12 4) (MS 12 4) (MP 12 4) .none
  m5 : FK K 157 (MB 12 5) (MS 12 5) (MP 12 5) .none
  m7 : FK K 171 (MB 12 7) (MS 12 7) (MP 12 7) .none
  m8 : FK K 178 (MB 12 8) (MS 12 8) (MP 12 8) .none
  at_ : AttrsIn K TS NI 92 93 94
  ct : ClsIn K TS 124
  cn : ClsIn K NI 87
  mg_ : MethIn K TS (Str.ofString "_get_nodeinfo") 131
  ma : MethIn K TS (Str.ofString "add") 138
  mp : MethIn K TS (Str.ofString "prepare") 143
  mr : MethIn K TS (Str.ofString "get_ready") 150
  mv : MethIn K TS (Str.ofString "is_active") 157
  md : BndIn K TS (Str.ofString "done") 171
  mc : MethIn K TS (Str.ofString "_find_cycle") 178
theorem FnK.full {B : Heap} {fr : Bool} {n m : Nat} {f : Addr} {cw : BW} (h : FnK B fr n f cw) (k : n ≤ m) : FnK B fr m f cw := fun C h1 h2 h3 => h C h1 (h2.less k) h3
theorem glob_of {K : Frag} {B : Heap} {mg mb : Str → Option Value} (X : K.In B) (F : KF K) (hg : B.Ns mainGlobals mg) (hb : B.Ns builtinsNs mb) (hbo : ∀ x : Str, x ≠ "__name__" → mb x = bootBuiltins x) {fd : FuncData} (e1 : fd.globals = mainGlobals) (e2 : fd.builtins = builtinsNs)
    {G : List (Str × Value)} (h : ∀ g ∈ G, g ∈ glN ∨ g ∈ blN) : ∀ g ∈ G, GlobOk B fd.globals fd.builtins g.1 g.2 := fun g hG => by
  rw [e1, e2]
  refine ⟨mg, hg, ?_⟩
  rcases h g hG with q | q
  · exact .inl (mg_of X hg (beq_iff_eq.mp (List.all_eq_true.mp F.gl g q)))
  · obtain ⟨b1, b2⟩ := boot_bl g q
    exact .inr ⟨ns_none_of X hg (beq_iff_eq.mp (List.all_eq_true.mp F.bl g q)), mb, hb, (hbo _ b2).trans b1⟩

theorem frag_mem {a : Addr} {o : Obj} : ∀ {l : Frag}, l.lookup a = some o → (a, o) ∈ l
  | (b, p) :: r, h => by
    rw [List.lookup_cons] at h
    split at h
    · rename_i q
      cases h
      rw [beq_iff_eq.mp q]; exact List.mem_cons_self ..
    · exact List.mem_cons_of_mem _ (frag_mem h)
theorem ns_mask {h : Heap} {l a : Addr} {its : Array Value} {n : Nat} {m : Str → Option Value} (hl : h.get? l = some (listOf its n)) (x : h.Ns a m) : (mask (fun b => b != l) h).Ns a m := by
  refine by_ng fun ng => ?_
  obtain ⟨o, es, ep, ho, hd, r⟩ := x
  refine ng ?_
  clear ng
  have : a ≠ l := fun z => by
    rw [z, hl] at ho
    cases ho
    cases hd
  exact ⟨o, es, ep, by rw [mask_get, if_pos (by simpa using this)]; exact ho, hd, r⟩
theorem FnAt.at_ {B : Heap} {a : Addr} {b : List Stmt} {sc : Scope} {pr : Arguments} {df : Value} {fd : FuncData} (h : FnAt B a b sc pr df fd) : ∃ o fd, B.get? a = some o ∧ o.data = .func fd := let ⟨o, x, y⟩ := h.fi.get; ⟨o, fd, x, y⟩
section
variable {B : Heap} {K : Frag} (hB : Bas B) (X : K.In B) (F : KF K)
    (GG : ∀ {fd : FuncData}, fd.globals = mainGlobals → fd.builtins = builtinsNs → ∀ {G : List (Str × Value)}, (∀ g ∈ G, g ∈ glN ∨ g ∈ blN) → ∀ g ∈ G, GlobOk B fd.globals fd.builtins g.1 g.2)
include hB X F GG
theorem fn21 : Fn B 1 265 fspathW := by
  obtain ⟨fd, h⟩ := F.f21.at X
  exact ⟨h.at_, fspath_walk hB h.fn h.sc h.pr (GG h.gl h.bu (by decide))⟩
theorem fn25 : Fn B 1 279 sepW := by
  obtain ⟨fd, h⟩ := F.f25.at X
  exact ⟨h.at_, sep_walk hB h.fn h.sc h.pr (GG h.gl h.bu (by decide))⟩
theorem fn5 : Fn B 1 65 parse229W := by
  obtain ⟨fd, h⟩ := F.f5.at X
  exact ⟨h.at_, parse229_walk hB h.fn h.sc h.pr (GG h.gl h.bu (by decide))⟩
theorem fn6 : Fn B 1 72 parse257W := by
  obtain ⟨fd, h⟩ := F.f6.at X
  exact ⟨h.at_, parse257_walk hB h.fn h.sc h.pr (GG h.gl h.bu (by decide))⟩
theorem fn26 : Fn B 2 286 pjoinW := by
  obtain ⟨fd, h⟩ := F.f26.at X
  exact ⟨h.at_, join_walk hB 265 279 (fn21 hB X F GG) (fn25 hB X F GG) h.fn h.sc h.pr (GG h.gl h.bu (by decide))⟩
theorem fn27 : Fn B 2 293 splitrootW := by
  obtain ⟨fd, h⟩ := F.f27.at X
  exact ⟨h.at_, splitroot_walk hB 265 (fn21 hB X F GG) h.fn h.sc h.pr (GG h.gl h.bu (by decide))⟩
theorem fn28 : Fn B 2 300 dirnameW := by
  obtain ⟨fd, h⟩ := F.f28.at X
  exact ⟨h.at_, dirname_walk hB 265 279 (fn21 hB X F GG) (fn25 hB X F GG) h.fn h.sc h.pr (GG h.gl h.bu (by decide))⟩
theorem fn29 : Fn B 3 307 normpathW := by
  obtain ⟨fd, h⟩ := F.f29.at X
  exact ⟨h.at_, normpath_walk hB 265 293 ((fn21 hB X F GG).more (by decide)) (fn27 hB X F GG) h.fn h.sc h.pr (GG h.gl h.bu (by decide))⟩
theorem fn31 : Fn B 1 314 numbersW := by
  obtain ⟨fd, h⟩ := F.f31.at X
  exact ⟨h.at_, numbers_walk hB h.fn h.sc h.pr (GG h.gl h.bu (by decide))⟩
theorem fn32 : Fn B 1 321 foldersW := by
  obtain ⟨fd, h⟩ := F.f32.at X
  exact ⟨h.at_, folders_walk hB h.fn h.sc h.pr (GG h.gl h.bu (by decide))⟩
theorem fn33 : Fn B 1 328 drawnW := by
  obtain ⟨fd, h⟩ := F.f33.at X
  exact ⟨h.at_, drawn_walk hB h.fn h.sc h.pr (GG h.gl h.bu (by decide))⟩
theorem fn34 : Fn B 4 335 filesW := by
  obtain ⟨fd, h⟩ := F.f34.at X
  exact ⟨h.at_, files_walk hB 307 286 72 65 (fn29 hB X F GG) ((fn26 hB X F GG).more (by decide)) ((fn6 hB X F GG).more (by decide)) ((fn5 hB X F GG).more (by decide)) h.fn h.sc h.pr (GG h.gl h.bu (by decide))⟩
theorem fn35 : Fn B 3 340 pairsW := by
  obtain ⟨fd, h⟩ := F.f35.at X
  exact ⟨h.at_, pairs_walk hB 300 (fn28 hB X F GG) h.fn h.sc h.pr (GG h.gl h.bu (by decide))⟩
theorem fn37 : Fn B 1 352 wantedW := by
  obtain ⟨fd, h⟩ := F.f37.at X
  exact ⟨h.at_, wanted_walk hB h.fn h.sc h.pr (GG h.gl h.bu (by decide))⟩
theorem fn38 : Fn B 1 357 marksW := by
  obtain ⟨fd, h⟩ := F.f38.at X
  exact ⟨h.at_, marks_walk hB h.fn h.sc h.pr (GG h.gl h.bu (by decide))⟩
theorem fn39 : Fn B 3 364 nearestW := by
  obtain ⟨fd, h⟩ := F.f39.at X
  exact ⟨h.at_, nearest_walk hB 300 (fn28 hB X F GG) h.fn h.sc h.pr (GG h.gl h.bu (by decide))⟩
theorem fn40 : Fn B 1 369 fewestW := by
  obtain ⟨fd, h⟩ := F.f40.at X
  exact ⟨h.at_, fewest_walk hB h.fn h.sc h.pr (GG h.gl h.bu (by decide))⟩
theorem fn10 : FnK B false 1 87 (nodeInitW NI) := by
  obtain ⟨fd, h⟩ := F.g1.at X
  exact nodeInit_walk hB K X F.at_ h.fn h.sc h.pr (GG h.gl h.bu (by decide))
theorem fnm0 : FnK B false 1 124 (tsInitW TS) := by
  obtain ⟨fd, h⟩ := F.m0.at X
  exact tsInit_walk hB K X F.at_ (X _ _ F.td) h.df h.kw h.fi h.sc h.pr (GG h.gl h.bu (by decide))
theorem fnm1 : Fn B 4 131 (gniW TS NI) := by
  obtain ⟨fd, h⟩ := F.m1.at X
  exact ⟨h.at_, (gni_walk hB (n := 1) K X F.at_ F.cn (fn10 hB X F GG) h.fn h.sc h.pr (GG h.gl h.bu (by decide))).fn.fn⟩
theorem fnm2 : Fn B 5 138 (addW TS NI) := by
  obtain ⟨fd, h⟩ := F.m2.at X
  exact ⟨h.at_, (add_walk hB (n := 4) K X F.at_ F.mg_ (fnm1 hB X F GG) h.fn h.sc h.pr (GG h.gl h.bu (by decide))).fn.fn⟩
theorem fnm5 : Fn B 1 157 (activeW TS NI) := by
  obtain ⟨fd, h⟩ := F.m5.at X
  exact ⟨h.at_, (active_walk hB (n := 0) K X F.at_ h.fn h.sc h.pr (GG h.gl h.bu (by decide))).fn.fn⟩
theorem fnm4 : Fn B 1 150 (readyW TS NI) := by
  obtain ⟨fd, h⟩ := F.m4.at X
  exact ⟨h.at_, (ready_walk hB (n := 0) 275 K X F.at_ h.fn h.sc h.pr (GG h.gl h.bu (by decide))).fn.fn⟩
theorem fnm7 : FnK B false 1 171 (doneW TS NI) := by
  obtain ⟨fd, h⟩ := F.m7.at X
  exact done_walk hB (n := 0) 275 278 K X F.at_ h.fn h.sc h.pr (GG h.gl h.bu (by decide))
theorem fnm8 : FnR B 1 178 (fcW TS NI) := by
  obtain ⟨fd, h⟩ := F.m8.at X
  exact ⟨h.at_, (fc_walk hB (n := 0) K X F.at_ h.fn h.sc h.pr (GG h.gl h.bu (by decide))).fn⟩
theorem fnm3 : FnR B 5 143 (prepW TS NI) := by
  obtain ⟨fd, h⟩ := F.m3.at X
  exact ⟨h.at_, ((prep_walk hB (n := 1) K X F.at_ F.mc (fnm8 hB X F GG) h.fn h.sc h.pr (GG h.gl h.bu (by decide))).full (by decide)).fn⟩
theorem fn36 : FnR B 6 347 (orderW TS NI) := by
  obtain ⟨fd, h⟩ := F.f36.at X
  obtain ⟨fd7, h7⟩ := F.m7.at X
  exact ⟨h.at_, (order_walk hB (n := 3) K X F.ct ((fnm0 hB X F GG).full (by decide)) F.ma (fnm2 hB X F GG) F.mp (fnm3 hB X F GG) F.mv ((fnm5 hB X F GG).more (by decide)) F.mr ((fnm4 hB X F GG).more (by decide)) F.md h7.at_ ((fnm7 hB X F GG).full (by decide)) h.fn h.sc h.pr (GG h.gl h.bu (by decide))).fn⟩
theorem fn41 : FnF B true 7 374 lawW := by
  obtain ⟨fd, h⟩ := F.f41.at X
  exact (law_walk hB (n := 6) ((fn31 hB X F GG).more (by decide)) ((fn32 hB X F GG).more (by decide)) ((fn33 hB X F GG).more (by decide)) ((fn34 hB X F GG).more (by decide)) ((fn35 hB X F GG).more (by decide)) (fn36 hB X F GG)
    ((fn37 hB X F GG).more (by decide)) ((fn38 hB X F GG).more (by decide)) ((fn39 hB X F GG).more (by decide)) ((fn40 hB X F GG).more (by decide)) h.fn h.sc h.pr (GG h.gl h.bu (by decide))).fn
end
theorem fin_law {prog : Program} {w : World} {s : Shared} {K : Frag} {mg mb : Str → Option Value} (hg : s.heap.Ns mainGlobals mg) (hb : s.heap.Ns builtinsNs mb) (hbo : ∀ x : Str, x ≠ "__name__" → mb x = bootBuiltins x) (hlim : s.heap.NoLimit) (hsys : ∃ mm, s.heap.Ns sysModules mm)
    (X : K.In s.heap) (F : KF K) {l : Addr} {its : Array Value} {n : Nat} {ns : List Int} (hl : s.heap.get? l = some (listOf its n)) (hI : its.toList.map er = vI ns) (hn : ns.length ≤ 1000) :
    wpAny (model prog w) callerA (call (.ref 374) [.ref l]) (fun v s' => v = .bool true ∧ Oth s s' ∧ ∀ b o, s.heap.get? b = some o → s'.heap.get? b = some o) NoE s := by
  have mk : ∀ b o, s.heap.get? b = some o → b ≠ l → (mask (fun b => b != l) s.heap).get? b = some o := fun b o e q => by rw [mask_get, if_pos (by simpa using q)]; exact e
  have ml : (mask (fun b => b != l) s.heap).get? l = none := by rw [mask_get, if_neg (by simp)]
  have km : ∀ b o, (mask (fun b => b != l) s.heap).get? b = some o → s.heap.get? b = some o := fun b o e => by
    rw [mask_get] at e
    split at e
    · exact e
    · cases e
  have hg := ns_mask hl hg
  have hb := ns_mask hl hb
  have hB : Bas (mask (fun b => b != l) s.heap) := ⟨by
    refine by_ng fun ng => ?_
    obtain ⟨mm, h⟩ := hsys
    obtain ⟨o, _, _, ho, _⟩ := ns_mask hl h
    refine ng ?_
    clear ng
    exact ⟨o, ho⟩, let ⟨mc, h1, h2⟩ := hlim; ⟨mc, ns_mask hl h1, h2⟩⟩
  have XB : K.In (mask (fun b => b != l) s.heap) := fun a o e => mk a o (X a o e) fun z => by
    have h1 := X a o e
    have h2 := List.all_eq_true.mp F.nl (a, o) (frag_mem e)
    rw [z, hl] at h1
    cases h1
    have h3 : (!(Value.type "list" == Value.type "list")) = true := h2
    simp at h3
  have law := fn41 hB XB F (fun e1 e2 => glob_of XB F hg hb hbo e1 e2)
  have R : Rep ⟨prog, w, callerA, mask (fun b => b != l) s.heap, ⟨#[], s.heap.life⟩, []⟩ s.heap (fun a => if a = l then some (.raw (listOf its n)) else none) [] := by
    refine ⟨km, fun a ho e => ?_, fun i l' e => (nomatch e), fun l' h => absurd h List.not_mem_nil, fun b o e => ?_⟩
    · by_cases q : a = l
      · subst q
        have e' : some (HO.raw (listOf its n)) = some ho := (if_pos rfl).symm.trans e
        cases e'
        exact ⟨ml, hl⟩
      · have e' : (none : Option HO) = some ho := (if_neg q).symm.trans e
        cases e'
    · have : (⟨#[], s.heap.life⟩ : Heap).get? b = none := by unfold Heap.get?; simp
      have e' : (⟨#[], s.heap.life⟩ : Heap).get? b = some o := e
      rw [this] at e'; cases e'
  have call := law ⟨prog, w, callerA, mask (fun b => b != l) s.heap, ⟨#[], s.heap.life⟩, []⟩ (fun _ _ e => e) ⟨rfl, show callerA.depth + 7 < recursionLimit by decide +kernel, show callerA.units + 70 + 3 * 7 < cLine by decide +kernel⟩ (fun _ => ⟨[], rfl, fun _ h => absurd h List.not_mem_nil⟩)
    (mask (fun b => b != l) s.heap) (fun _ _ e => e) [.ref l] s _ [] (fun v H' _ => v = .bool true ∧ H' l = some (.raw (listOf its n))) (Nat.zero_le _) R ⟨⟨its, n, ns, if_pos rfl, hI, hn⟩, rfl, if_pos rfl⟩
  refine wpAny_mono call (fun v s' ⟨o, H', L', r', hv, hh⟩ => ⟨er_bool hv, o, fun b ob e => ?_⟩) fun _ _ q => q
  by_cases q : b = l
  · subst q
    rw [hl] at e
    cases e
    exact (r'.hp _ _ hh).2
  · exact r'.keep b ob (mk b ob e q)

theorem hda.tw10055637931091748217 : True := trivial
theorem hda.tw10135195621636975342 : True := trivial
theorem hda.tw10160240763470596597 : True := trivial
theorem hda.tw10164277435049772759 : True := trivial
theorem hda.tw10213876835339950124 : True := trivial
theorem hda.tw1036440779448897148 : True := trivial
theorem hda.tw10379359386133920705 : True := trivial
theorem hda.tw10380076319993214937 : True := trivial
theorem hda.tw10503130549781168381 : True := trivial
theorem hda.tw10719144651373943311 : True := trivial
theorem hda.tw10721087792291291220 : True := trivial
theorem hda.tw1074826623305405834 : True := trivial
theorem hda.tw1082766340799622558 : True := trivial
theorem hda.tw1091365335147042908 : True := trivial
theorem hda.tw10969905407095455832 : True := trivial
theorem hda.tw11003671252179346586 : True := trivial
theorem hda.tw11025757553962756592 : True := trivial
theorem hda.tw11038905181812802597 : True := trivial
theorem hda.tw11056010321261976968 : True := trivial
theorem hda.tw11088294510140742711 : True := trivial
theorem hda.tw11108916133010844463 : True := trivial
theorem hda.tw11150400602352936973 : True := trivial
theorem hda.tw11234417236131641395 : True := trivial
theorem hda.tw11255588324445203830 : True := trivial
theorem hda.tw11286243474049363722 : True := trivial
theorem hda.tw11309722160265645715 : True := trivial
theorem hda.tw11378471908449905819 : True := trivial
theorem hda.tw11382412516958292572 : True := trivial
theorem hda.tw11411376791897692021 : True := trivial
theorem hda.tw11420480075037373427 : True := trivial
theorem hda.tw11464051309563619151 : True := trivial
theorem hda.tw11501777831131449898 : True := trivial
theorem hda.tw11523532197033099451 : True := trivial
theorem hda.tw11589910857833434765 : True := trivial
theorem hda.tw11596025835199735706 : True := trivial
theorem hda.tw11654516445662114716 : True := trivial
theorem hda.tw11688630328234148238 : True := trivial
theorem hda.tw11725526422893886264 : True := trivial
theorem hda.tw11756434409894173880 : True := trivial
theorem hda.tw1179543833388894852 : True := trivial
theorem hda.tw11842050963055292585 : True := trivial
theorem hda.tw1186661889751603503 : True := trivial
theorem hda.tw11966971473072677075 : True := trivial
theorem hda.tw1204521773075477315 : True := trivial
theorem hda.tw12054585467293021842 : True := trivial
theorem hda.tw12096987630660413728 : True := trivial
theorem hda.tw12192527031115595931 : True := trivial
theorem hda.tw12194382922975027954 : True := trivial
theorem hda.tw12201401435056263 : True := trivial
theorem hda.tw12250838244116681285 : True := trivial
theorem hda.tw12265047472860958153 : True := trivial
theorem hda.tw12334363882676220158 : True := trivial
theorem hda.tw12350326380482293708 : True := trivial
theorem hda.tw12387793320553225204 : True := trivial
theorem hda.tw12403298664052421753 : True := trivial
theorem hda.tw12405839087095342038 : True := trivial
theorem hda.tw12408059527888500973 : True := trivial
theorem hda.tw12411164480007074185 : True := trivial
theorem hda.tw12438545219839001699 : True := trivial
theorem hda.tw12445400056171211449 : True := trivial
theorem hda.tw12485558446749321975 : True := trivial
theorem hda.tw12579456220433295879 : True := trivial
theorem hda.tw12617147023695078882 : True := trivial
theorem hda.tw12624126088367892405 : True := trivial
theorem hda.tw12634840448781237252 : True := trivial
theorem hda.tw12647141681863764283 : True := trivial
theorem hda.tw12654575583403160484 : True := trivial
theorem hda.tw12663247869224420795 : True := trivial
theorem hda.tw12674893311527902145 : True := trivial
theorem hda.tw12676580564244283412 : True := trivial
theorem hda.tw12736249923978311380 : True := trivial
theorem hda.tw12749306029128468498 : True := trivial
theorem hda.tw12787629118260690499 : True := trivial
theorem hda.tw12848908199733871930 : True := trivial
theorem hda.tw12897778302524052325 : True := trivial
theorem hda.tw12914241841056794500 : True := trivial
theorem hda.tw12933659081643304524 : True := trivial
theorem hda.tw12959968187986038870 : True := trivial
theorem hda.tw12965299508731448794 : True := trivial
theorem hda.tw12967875453739501014 : True := trivial
theorem hda.tw12971287805083392132 : True := trivial
theorem hda.tw12972726331059680351 : True := trivial
theorem hda.tw12986644293475481640 : True := trivial
theorem hda.tw13009192251650085663 : True := trivial
theorem hda.tw1302061777837147411 : True := trivial
theorem hda.tw13038098425208505776 : True := trivial
theorem hda.tw13049589137553833165 : True := trivial
theorem hda.tw13061693278501867650 : True := trivial
theorem hda.tw13068995475242760608 : True := trivial
theorem hda.tw13128555355831772301 : True := trivial
theorem hda.tw13132216187785373702 : True := trivial
theorem hda.tw13179731557175465495 : True := trivial
theorem hda.tw13304887804422873761 : True := trivial
theorem hda.tw13374543376485909410 : True := trivial
theorem hda.tw13428033039073821489 : True := trivial
theorem hda.tw13466252650735373672 : True := trivial
theorem hda.tw13527646731107517107 : True := trivial
theorem hda.tw13575440319899045022 : True := trivial
theorem hda.tw13612038155963929537 : True := trivial
theorem hda.tw1361479567878082218 : True := trivial
theorem hda.tw13710433858654602125 : True := trivial
theorem hda.tw13737160393902767084 : True := trivial
theorem hda.tw13757519535656721124 : True := trivial
theorem hda.tw13789736668250330359 : True := trivial
theorem hda.tw13793092939389240011 : True := trivial
theorem hda.tw13948832173222081182 : True := trivial
theorem hda.tw14096862807522929185 : True := trivial
theorem hda.tw14102412685431564151 : True := trivial
theorem hda.tw1415307513259407620 : True := trivial
theorem hda.tw14247657326713274224 : True := trivial
theorem hda.tw14273547174246440046 : True := trivial
theorem hda.tw14324204320952586027 : True := trivial
theorem hda.tw14337326757426681337 : True := trivial
theorem hda.tw14437327702572009010 : True := trivial
theorem hda.tw14445080194951181019 : True := trivial
theorem hda.tw14463721261945646361 : True := trivial
theorem hda.tw14487720587548496119 : True := trivial
theorem hda.tw14492171806653762542 : True := trivial
theorem hda.tw14495530718794370439 : True := trivial
theorem hda.tw14520194300338346323 : True := trivial
theorem hda.tw14544107072765483014 : True := trivial
theorem hda.tw1454526570557234737 : True := trivial
theorem hda.tw14551594085240914373 : True := trivial
theorem hda.tw14558519733388524825 : True := trivial
theorem hda.tw14561086952037861196 : True := trivial
theorem hda.tw14593410238915825074 : True := trivial
theorem hda.tw14615917731012679202 : True := trivial
theorem hda.tw14632000930973341289 : True := trivial
theorem hda.tw1474255319294972961 : True := trivial
theorem hda.tw14759970876933800639 : True := trivial
theorem hda.tw14821182567224578817 : True := trivial
theorem hda.tw1484611287369247203 : True := trivial
theorem hda.tw14964212682881419899 : True := trivial
theorem hda.tw1498993994419332296 : True := trivial
theorem hda.tw15030212152911609179 : True := trivial
theorem hda.tw15156388148976362530 : True := trivial
theorem hda.tw1518562041682408665 : True := trivial
theorem hda.tw15219459870108540320 : True := trivial
theorem hda.tw15238578502844364054 : True := trivial
theorem hda.tw15425985783063786670 : True := trivial
theorem hda.tw15579171929360678289 : True := trivial
theorem hda.tw15835336052100710580 : True := trivial
theorem hda.tw15844576675024689675 : True := trivial
theorem hda.tw15881263090228962009 : True := trivial
theorem hda.tw15897684844668532029 : True := trivial
theorem hda.tw15964117215239470533 : True := trivial
theorem hda.tw16054390663426605847 : True := trivial
theorem hda.tw16082668584781400737 : True := trivial
theorem hda.tw16195510613204569778 : True := trivial
theorem hda.tw16284392406597773669 : True := trivial
theorem hda.tw16287595909963673705 : True := trivial
theorem hda.tw16329953587031305156 : True := trivial
theorem hda.tw16337776796822019208 : True := trivial
theorem hda.tw16482868632833616146 : True := trivial
theorem hda.tw16486591771441213469 : True := trivial
theorem hda.tw16493046378764636631 : True := trivial
theorem hda.tw16545208037430640037 : True := trivial
theorem hda.tw16546725211761649225 : True := trivial
theorem hda.tw16603584067698559302 : True := trivial
theorem hda.tw16648019807773798669 : True := trivial
theorem hda.tw16680554833662063923 : True := trivial
theorem hda.tw16779016821250350819 : True := trivial
theorem hda.tw1680078705978408332 : True := trivial
theorem hda.tw16877963695220012424 : True := trivial
theorem hda.tw16919345887008932621 : True := trivial
theorem hda.tw16984350098250715789 : True := trivial
theorem hda.tw17002434389828113882 : True := trivial
theorem hda.tw17069267694593943851 : True := trivial
theorem hda.tw17092204792803429501 : True := trivial
theorem hda.tw17147242264849040396 : True := trivial
theorem hda.tw17150261827067868237 : True := trivial
theorem hda.tw17161887157914652112 : True := trivial
theorem hda.tw17180720660460491030 : True := trivial
theorem hda.tw17220206465575608009 : True := trivial
theorem hda.tw17227362941748870163 : True := trivial
theorem hda.tw17256960581382684487 : True := trivial
theorem hda.tw17473504458628295163 : True := trivial
theorem hda.tw17541413751595370555 : True := trivial
theorem hda.tw17640125028533580605 : True := trivial
theorem hda.tw17697168223089942912 : True := trivial
theorem hda.tw17830414479688163714 : True := trivial
theorem hda.tw17837758702709806372 : True := trivial
theorem hda.tw17865602204547128135 : True := trivial
theorem hda.tw17882473313673954512 : True := trivial
theorem hda.tw17883542529183045602 : True := trivial
theorem hda.tw17901785586311664213 : True := trivial
theorem hda.tw17949099462195522694 : True := trivial
theorem hda.tw17997178538015117523 : True := trivial
theorem hda.tw18020399991963874319 : True := trivial
theorem hda.tw18052455855295729920 : True := trivial
theorem hda.tw18062037717580925023 : True := trivial
theorem hda.tw18072712159183437125 : True := trivial
theorem hda.tw18135304396814186339 : True := trivial
theorem hda.tw18271662997088945726 : True := trivial
theorem hda.tw18383418979422963051 : True := trivial
theorem hda.tw18384019903081384567 : True := trivial
theorem hda.tw18412776597105905086 : True := trivial
theorem hda.tw1844013033561872319 : True := trivial
theorem hda.tw1844524937795821751 : True := trivial
theorem hda.tw1852296004146784959 : True := trivial
theorem hda.tw1991591795384326370 : True := trivial
theorem hda.tw2006786541101490977 : True := trivial
theorem hda.tw2100203729197174112 : True := trivial
theorem hda.tw2137716474134580820 : True := trivial
theorem hda.tw2221460206498964152 : True := trivial
theorem hda.tw2259122410223327319 : True := trivial
theorem hda.tw2274949121259233961 : True := trivial
theorem hda.tw2297706947211537899 : True := trivial
theorem hda.tw2364946265117347229 : True := trivial
theorem hda.tw2514693603780839425 : True := trivial
theorem hda.tw2638560843238338399 : True := trivial
theorem hda.tw2757355926001721960 : True := trivial
theorem hda.tw2803550911377271895 : True := trivial
theorem hda.tw2816773050954508238 : True := trivial
theorem hda.tw2875051395802394366 : True := trivial
theorem hda.tw2897761431212756813 : True := trivial
theorem hda.tw2944220056508287953 : True := trivial
theorem hda.tw3006300634904878858 : True := trivial
theorem hda.tw3030316413054699146 : True := trivial
theorem hda.tw3053061916762527676 : True := trivial
theorem hda.tw3108358474933828336 : True := trivial
theorem hda.tw3141320645970232934 : True := trivial
theorem hda.tw3190363574692143515 : True := trivial
theorem hda.tw3206757575097965653 : True := trivial
theorem hda.tw3330287882882830179 : True := trivial
theorem hda.tw3481844831498214244 : True := trivial
theorem hda.tw3545164728114835970 : True := trivial
theorem hda.tw3561743719729665078 : True := trivial
theorem hda.tw3605100217119330153 : True := trivial
theorem hda.tw3658988130844068633 : True := trivial
theorem hda.tw3713841797122244010 : True := trivial
theorem hda.tw376382204616439182 : True := trivial
theorem hda.tw3767352842342999486 : True := trivial
theorem hda.tw3892062261005093103 : True := trivial
theorem hda.tw4057160001994844981 : True := trivial
theorem hda.tw408294024664406849 : True := trivial
theorem hda.tw4119131056664272621 : True := trivial
theorem hda.tw4167737330878479508 : True := trivial
theorem hda.tw4216389809861686205 : True := trivial
theorem hda.tw4248803692697521852 : True := trivial
theorem hda.tw4326771194065949388 : True := trivial
theorem hda.tw4395635909353064954 : True := trivial
theorem hda.tw4432412392254599451 : True := trivial
theorem hda.tw4433776953338144667 : True := trivial
theorem hda.tw4442187715432813719 : True := trivial
theorem hda.tw445616926098092304 : True := trivial
theorem hda.tw447250095123665273 : True := trivial
theorem hda.tw4515505178995702167 : True := trivial
theorem hda.tw453702169152148271 : True := trivial
theorem hda.tw4552590450837677743 : True := trivial
theorem hda.tw4564806314527257659 : True := trivial
theorem hda.tw4603650299019682531 : True := trivial
theorem hda.tw4606119393133404829 : True := trivial
theorem hda.tw461383934411098155 : True := trivial
theorem hda.tw4658350092898856945 : True := trivial
theorem hda.tw4794898819951816780 : True := trivial
theorem hda.tw4856001070811579272 : True := trivial
theorem hda.tw4910407474647633896 : True := trivial
theorem hda.tw4963915825105472637 : True := trivial
theorem hda.tw5217967100663197755 : True := trivial
theorem hda.tw5224943261688064037 : True := trivial
theorem hda.tw5320244992451034529 : True := trivial
theorem hda.tw5395520349997299998 : True := trivial
theorem hda.tw54205791398929427 : True := trivial
theorem hda.tw5426389925578265692 : True := trivial
theorem hda.tw5468105710384877564 : True := trivial
theorem hda.tw5509542126276899131 : True := trivial
theorem hda.tw5515371941657751679 : True := trivial
theorem hda.tw570745397082536998 : True := trivial
theorem hda.tw5716599963760297681 : True := trivial
theorem hda.tw5722355547638784137 : True := trivial
theorem hda.tw5746991245887223269 : True := trivial
theorem hda.tw5868360700563847380 : True := trivial
theorem hda.tw5917051052527777763 : True := trivial
theorem hda.tw5949707799054013856 : True := trivial
theorem hda.tw6047018587706654387 : True := trivial
theorem hda.tw6079959749662867813 : True := trivial
theorem hda.tw6100226629088200938 : True := trivial
theorem hda.tw620633084835861454 : True := trivial
theorem hda.tw6227043453475034216 : True := trivial
theorem hda.tw6344431110110107588 : True := trivial
theorem hda.tw6373509604325515587 : True := trivial
theorem hda.tw6402906811468616856 : True := trivial
theorem hda.tw6434397526911173023 : True := trivial
theorem hda.tw6574203091355587975 : True := trivial
theorem hda.tw6605914025692202556 : True := trivial
theorem hda.tw6611484823398920866 : True := trivial
theorem hda.tw6776395427281078347 : True := trivial
theorem hda.tw6796906430450918332 : True := trivial
theorem hda.tw6854325224252424062 : True := trivial
theorem hda.tw6927110956367636775 : True := trivial
theorem hda.tw694142414724265802 : True := trivial
theorem hda.tw7075935959785544185 : True := trivial
theorem hda.tw725750613753991664 : True := trivial
theorem hda.tw7263162780725561646 : True := trivial
theorem hda.tw7316764954154628700 : True := trivial
theorem hda.tw7364591545258839654 : True := trivial
theorem hda.tw7380306995314339929 : True := trivial
theorem hda.tw7461724469870883686 : True := trivial
theorem hda.tw7487878557860702395 : True := trivial
theorem hda.tw7617919611506237901 : True := trivial
theorem hda.tw7776262590043529712 : True := trivial
theorem hda.tw7857616463847708148 : True := trivial
theorem hda.tw7885138249564832611 : True := trivial
theorem hda.tw7978607245160357548 : True := trivial
theorem hda.tw7985929086704085116 : True := trivial
theorem hda.tw7991250213818253707 : True := trivial
theorem hda.tw8074130866917267086 : True := trivial
theorem hda.tw8108303901331604096 : True := trivial
theorem hda.tw8155968027312173791 : True := trivial
theorem hda.tw8200672359996324102 : True := trivial
theorem hda.tw8268566710321354752 : True := trivial
theorem hda.tw8272500531154460031 : True := trivial
theorem hda.tw8376452102948326237 : True := trivial
theorem hda.tw8441876996460727190 : True := trivial
theorem hda.tw8469171546176651827 : True := trivial
theorem hda.tw852105067013691976 : True := trivial
theorem hda.tw8559060137341198246 : True := trivial
theorem hda.tw8563749978372642265 : True := trivial
theorem hda.tw8599815664315829305 : True := trivial
theorem hda.tw8602944108134276922 : True := trivial
theorem hda.tw8686958234747636193 : True := trivial
theorem hda.tw8706623791023728691 : True := trivial
theorem hda.tw8756253606261536789 : True := trivial
theorem hda.tw883113176039234196 : True := trivial
theorem hda.tw8840784383453288663 : True := trivial
theorem hda.tw8865116562675046233 : True := trivial
theorem hda.tw889621532744747458 : True := trivial
theorem hda.tw8985113958104619413 : True := trivial
theorem hda.tw903390326535788550 : True := trivial
theorem hda.tw9082249468322512179 : True := trivial
theorem hda.tw9095522672565021317 : True := trivial
theorem hda.tw9098498430703844080 : True := trivial
theorem hda.tw9125351067096282147 : True := trivial
theorem hda.tw9174597395791785519 : True := trivial
theorem hda.tw9179613937048357771 : True := trivial
theorem hda.tw9196335781165073377 : True := trivial
theorem hda.tw9264255215927686128 : True := trivial
theorem hda.tw9321166024447882871 : True := trivial
theorem hda.tw932471028864680614 : True := trivial
theorem hda.tw9328062805792813433 : True := trivial
theorem hda.tw9333639131133935863 : True := trivial
theorem hda.tw9437926700624296396 : True := trivial
theorem hda.tw9438021089988661251 : True := trivial
theorem hda.tw9473224708969231369 : True := trivial
theorem hda.tw9475758769236409021 : True := trivial
theorem hda.tw9496842973163358083 : True := trivial
theorem hda.tw954796225129868880 : True := trivial
theorem hda.tw9648155295360955700 : True := trivial
theorem hda.tw9751526549802347528 : True := trivial
theorem hda.tw9793936264698507321 : True := trivial
theorem hda.tw9833587803985211742 : True := trivial
theorem hda.tw9857080066148602992 : True := trivial
theorem hda.tw9900629910087830831 : True := trivial
theorem hda.tw9911693215677168972 : True := trivial
theorem hda.tw9911725465276135652 : True := trivial
theorem hda.tw9934140721122612580 : True := trivial
theorem hda.tw9967872862616936415 : True := trivial
theorem hda.tw9975466564013731669 : True := trivial
theorem ints_er : ∀ {vs : List Value} {ns : List Int}, IntsAre vs ns → vs.map er = vI ns
  | _, _, .nil => rfl
  | _, _, .cons n t r => by
    have := ints_er r
    simp only [List.map_cons, this]
    rfl
end Mine
open PySem PySem.W PyProof.Rows
set_option maxHeartbeats 8000000 in
set_option Elab.async true in
theorem Mine.hda : PySem.Challenge.rw_pd0199_01.Holds := by
  w_on
  o_law
  k_head
  (case hw => w_witness2)
  intro w s₀ s₁ mg mb G Y fa o pm cd doc dV kV ho hd hcd hD hmg hg args vals as hpre hlay hrd hwl hlo
  have KX := kIn_of Y
  have hfa : mg (PySem.Str.ofString "law") = some (.ref fa) := hmg
  have e374 : mg (PySem.Str.ofString "law") = some (.ref 374) := mg_of KX G.T.g (by kernel_rfl)
  rw [e374] at hfa
  cases hfa
  clear hmg hd hcd hD Y e374 ho
  wrow_args hpre hlay hrd hwl hlo
  rename_i ns _ _ _ _ _ _ _ l vs _ hL _ hW _ hI _ hlen _
  have hW' : Well w.params s₁.heap (.ref l) (.list (ofPys (ns.map PyData.int))) := hW
  cases hW' with
  | list hl _ =>
    rename_i vs' _
    have hlv : s₁.heap.get? l = some (PySem.W.listOf vs'.toArray 0) := hl
    obtain ⟨o', ho', _, _, hd'⟩ := hL
    rw [hl] at ho'
    cases ho'
    cases hd'
    refine wpAny_mono (Mine.fin_law G.T.g G.T.b G.T.builtins G.T.nolimit (let ⟨mm, h, _⟩ := (G.T.seer (by decide +kernel)).mods; ⟨mm, h⟩) KX ⟨by kernel_rfl, by kernel_rfl, by kernel_rfl, by kernel_rfl, ⟨by kernel_rfl, by kernel_rfl⟩, ⟨by kernel_rfl, by kernel_rfl⟩, ⟨by kernel_rfl, by kernel_rfl⟩, ⟨by kernel_rfl, by kernel_rfl⟩, ⟨by kernel_rfl, by kernel_rfl⟩, ⟨by kernel_rfl, by kernel_rfl⟩, ⟨by kernel_rfl, by kernel_rfl⟩, ⟨by kernel_rfl, by kernel_rfl⟩, ⟨by kernel_rfl, by kernel_rfl⟩, ⟨by kernel_rfl, by kernel_rfl⟩, ⟨by kernel_rfl, by kernel_rfl⟩, ⟨by kernel_rfl, by kernel_rfl⟩, ⟨by kernel_rfl, by kernel_rfl⟩, ⟨by kernel_rfl, by kernel_rfl⟩, ⟨by kernel_rfl, by kernel_rfl⟩, ⟨by kernel_rfl, by kernel_rfl⟩, ⟨by kernel_rfl, by kernel_rfl⟩, ⟨by kernel_rfl, by kernel_rfl⟩, ⟨by kernel_rfl, by kernel_rfl⟩, ⟨by kernel_rfl, by kernel_rfl⟩, ⟨by kernel_rfl, by kernel_rfl⟩, ⟨by kernel_rfl, by kernel_rfl⟩, ⟨by kernel_rfl, by kernel_rfl⟩, ⟨by kernel_rfl, by kernel_rfl⟩, ⟨by kernel_rfl, by kernel_rfl⟩, ⟨by kernel_rfl, by kernel_rfl⟩, ⟨by kernel_rfl, by kernel_rfl⟩, ⟨by kernel_rfl, by kernel_rfl⟩, ⟨⟨by kernel_rfl, by kernel_rfl, by kernel_rfl, by kernel_rfl, by kernel_rfl⟩, ⟨by kernel_rfl, by kernel_rfl, by kernel_rfl, by kernel_rfl, by kernel_rfl⟩, ⟨by kernel_rfl, by kernel_rfl, by kernel_rfl, by kernel_rfl, by kernel_rfl⟩, ⟨by kernel_rfl, by kernel_rfl, by kernel_rfl, by kernel_rfl, by kernel_rfl⟩, ⟨by kernel_rfl, by kernel_rfl, by kernel_rfl, by kernel_rfl, by kernel_rfl, by kernel_rfl, by kernel_rfl, by kernel_rfl, by kernel_rfl, by decide⟩, ⟨by kernel_rfl, by kernel_rfl, by kernel_rfl, by kernel_rfl, by kernel_rfl, by kernel_rfl, by kernel_rfl, by kernel_rfl, by kernel_rfl, by decide⟩, ⟨by kernel_rfl, by kernel_rfl, by kernel_rfl, by kernel_rfl, by kernel_rfl, by kernel_rfl, by kernel_rfl, by kernel_rfl, by kernel_rfl, by decide⟩⟩, ⟨by kernel_rfl, by kernel_rfl, by kernel_rfl, by kernel_rfl⟩, ⟨by kernel_rfl, by kernel_rfl, by kernel_rfl, by kernel_rfl⟩, ⟨by kernel_rfl, by kernel_rfl, by kernel_rfl⟩, ⟨by kernel_rfl, by kernel_rfl, by kernel_rfl⟩, ⟨by kernel_rfl, by kernel_rfl, by kernel_rfl⟩, ⟨by kernel_rfl, by kernel_rfl, by kernel_rfl⟩, ⟨by kernel_rfl, by kernel_rfl, by kernel_rfl⟩, ⟨by kernel_rfl, by kernel_rfl, by kernel_rfl, by kernel_rfl, by kernel_rfl, by kernel_rfl, by kernel_rfl⟩, ⟨by kernel_rfl, by kernel_rfl, by kernel_rfl⟩⟩ hlv (n := 0) (ns := ns) (Mine.ints_er hI) (by omega)) (fun v s' ⟨hv, ho, hk⟩ => ?_) fun _ _ q => q.elim
    subst hv
    exact ⟨.inl ⟨_, .bool true, [], rfl, fun _ => rfl, .bool true, by kernel_rfl, fun _ => ⟨List.nodup_nil, fun _ h => absurd h List.not_mem_nil⟩⟩, .of_keep hk, ho.2.2, .of_eq (ho.1.trans hg)⟩
theorem PySem.Challenge.cw_pd0199_01_holds : PySem.Challenge.rw_pd0199_01.Holds :=
  Mine.hda
