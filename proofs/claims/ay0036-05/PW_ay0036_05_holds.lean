import PyProof.Rows.All
import Wide.All
import OpenK.AllK
import Wide.FinOn
import Lean
import PySem.Challenge.RW_ay0036_05
set_option Elab.async false
set_option maxRecDepth 100000
set_option linter.all false
set_option genSizeOf false
set_option genInjectivity false
namespace Rw
open PySem PySem.W PySem.Calls PyProof.Rows
inductive B where
  | len | min | max | abs | range | list | isinstance
  deriving DecidableEq, Inhabited
set_option genInjectivity true in
inductive V where
  | none | bool (b : Bool) | int (i : Int) | str (n : Nat) | top (a : Nat) | bi (b : B) | obj (i : Nat) | scr
  deriving Inhabited
set_option genInjectivity true in
inductive O where
  | list (l : List V) | tup (l : List V) | inst (c : Nat) (f : List (Nat × V)) | dict (n : List Nat) (l : List V) | rng (a b c : Int)
  deriving Inhabited
structure Sg where
  vs : Nat → Option V
  os : List O
inductive Fl where
  | nxt | ret (v : V) | brk | cnt
inductive At where
  | no | fn (f : Nat)
  deriving DecidableEq
structure Prg where
  gl : Nat → Option V
  cal : Nat → Bool
  att : Nat → Nat → Option At
  init : Nat → Option Nat
  sup : Nat → Nat → Nat → Option Nat
  eqf : Nat → Option Nat
  tru : Nat → Bool
  isa : Nat → Nat → Bool
  itr : Nat → Option Nat
structure Cx where
  prog : Program
  nm : Nat → Str
  inj : ∀ x y, nm x = nm y → x = y
  P : Prg
  w : World
  K : Frag
  h0 : Heap
  txs : List Addr
  ax : Addr
  sc : List Int
noncomputable def lim : Nat := 1048576
noncomputable def upd (f : Nat → Option V) (x : Nat) (v : V) : Nat → Option V := fun y => if y = x then some v else f y
noncomputable def setF (f : List (Nat × V)) (n : Nat) (v : V) : List (Nat × V) :=
  match f with
  | [] => [(n, v)]
  | p :: l => if p.1 = n then (n, v) :: l else p :: setF l n v
noncomputable def bval : B → Value
  | .len => .builtin "len" | .min => .builtin "min" | .max => .builtin "max" | .abs => .builtin "abs"
  | .range => .type "range" | .list => .type "list" | .isinstance => .builtin "isinstance"
noncomputable def frA (fs : List Env) : List Addr := fs.filterMap (·.frame)
abbrev Rho := List (Addr × Addr)
noncomputable def CodeRc (h : Heap) (cv : Value) : Prop := ∃ c o vs q t, cv = .ref c ∧ h.get? c = some o ∧ o.cls = .type "code" ∧ o.data = .fields vs ∧ vs[1]? = some (.str q t)
noncomputable def TextAt (h : Heap) (a : Addr) : Prop := ∃ ps : Array Value, h.get? a = some { cls := .none, data := .fields ps } ∧ TriplesOk ps.toList ∧ ∀ pos cv, codeAmong pos ps.toList = some cv → CodeRc h cv
theorem CodeRc.but {h h' : Heap} {cv : Value} {d : Addr} (x : CodeRc h cv) (k : ∀ b o, b ≠ d → h.get? b = some o → h'.get? b = some o) (hd : ∀ o vs, h.get? d = some o → o.data = .fields vs → o.cls ≠ .type "code") : CodeRc h' cv :=
  let ⟨c, o, vs, q, t, e, h1, h2, h3, h4⟩ := x
  ⟨c, o, vs, q, t, e, k _ _ (fun e' => hd o vs (e' ▸ h1) h3 h2) h1, h2, h3, h4⟩
theorem TextAt.but {h h' : Heap} {a d : Addr} (x : TextAt h a) (k : ∀ b o, b ≠ d → h.get? b = some o → h'.get? b = some o) (ha : a ≠ d) (hd : ∀ o vs, h.get? d = some o → o.data = .fields vs → o.cls ≠ .type "code") : TextAt h' a :=
  let ⟨ps, h1, h2, h3⟩ := x
  ⟨ps, k _ _ ha h1, h2, fun pos cv e => (h3 pos cv e).but k hd⟩
theorem TextAt.keeps {h h' : Heap} {a : Addr} (x : TextAt h a) (k : ∀ b o, h.get? b = some o → h'.get? b = some o) : TextAt h' a :=
  let ⟨ps, h1, h2, h3⟩ := x
  ⟨ps, k _ _ h1, h2, fun pos cv e => let ⟨c, o, vs, q, t, e, g1, g2⟩ := h3 pos cv e; ⟨c, o, vs, q, t, e, k _ _ g1, g2⟩⟩
noncomputable def tame (o : Obj) : Prop := o.data ≠ .plain ∧ ∀ vs, o.data = .fields vs → o.cls ≠ .type "code"
theorem tame_of {o : Obj} (h : o.data ≠ .plain) (h2 : ∀ vs, o.data ≠ .fields vs) : tame o := ⟨h, fun vs e => absurd e (h2 vs)⟩
theorem tame_dict {o : Obj} {es : Array DictEntry} {k : Nat} (h : o.data = .dict es k) : tame o := tame_of (fun e => by rw [h] at e; cases e) (fun _ e => by rw [h] at e; cases e)
section
variable (c : Cx)
noncomputable def off (ρ : Rho) (a : Addr) : Prop := (∀ p ∈ ρ, p.2 ≠ a) ∧ a ∉ c.txs
noncomputable def VR (ρ : Rho) : V → Value → Prop
  | .none, x => x = .none
  | .bool b, x => x = .bool b
  | .int i, x => ∃ t, x = .int i t
  | .str n, x => ∃ t, x = .str (c.nm n) t
  | .top a, x => x = .ref a
  | .bi b, x => x = bval b
  | .obj i, x => ∃ p, ρ[i]? = some p ∧ x = .ref p.1
  | .scr, x => x = .ref c.ax
inductive VRs (ρ : Rho) : List V → List Value → Prop
  | nil : VRs ρ [] []
  | cons {v x l xs} : VR c ρ v x → VRs ρ l xs → VRs ρ (v :: l) (x :: xs)
inductive EntR (ρ : Rho) : List Nat → List V → List DictEntry → Prop
  | nil : EntR ρ [] [] []
  | cons {n v x t ns l es} : VR c ρ v x → EntR ρ ns l es → EntR ρ (n :: ns) (v :: l) (⟨PyData.keyHash c.w.params (c.nm n), .str (c.nm n) t, x⟩ :: es)
inductive KR (ρ : Rho) : List (Nat × V) → List (Str × Value) → Prop
  | nil : KR ρ [] []
  | cons {n v x l xs} : VR c ρ v x → KR ρ l xs → KR ρ ((n, v) :: l) ((c.nm n, x) :: xs)
noncomputable def tupO (its : Array Value) (k : Nat) : Obj := { cls := .type "tuple", data := .seq its k }
noncomputable def rngO (a b c : Int) (t u v : Tok) : Obj := { cls := .type "range", data := .fields #[.int a t, .int b u, .int c v] }
inductive OR (ρ : Rho) (h : Heap) : O → Addr × Addr → Prop
  | list {l a its k} : h.get? a = some (listOf its k) → VRs c ρ l its.toList → OR ρ h (.list l) (a, a)
  | tup {l a its k} : h.get? a = some (tupO its k) → VRs c ρ l its.toList → OR ρ h (.tup l) (a, a)
  | inst {cl f a d o es k} : h.get? a = some o → o.cls = .ref cl → o.dict = some d → o.data = .plain → off c ρ a → h.get? d = some (dictOf es k) → EntR c ρ (f.map (·.1)) (f.map (·.2)) es → OR ρ h (.inst cl f) (a, d)
  | dict {n l a es k} : h.get? a = some (dictOf es k) → EntR c ρ n l es → OR ρ h (.dict n l) (a, a)
  | rng {i j k a t u v} : h.get? a = some (rngO i j k t u v) → OR ρ h (.rng i j k) (a, a)
structure Le (W : List Addr) (fs : List Env) (ρ : Rho) (s : Shared) (ρ' : Rho) (s' : Shared) : Prop where
  pre : ∃ ext, ρ' = ρ ++ ext ∧ ∀ p ∈ ext, s.heap.objs.size ≤ p.1 ∧ s.heap.objs.size ≤ p.2
  sz : s.heap.objs.size ≤ s'.heap.objs.size
  keep : ∀ b o, s.heap.get? b = some o → off c ρ b → b ∉ W → b ∉ frA fs → s'.heap.get? b = some o
  frm : ∀ b o, s.heap.get? b = some o → off c ρ b → b ∉ W → ∃ sl, s'.heap.get? b = some { o with slots := sl }
  os : s'.os = s.os
  gl : ∀ g, g < s.gens.size → s'.gens[g]? = s.gens[g]?
  gsz : s.gens.size ≤ s'.gens.size
structure SR (fs : List Env) (ρ : Rho) (os : List O) (s : Shared) : Prop where
  len : ρ.length = os.length
  nd : (ρ.map (·.2)).Nodup
  nd1 : (ρ.map (·.1)).Nodup
  lo : ∀ p ∈ ρ, c.h0.objs.size ≤ p.2
  inn : ∀ p ∈ ρ, p.1 < s.heap.objs.size ∧ p.2 < s.heap.objs.size
  nfr : ∀ p ∈ ρ, p.2 ∉ frA fs
  ob : ∀ (i : Nat) o, os[i]? = some o → ∃ p, ρ[i]? = some p ∧ OR c ρ s.heap o p
  bare : AllBare s.gens
  old : ∀ b o, c.h0.get? b = some o → s.heap.get? b = some o
  osz : c.h0.objs.size ≤ s.heap.objs.size
  ff : ∀ env ∈ fs, env.scope.kind ≠ .module ∧ ∃ L o, env.frame = some L ∧ c.h0.objs.size ≤ L ∧ s.heap.get? L = some o ∧ ∃ es ep, o.data = .dict es ep
  tx : ∀ a ∈ c.txs, TextAt s.heap a
  txz : ∀ a ∈ c.txs, a < c.h0.objs.size
end
structure Qu (s s' : Shared) : Prop where
  sz : s.heap.objs.size ≤ s'.heap.objs.size
  keep : ∀ b o, s.heap.get? b = some o → s'.heap.get? b = some o
  os : s'.os = s.os
  gens : s'.gens = s.gens
structure Up (d : Addr) (s s' : Shared) : Prop where
  sz : s.heap.objs.size ≤ s'.heap.objs.size
  keep : ∀ b o, b ≠ d → s.heap.get? b = some o → s'.heap.get? b = some o
  os : s'.os = s.os
  gens : s'.gens = s.gens
theorem Qu.refl {s : Shared} : Qu s s := ⟨Nat.le_refl _, fun _ _ h => h, rfl, rfl⟩
theorem Qu.tok {s : Shared} {t : Nat} : Qu s { s with toks := t } := ⟨Nat.le_refl _, fun _ _ h => h, rfl, rfl⟩
theorem Qu.push {s : Shared} {o : Obj} {t : Nat} : Qu s { s with heap := s.heap.push o, toks := t } := ⟨Nat.le_of_lt (by rw [Heap.size_push]; exact Nat.lt_succ_self _), fun _ _ h => Heap.get?_push_of_some _ h, rfl, rfl⟩
theorem Qu.trans {s s' s'' : Shared} (a : Qu s s') (b : Qu s' s'') : Qu s s'' := ⟨Nat.le_trans a.sz b.sz, fun x o h => b.keep x o (a.keep x o h), b.os.trans a.os, b.gens.trans a.gens⟩
theorem Up.pre {d : Addr} {s s' s'' : Shared} (a : Qu s s') (b : Up d s' s'') : Up d s s'' := ⟨Nat.le_trans a.sz b.sz, fun x o hx h => b.keep x o hx (a.keep x o h), b.os.trans a.os, b.gens.trans a.gens⟩
theorem up_of {s : Shared} {D : Addr} {h' : Heap} {t : Nat} (hs : Heap.SameBut D s.heap h') : Up D s { s with heap := h', toks := t } :=
  ⟨Nat.le_of_eq hs.1.symm, fun b o hb e => (hs.2 b hb).trans e, rfl, rfl⟩
section
variable {c : Cx} {W : List Addr} {fs : List Env} {ρ ρ' ρ'' ext : Rho} {s s' s'' : Shared} {os : List O}
theorem rho_pre {i : Nat} {p : Addr × Addr} (h : ρ[i]? = some p) : (ρ ++ ext)[i]? = some p := by
  rw [List.getElem?_append_left (List.getElem?_eq_some_iff.mp h).1]; exact h
theorem VR.pre {v : V} {x : Value} (h : VR c ρ v x) : VR c (ρ ++ ext) v x := by
  cases v with
  | obj i => exact let ⟨p, e, q⟩ := h; ⟨p, rho_pre e, q⟩
  | _ => exact h
theorem VRs.pre {v : List V} {x : List Value} (h : VRs c ρ v x) : VRs c (ρ ++ ext) v x := by
  induction h with
  | nil => exact .nil
  | cons a _ ih => exact .cons a.pre ih
theorem EntR.pre {n : List Nat} {l : List V} {es : List DictEntry} (h : EntR c ρ n l es) : EntR c (ρ ++ ext) n l es := by
  induction h with
  | nil => exact .nil
  | cons a _ ih => exact .cons a.pre ih
theorem KR.pre {v : List (Nat × V)} {x : List (Str × Value)} (h : KR c ρ v x) : KR c (ρ ++ ext) v x := by
  induction h with
  | nil => exact .nil
  | cons a _ ih => exact .cons a.pre ih
theorem Le.vr (a : Le c W fs ρ s ρ' s') {v : V} {x : Value} (h : VR c ρ v x) : VR c ρ' v x := by obtain ⟨e, rfl, _⟩ := a.pre; exact h.pre
theorem Le.vrs (a : Le c W fs ρ s ρ' s') {v : List V} {x : List Value} (h : VRs c ρ v x) : VRs c ρ' v x := by obtain ⟨e, rfl, _⟩ := a.pre; exact h.pre
theorem Le.kr (a : Le c W fs ρ s ρ' s') {v : List (Nat × V)} {x : List (Str × Value)} (h : KR c ρ v x) : KR c ρ' v x := by obtain ⟨e, rfl, _⟩ := a.pre; exact h.pre
theorem off_mono {h : Heap} {a : Addr} (hf : off c ρ a) (he : ∀ p ∈ ext, h.objs.size ≤ p.1 ∧ h.objs.size ≤ p.2) (ho : a < h.objs.size) : off c (ρ ++ ext) a :=
  ⟨fun p hp => (List.mem_append.mp hp).elim (hf.1 p) fun hp e => absurd ho (Nat.not_lt.mpr (e ▸ (he p hp).2)), hf.2⟩
theorem off_le (a : Le c W fs ρ s ρ' s') {b : Addr} (hb : off c ρ b) (hl : b < s.heap.objs.size) : off c ρ' b := by obtain ⟨e, rfl, h1⟩ := a.pre; exact off_mono hb h1 hl
theorem mem2 {i : Nat} {p : Addr × Addr} (h : ρ[i]? = some p) : p ∈ ρ := List.mem_of_getElem? h
theorem Le.refl : Le c W fs ρ s ρ s := ⟨⟨[], (List.append_nil ρ).symm, fun _ h => nomatch h⟩, Nat.le_refl _, fun _ _ h _ _ _ => h, fun _ o h _ _ => ⟨o.slots, h⟩, rfl, fun _ _ => rfl, Nat.le_refl _⟩
theorem Le.trans (a : Le c W fs ρ s ρ' s') (b : Le c W fs ρ' s' ρ'' s'') : Le c W fs ρ s ρ'' s'' := by
  obtain ⟨e1, rfl, h1⟩ := a.pre
  obtain ⟨e2, rfl, h2⟩ := b.pre
  refine ⟨⟨e1 ++ e2, List.append_assoc .., fun p hp => (List.mem_append.mp hp).elim (h1 p) fun hp => ⟨Nat.le_trans a.sz (h2 p hp).1, Nat.le_trans a.sz (h2 p hp).2⟩⟩, Nat.le_trans a.sz b.sz,
    fun x o hx hf hw hn => b.keep x o (a.keep x o hx hf hw hn) (off_mono hf h1 (Heap.lt_size hx)) hw hn, fun x o hx hf hw => ?_, b.os.trans a.os, fun g hg => (b.gl g (Nat.lt_of_lt_of_le hg a.gsz)).trans (a.gl g hg), Nat.le_trans a.gsz b.gsz⟩
  obtain ⟨sl, q⟩ := a.frm x o hx hf hw
  obtain ⟨sl', q'⟩ := b.frm x _ q (off_mono hf h1 (Heap.lt_size hx)) hw
  exact ⟨sl', q'⟩
theorem Le.weaken (a : Le c [] fs ρ s ρ' s') : Le c W fs ρ s ρ' s' :=
  ⟨a.pre, a.sz, fun b o hb hf _ hn => a.keep b o hb hf (List.not_mem_nil) hn, fun b o hb hf _ => a.frm b o hb hf List.not_mem_nil, a.os, a.gl, a.gsz⟩
theorem Le.fresh (a : Le c [] fs ρ s ρ' s') (b : Le c W fs ρ' s' ρ'' s'') (hw : ∀ x ∈ W, s.heap.objs.size ≤ x) : Le c [] fs ρ s ρ'' s'' := by
  have d := (a.weaken (W := W)).trans b
  have hn : ∀ x o, s.heap.get? x = some o → x ∉ W := fun x o hx hm => absurd (Heap.lt_size hx) (Nat.not_lt.mpr (hw x hm))
  exact ⟨d.pre, d.sz, fun x o hx hf _ hn' => d.keep x o hx hf (hn x o hx) hn', fun x o hx hf _ => d.frm x o hx hf (hn x o hx), d.os, d.gl, d.gsz⟩
theorem Qu.le (a : Qu s s') : Le c W fs ρ s ρ s' :=
  ⟨⟨[], (List.append_nil ρ).symm, fun _ h => nomatch h⟩, a.sz, fun b o h _ _ _ => a.keep b o h, fun b o h _ _ => ⟨o.slots, a.keep b o h⟩, a.os, fun _ _ => by rw [a.gens], Nat.le_of_eq (by rw [a.gens])⟩
theorem Up.leW {d : Addr} (u : Up d s s') : Le c [d] fs ρ s ρ s' :=
  ⟨⟨[], (List.append_nil ρ).symm, fun _ h => nomatch h⟩, u.sz, fun b o h _ hw _ => u.keep b o (fun e => hw (e ▸ .head _)) h, fun b o h _ hw => ⟨o.slots, u.keep b o (fun e => hw (e ▸ .head _)) h⟩, u.os, fun _ _ => by rw [u.gens], Nat.le_of_eq (by rw [u.gens])⟩
theorem Up.le {p : Addr × Addr} (u : Up p.2 s s') (hp : p ∈ ρ) : Le c W fs ρ s ρ s' :=
  ⟨⟨[], (List.append_nil ρ).symm, fun _ h => nomatch h⟩, u.sz, fun b o h ho _ _ => u.keep b o (fun e => ho.1 p hp e.symm) h, fun b o h ho _ => ⟨o.slots, u.keep b o (fun e => ho.1 p hp e.symm) h⟩, u.os, fun _ _ => by rw [u.gens], Nat.le_of_eq (by rw [u.gens])⟩
theorem OR.move {h h' : Heap} {o : O} {p : Addr × Addr} (k1 : ∀ o, h.get? p.2 = some o → h'.get? p.2 = some o) (k2 : ∀ o, o.data = .plain → h.get? p.1 = some o → h'.get? p.1 = some o)
    (he : ∀ q ∈ ext, h.objs.size ≤ q.1 ∧ h.objs.size ≤ q.2) (r : OR c ρ h o p) : OR c (ρ ++ ext) h' o p := by
  cases r with
  | list a b => exact .list (k1 _ a) b.pre
  | tup a b => exact .tup (k1 _ a) b.pre
  | inst a b d e f g i => exact .inst (k2 _ e a) b d e (off_mono f he (Heap.lt_size a)) (k1 _ g) i.pre
  | dict a b => exact .dict (k1 _ a) b.pre
  | rng a => exact .rng (k1 _ a)
theorem OR.tame {h : Heap} {o : O} {p : Addr × Addr} (r : OR c ρ h o p) : ∃ x, h.get? p.2 = some x ∧ tame x := by
  cases r with
  | list a b => exact ⟨_, a, tame_of (fun e => nomatch e) fun _ e => nomatch e⟩
  | tup a b => exact ⟨_, a, tame_of (fun e => nomatch e) fun _ e => nomatch e⟩
  | inst a b d e f g i => exact ⟨_, g, tame_of (fun e => nomatch e) fun _ e => nomatch e⟩
  | dict a b => exact ⟨_, a, tame_of (fun e => nomatch e) fun _ e => nomatch e⟩
  | rng a => exact ⟨_, a, (fun e => nomatch e), fun _ _ e => absurd (Value.type.inj e) (by decide)⟩
theorem nl : ∀ q ∈ ([] : Rho), s.heap.objs.size ≤ q.1 ∧ s.heap.objs.size ≤ q.2 := fun _ h => nomatch h
theorem OR.move0 {h h' : Heap} {o : O} {p : Addr × Addr} (k1 : ∀ o, h.get? p.2 = some o → h'.get? p.2 = some o) (k2 : ∀ o, o.data = .plain → h.get? p.1 = some o → h'.get? p.1 = some o) (r : OR c ρ h o p) : OR c ρ h' o p := by
  have := r.move (ext := []) k1 k2 (fun _ h => nomatch h)
  rwa [List.append_nil] at this
theorem SR.upd (sr : SR c fs ρ os s) {d : Addr} {o : Obj} {os' : List O} (u : Up d s s') (hd : s.heap.get? d = some o) (ht : tame o) (hh : c.h0.objs.size ≤ d) (hf : d ∈ frA fs → ∃ o', s'.heap.get? d = some o' ∧ ∃ es k, o'.data = .dict es k)
    (hl : os'.length = os.length) (ho : ∀ (i : Nat) o, os'[i]? = some o → os[i]? = some o ∧ (∀ p, ρ[i]? = some p → p.2 ≠ d) ∨ ∃ p, ρ[i]? = some p ∧ OR c ρ s'.heap o p) : SR c fs ρ os' s' := by
  refine ⟨sr.len.trans hl.symm, sr.nd, sr.nd1, sr.lo, fun q hq => ⟨Nat.lt_of_lt_of_le (sr.inn q hq).1 u.sz, Nat.lt_of_lt_of_le (sr.inn q hq).2 u.sz⟩, sr.nfr, fun i o' hi => ?_, by rw [u.gens]; exact sr.bare, fun b o' hb => u.keep b o' (fun e => absurd (Heap.lt_size hb) (Nat.not_lt.mpr (e ▸ hh))) (sr.old b o' hb),
    Nat.le_trans sr.osz u.sz, fun env he => ?_, fun b hb => (sr.tx b hb).but u.keep (fun e => absurd (sr.txz _ hb) (Nat.not_lt.mpr (e ▸ hh))) (fun o2 vs h1 h2 => by rw [hd] at h1; cases h1; exact ht.2 vs h2), sr.txz⟩
  · rcases ho i o' hi with ⟨hi, hn⟩ | r
    · obtain ⟨q, hq, hr⟩ := sr.ob i o' hi
      exact ⟨q, hq, hr.move0 (fun x => u.keep _ _ (hn q hq)) (fun x hx e => u.keep _ _ (fun e' => by rw [e', hd] at e; cases e; exact ht.1 hx) e)⟩
    · exact r
  · obtain ⟨kk, L, o', f, l, e, d'⟩ := sr.ff env he
    by_cases q : L = d
    · subst q
      obtain ⟨o2, h2, h3⟩ := hf (List.mem_filterMap.mpr ⟨env, he, f⟩)
      exact ⟨kk, L, o2, f, l, h2, h3⟩
    · exact ⟨kk, L, o', f, l, u.keep _ _ q e, d'⟩
theorem SR.qu (sr : SR c fs ρ os s) (a : Qu s s') : SR c fs ρ os s' :=
  ⟨sr.len, sr.nd, sr.nd1, sr.lo, fun p hp => ⟨Nat.lt_of_lt_of_le (sr.inn p hp).1 a.sz, Nat.lt_of_lt_of_le (sr.inn p hp).2 a.sz⟩, sr.nfr, fun i o hi => let ⟨p, q, r⟩ := sr.ob i o hi; ⟨p, q, r.move0 (fun _ => a.keep _ _) fun _ _ => a.keep _ _⟩, by rw [a.gens]; exact sr.bare,
    fun b o e => a.keep b o (sr.old b o e), Nat.le_trans sr.osz a.sz, fun env he => let ⟨k, L, o, f, l, e, d⟩ := sr.ff env he; ⟨k, L, o, f, l, a.keep _ _ e, d⟩, fun b hb => (sr.tx b hb).keeps a.keep, sr.txz⟩
theorem nd_ne (sr : SR c fs ρ os s) {i j : Nat} {p q : Addr × Addr} (hi : ρ[i]? = some p) (hj : ρ[j]? = some q) (hn : i ≠ j) : q.2 ≠ p.2 := by
  intro e
  have h1 : (ρ.map (·.2))[i]? = some p.2 := by rw [List.getElem?_map, hi]; rfl
  have h2 : (ρ.map (·.2))[j]? = some p.2 := by rw [List.getElem?_map, hj, ← e]; rfl
  obtain ⟨l1, e1⟩ := List.getElem?_eq_some_iff.mp h1
  obtain ⟨l2, e2⟩ := List.getElem?_eq_some_iff.mp h2
  exact hn ((List.getElem_inj sr.nd).mp (e1.trans e2.symm))
theorem SR.set (sr : SR c fs ρ os s) {i : Nat} {p : Addr × Addr} {o o' : O} (ho : os[i]? = some o) (hp : ρ[i]? = some p) (u : Up p.2 s s') (r : OR c ρ s'.heap o' p) : SR c fs ρ (os.set i o') s' := by
  obtain ⟨q, hq, hr⟩ := sr.ob i o ho
  rw [hp] at hq; cases hq
  obtain ⟨x, hx, ht⟩ := hr.tame
  refine sr.upd u hx ht (sr.lo _ (mem2 hp)) (fun hf => absurd hf (sr.nfr _ (mem2 hp))) List.length_set fun j oj hj => ?_
  rw [List.getElem?_set] at hj
  split at hj
  · rename_i e
    subst e
    split at hj <;> cases hj
    exact .inr ⟨p, hp, r⟩
  · rename_i e
    exact .inl ⟨hj, fun q hq => nd_ne sr hp hq e⟩
theorem SR.add (sr : SR c fs ρ os s) {p : Addr × Addr} {o : O} (u : Qu s s') (h1 : s.heap.objs.size ≤ p.1 ∧ s.heap.objs.size ≤ p.2) (h2 : p.1 < s'.heap.objs.size ∧ p.2 < s'.heap.objs.size) (r : OR c (ρ ++ [p]) s'.heap o p) :
    SR c fs (ρ ++ [p]) (os ++ [o]) s' ∧ Le c W fs ρ s (ρ ++ [p]) s' := by
  have e1 : ∀ q ∈ [p], s.heap.objs.size ≤ q.1 ∧ s.heap.objs.size ≤ q.2 := fun q hq => List.mem_singleton.mp hq ▸ h1
  have sr' := sr.qu u
  refine ⟨⟨by rw [List.length_append, List.length_append, sr.len]; rfl, ?_, ?_, fun q hq => (List.mem_append.mp hq).elim (sr.lo q) fun hq => List.mem_singleton.mp hq ▸ Nat.le_trans sr.osz h1.2, fun q hq => (List.mem_append.mp hq).elim (sr'.inn q) fun hq => List.mem_singleton.mp hq ▸ h2,
    fun q hq => (List.mem_append.mp hq).elim (sr.nfr q) fun hq hf => ?_, fun i o' hi => ?_, sr'.bare, sr'.old, sr'.osz, sr'.ff, sr'.tx, sr'.txz⟩,
    ⟨⟨[p], rfl, e1⟩, u.sz, fun b o h _ _ _ => u.keep b o h, fun b o h _ _ => ⟨o.slots, u.keep b o h⟩, u.os, fun _ _ => by rw [u.gens], Nat.le_of_eq (by rw [u.gens])⟩⟩
  · rw [List.map_append, List.nodup_append]
    refine ⟨sr.nd, List.nodup_cons.mpr ⟨List.not_mem_nil, List.nodup_nil⟩, fun a ha b hb e => ?_⟩
    obtain ⟨q, hq, rfl⟩ := List.mem_map.mp ha
    cases List.mem_singleton.mp hb
    exact absurd (sr.inn q hq).2 (e ▸ Nat.not_lt.mpr h1.2)
  · rw [List.map_append, List.nodup_append]
    refine ⟨sr.nd1, List.nodup_cons.mpr ⟨List.not_mem_nil, List.nodup_nil⟩, fun a ha b hb e => ?_⟩
    obtain ⟨q, hq, rfl⟩ := List.mem_map.mp ha
    cases List.mem_singleton.mp hb
    exact absurd (sr.inn q hq).1 (e ▸ Nat.not_lt.mpr h1.1)
  · cases List.mem_singleton.mp hq
    obtain ⟨env, he, hf⟩ := List.mem_filterMap.mp hf
    obtain ⟨_, L, o, f, _, e, _⟩ := sr.ff env he
    rw [f] at hf; cases hf
    exact absurd (Heap.lt_size e) (Nat.not_lt.mpr h1.2)
  · rcases Nat.lt_trichotomy i os.length with hl | hl | hl
    · rw [List.getElem?_append_left hl] at hi
      obtain ⟨q, hq, hr⟩ := sr.ob i o' hi
      exact ⟨q, rho_pre hq, hr.move (fun _ => u.keep _ _) (fun _ _ => u.keep _ _) e1⟩
    · subst hl
      rw [List.getElem?_concat_length] at hi
      cases hi
      exact ⟨p, by rw [← sr.len, List.getElem?_concat_length], r⟩
    · rw [List.getElem?_eq_none (by rw [List.length_append]; exact hl)] at hi
      cases hi
theorem SR.off_top (sr : SR c fs ρ os s) {n : Nat} (h : s.heap.objs.size ≤ n) : off c ρ n :=
  ⟨fun p hp e => absurd (sr.inn p hp).2 (Nat.not_lt.mpr (e ▸ h)), fun hm => absurd (Nat.lt_of_lt_of_le (sr.txz n hm) sr.osz) (Nat.not_lt.mpr h)⟩
theorem VRs.len {l : List V} {xs : List Value} (h : VRs c ρ l xs) : l.length = xs.length := by
  induction h with
  | nil => rfl
  | cons _ _ ih => exact congrArg (· + 1) ih
theorem VRs.get {l : List V} {xs : List Value} (h : VRs c ρ l xs) : ∀ {i : Nat} {v : V}, l[i]? = some v → ∃ x, xs[i]? = some x ∧ VR c ρ v x := by
  induction h with
  | nil => exact fun e => nomatch e
  | cons a _ ih => exact fun {i} {v} e => match i, e with
    | 0, e => ⟨_, rfl, Option.some.inj e ▸ a⟩
    | i + 1, e => ih (i := i) e
theorem VRs.append {l m : List V} {xs ys : List Value} (h : VRs c ρ l xs) (k : VRs c ρ m ys) : VRs c ρ (l ++ m) (xs ++ ys) := by
  induction h with
  | nil => exact k
  | cons a _ ih => exact .cons a ih
theorem EntR.len {n : List Nat} {v : List V} {es : List DictEntry} (e : EntR c ρ n v es) : es.length = n.length := by
  induction e with
  | nil => rfl
  | cons _ _ ih => exact congrArg (· + 1) ih
theorem EntR.norefs {n : List Nat} {v : List V} {es : List DictEntry} (e : EntR c ρ n v es) : es.any (·.refKey) = false := by
  induction e with
  | nil => rfl
  | cons _ _ ih => exact ih
theorem is_str {n m : Nat} {t : Tok} : (Value.str (c.nm n) t).isStr (c.nm m) = (n == m) := by
  show (c.nm n == c.nm m) = (n == m)
  by_cases e : n = m
  · rw [e, beq_self_eq_true, beq_self_eq_true]
  · rw [beq_eq_false_iff_ne.mpr fun q => e (c.inj _ _ q), beq_eq_false_iff_ne.mpr e]
theorem EntR.look : ∀ {f : List (Nat × V)} {es : List DictEntry}, EntR c ρ (f.map (·.1)) (f.map (·.2)) es → ∀ n,
    (∀ v, f.lookup n = some v → ∃ x, getL (c.nm n) es = some (some x) ∧ VR c ρ v x) ∧ (f.lookup n = none → getL (c.nm n) es = some none)
  | [], _, .nil, n => ⟨fun v h => (nomatch h), fun _ => rfl⟩
  | (m, v) :: f, _, .cons (x := x) (es := es) a b, n => by
    have ih := EntR.look (f := f) b n
    unfold getL
    rw [List.find?_cons, List.lookup_cons]
    dsimp only
    rw [is_str]
    by_cases q : m = n
    · subst q
      rw [beq_self_eq_true]
      exact ⟨fun v' h => ⟨x, rfl, Option.some.inj h ▸ a⟩, fun h => (nomatch h)⟩
    · rw [beq_eq_false_iff_ne.mpr q, beq_eq_false_iff_ne.mpr (Ne.symm q)]
      exact ih
theorem EntR.put {n : Nat} {v : V} {x : Value} {t : Tok} (r : VR c ρ v x) : ∀ {f : List (Nat × V)} {es : List DictEntry}, EntR c ρ (f.map (·.1)) (f.map (·.2)) es →
    EntR c ρ ((setF f n v).map (·.1)) ((setF f n v).map (·.2)) (putL (c.nm n) (PyData.keyHash c.w.params (c.nm n)) (.str (c.nm n) t) x es)
  | [], _, .nil => .cons r .nil
  | (m, u) :: f, _, .cons a b => by
    have ih := EntR.put (n := n) (t := t) r (f := f) b
    unfold setF putL
    dsimp only
    rw [is_str]
    by_cases q : m = n
    · subst q
      rw [beq_self_eq_true, if_pos rfl]
      exact .cons r b
    · rw [beq_eq_false_iff_ne.mpr q, if_neg q]
      exact .cons a ih
end
end Rw
namespace Rw
open PySem PySem.W PySem.Calls PyProof.Rows
noncomputable def ownW (env : Env) : List Addr := env.locals :: (env.cells.filter fun p => env.func.isSome && env.kindOf p.1 == some .cell).map (·.2)
noncomputable def ownA (env : Env) : List Addr := env.locals :: env.cells.map (·.2)
theorem own_sub {env : Env} {b : Addr} (h : b ∈ ownW env) : b ∈ ownA env := by
  rcases List.mem_cons.mp h with rfl | h
  · exact .head _
  · obtain ⟨p, hp, rfl⟩ := List.mem_map.mp h
    exact .tail _ (List.mem_map_of_mem (List.mem_filter.mp hp).1)
noncomputable def Lc (env : Env) (x : Str) : Prop := env.kindOf x = some .local ∨ (env.kindOf x = some .cell ∧ env.func.isSome = true)
structure EnvOk (sc : Scope) (env : Env) : Prop where
  gl : env.globals = mainGlobals
  bu : env.builtins = builtinsNs
  kd : env.scope.kind = .function
  g1 : ∀ x, sc.names.lookup x = some .globalImplicit → env.kindOf x = some .globalImplicit
  l1 : ∀ x, sc.names.lookup x = some .local → env.kindOf x = some .local
  c1 : ∀ x, sc.names.lookup x = some .cell → env.kindOf x = some .cell
  fu : ∀ x, sc.names.lookup x = some .cell → env.func.isSome = true
  f1 : ∀ x, sc.names.lookup x = some .free → env.kindOf x = some .free ∨ env.kindOf x = some .cell
structure Ctx (A : Around) (fs : List Env) (n : Nat) : Prop where
  hd : A.handled = none
  dp : A.depth + 2 * n + 10 < recursionLimit
  un : A.units + 40 * n + 100 < cLine
  fr : A.frames = some fs
noncomputable def CodeAt (txs : List Addr) (h : Heap) (cd : Value) : Prop := ∃ c P o vs file tf flags tg inF text tt, cd = .ref c ∧ h.get? c = some o ∧ o.cls = .type "code" ∧ o.data = .fields vs ∧ vs.getD 11 .none = .ref P ∧ vs.getD 18 .none = .str file tf ∧
  vs.getD 7 .none = .int flags tg ∧ vs.getD 9 .none = .bool inF ∧ vs.getD 10 .none = .int text tt ∧ P ∈ txs ∧ c ≠ P
section
variable (c : Cx)
structure FR (env : Env) (vs : Nat → Option V) (ρ : Rho) (s : Shared) : Prop where
  ns : ∃ m, s.heap.Ns env.locals m ∧ ∀ x v, vs x = some v → env.kindOf (c.nm x) = some .local → ∃ y, m (c.nm x) = some y ∧ VR c ρ v y
  cel : ∀ x v, vs x = some v → env.kindOf (c.nm x) = some .cell ∨ env.kindOf (c.nm x) = some .free → ∃ a y, env.cells.lookup (c.nm x) = some a ∧ s.heap.IsCell a (some y) ∧ VR c ρ v y
  all : ∀ n, env.kindOf n = some .cell ∨ env.kindOf n = some .free → ∃ a, env.cells.lookup n = some a
  cl : ∀ p ∈ env.cells, ∃ y, s.heap.IsCell p.2 y
  inj : ∀ n m a, env.cells.lookup n = some a → env.cells.lookup m = some a → n = m
  lc : ∀ n a, env.cells.lookup n = some a → a ≠ env.locals
  nof : ∀ b ∈ ownA env, off c ρ b ∧ b < s.heap.objs.size
structure Pre (fs : List Env) (env : Env) (σ : Sg) (ρ : Rho) (s : Shared) : Prop where
  sr : SR c fs ρ σ.os s
  fr : FR c env σ.vs ρ s
  nf : ∀ a ∈ frA fs, c.h0.objs.size ≤ a
structure AftW (W : List Addr) (fs : List Env) (env : Env) (ρ : Rho) (s : Shared) (σ' : Sg) (ρ' : Rho) (s' : Shared) : Prop where
  le : Le c W fs ρ s ρ' s'
  sr : SR c fs ρ' σ'.os s'
  fr : FR c env σ'.vs ρ' s'
abbrev Aft := AftW c []
abbrev AftS (fs : List Env) (env : Env) := AftW c (ownW env) fs env
structure FrSt (env : Env) : Prop where
  lo : ∀ b ∈ ownW env, c.h0.objs.size ≤ b
  md : env.scope.kind = .function
structure FrOk (fs : List Env) (env : Env) : Prop extends FrSt c env where
  co : CodeAt c.txs c.h0 env.code
  fe : ∃ outer, fs = env :: outer
  fL : env.frame = some env.locals
end
section
variable {c : Cx} {W : List Addr} {fs : List Env} {env : Env} {ρ ρ' ρ'' : Rho} {s s' s'' : Shared} {σ σ' σ'' : Sg} {vs : Nat → Option V} {A : Around} {n : Nat} {E : Value → Shared → Prop} {sc : Scope}
theorem Ns_of_data {h h' : Heap} {L : Addr} {m : Str → Option Value} (n : h.Ns L m) (k : ∀ o, h.get? L = some o → ∃ sl, h'.get? L = some { o with slots := sl }) : h'.Ns L m :=
  let ⟨o, es, ep, h1, h2, h3, h4⟩ := n; let ⟨_, q⟩ := k o h1; ⟨_, es, ep, q, h2, h3, h4⟩
theorem IsCell_of_data {h h' : Heap} {a : Addr} {v : Option Value} (n : h.IsCell a v) (k : ∀ o, h.get? a = some o → ∃ sl, h'.get? a = some { o with slots := sl }) : h'.IsCell a v :=
  let ⟨o, h1, h2⟩ := n; let ⟨_, q⟩ := k o h1; ⟨_, q, h2⟩
theorem cell_own {x : Str} {a : Addr} (e : env.cells.lookup x = some a) : a ∈ ownA env := by
  obtain ⟨l1, l2, e1, _⟩ := List.lookup_eq_some_iff.mp e
  exact .tail _ (by rw [e1, List.map_append]; exact List.mem_append_right _ (.head _))
theorem FR.monoW (F : FR c env vs ρ s) (a : Le c W fs ρ s ρ' s') (hW : ∀ b ∈ ownA env, b ∉ W) : FR c env vs ρ' s' := by
  have k : ∀ b ∈ ownA env, ∀ o, s.heap.get? b = some o → ∃ sl, s'.heap.get? b = some { o with slots := sl } := fun b hb o e => a.frm b o e (F.nof b hb).1 (hW b hb)
  refine ⟨?_, fun x v hx hk => ?_, F.all, fun p hp => ?_, F.inj, F.lc, fun b hb => ⟨off_le a (F.nof b hb).1 (F.nof b hb).2, Nat.lt_of_lt_of_le (F.nof b hb).2 a.sz⟩⟩
  · obtain ⟨m, hm, hv⟩ := F.ns
    exact ⟨m, Ns_of_data hm (k _ (.head _)), fun x v hx hk => let ⟨y, e, r⟩ := hv x v hx hk; ⟨y, e, a.vr r⟩⟩
  · obtain ⟨b, y, e, hc, r⟩ := F.cel x v hx hk
    exact ⟨b, y, e, IsCell_of_data hc (k _ (cell_own e)), a.vr r⟩
  · obtain ⟨y, hc⟩ := F.cl p hp
    exact ⟨y, IsCell_of_data hc (k _ (.tail _ (List.mem_map_of_mem hp)))⟩
theorem FR.mono (F : FR c env vs ρ s) (a : Le c [] fs ρ s ρ' s') : FR c env vs ρ' s' := F.monoW a fun _ _ => List.not_mem_nil
theorem FR.qu (F : FR c env vs ρ s) (a : Qu s s') : FR c env vs ρ s' := F.mono (fs := []) a.le
theorem AftW.trans (a : AftW c W fs env ρ s σ' ρ' s') (b : AftW c W fs env ρ' s' σ'' ρ'' s'') : AftW c W fs env ρ s σ'' ρ'' s'' := ⟨a.le.trans b.le, b.sr, b.fr⟩
theorem AftW.toS (a : Aft c fs env ρ s σ' ρ' s') : AftW c W fs env ρ s σ' ρ' s' := ⟨a.le.weaken, a.sr, a.fr⟩
theorem AftW.qu (a : AftW c W fs env ρ s σ' ρ' s') (u : Qu s' s'') : AftW c W fs env ρ s σ' ρ' s'' := ⟨a.le.trans u.le, a.sr.qu u, a.fr.qu u⟩
theorem Pre.next (p : Pre c fs env σ ρ s) (a : AftW c W fs env ρ s σ' ρ' s') : Pre c fs env σ' ρ' s' := ⟨a.sr, a.fr, p.nf⟩
theorem Pre.qu (p : Pre c fs env σ ρ s) (a : Qu s s') : Pre c fs env σ ρ s' := ⟨p.sr.qu a, p.fr.qu a, p.nf⟩
theorem Pre.aft (p : Pre c fs env σ ρ s) (a : Qu s s') : AftW c W fs env ρ s σ ρ s' := ⟨a.le, p.sr.qu a, p.fr.qu a⟩
theorem Pre.aft0 (p : Pre c fs env σ ρ s) : AftW c W fs env ρ s σ ρ s := ⟨.refl, p.sr, p.fr⟩
theorem Pre.set (p : Pre c fs env σ ρ s) {os : List O} (le : Le c [] fs ρ s ρ' s') (sr : SR c fs ρ' os s') : Aft c fs env ρ s ⟨σ.vs, os⟩ ρ' s' := ⟨le, sr, p.fr.mono le⟩
theorem Ctx.mono {m : Nat} (x : Ctx A fs n) (h : m ≤ n) : Ctx A fs m := ⟨x.hd, Nat.lt_of_le_of_lt (by omega) x.dp, Nat.lt_of_le_of_lt (by omega) x.un, x.fr⟩
theorem Ctx.down (x : Ctx A fs (n + 1)) : Ctx A fs n := x.mono (Nat.le_succ n)
theorem Ctx.in1 (x : Ctx A fs (n + 1)) : Ctx A.in1 fs n := ⟨x.hd, by have := x.dp; show A.depth + _ + _ < _; omega, by have := x.un; show A.units + 1 + _ + _ < _; omega, x.fr⟩
theorem Ctx.hu (x : Ctx A fs n) : A.units + 64 < cLine := Nat.lt_of_le_of_lt (by omega) x.un
theorem own_step (p : Pre c fs env σ ρ s) {d : Addr} {vs' : Nat → Option V} (hd : d ∈ ownW env) (F : FrSt c env) (u : Up d s s') (hf : d ∈ frA fs → ∃ o', s'.heap.get? d = some o' ∧ ∃ es k, o'.data = .dict es k)
    (fr : FR c env vs' ρ s') : AftS c fs env ρ s ⟨vs', σ.os⟩ ρ s' := by
  have ha := own_sub hd
  obtain ⟨o, ho, hn⟩ : ∃ o, s.heap.get? d = some o ∧ tame o := by
    rcases List.mem_cons.mp ha with rfl | hb
    · obtain ⟨m, ⟨o', es, ep, h1, h2, _⟩, _⟩ := p.fr.ns
      exact ⟨_, h1, tame_dict h2⟩
    · obtain ⟨q, hq, rfl⟩ := List.mem_map.mp hb
      obtain ⟨y, o', h1, h2⟩ := p.fr.cl q hq
      exact ⟨_, h1, tame_of (fun e => by rw [h2] at e; cases e) (fun vs e => by rw [h2] at e; cases e)⟩
  have of := (p.fr.nof _ ha).1
  have l := u.leW (c := c) (fs := fs) (ρ := ρ)
  exact ⟨⟨l.pre, l.sz, fun b o hb hf hw hn => l.keep b o hb hf (fun e => hw (List.mem_singleton.mp e ▸ hd)) hn, fun b o hb hf hw => l.frm b o hb hf (fun e => hw (List.mem_singleton.mp e ▸ hd)), l.os, l.gl, l.gsz⟩,
    p.sr.upd u ho hn (F.lo _ hd) hf rfl fun i o hi => .inl ⟨hi, fun q hq => of.1 q (mem2 hq)⟩, fr⟩
theorem upd_some {x z : Nat} {v w : V} {P : Prop} (h : upd vs x v z = some w) (h1 : z = x → v = w → P) (h2 : z ≠ x → vs z = some w → P) : P := by
  unfold upd at h
  by_cases e : z = x
  · rw [if_pos e] at h; exact h1 e (Option.some.inj h)
  · rw [if_neg e] at h; exact h2 e h
theorem snd_store (F : FrSt c env) (p : Pre c fs env σ ρ s) {x : Nat} {v : V} {y : Value} (hk : Lc env (c.nm x)) (rv : VR c ρ v y) {Q : Unit → Shared → Prop}
    (q : ∀ s', AftS c fs env ρ s ⟨upd σ.vs x v, σ.os⟩ ρ s' → Q () s') : wpAny (model c.prog c.w) A (storeName env (c.nm x) y) Q E s := by
  have fr := p.fr
  rcases hk with hk | ⟨hk, hfu⟩
  · obtain ⟨m, hm, hv⟩ := fr.ns
    refine wpAny_storeName_local hk hm (fun h' hn' hs => q _ ?_) (by rw [F.md]; rfl)
    have u : Up env.locals s { s with heap := h', toks := s.toks + 1 } := up_of hs
    refine own_step p (.head _) F u (fun _ => ?_) ⟨⟨_, hn', fun x' v' hx' hk' => ?_⟩, fun x' v' hx' hk' => ?_, fr.all, fun pp hp => ?_, fr.inj, fr.lc, fun b hb => ⟨(fr.nof b hb).1, Nat.lt_of_lt_of_le (fr.nof b hb).2 u.sz⟩⟩
    · obtain ⟨o, es, ep, h1, h2, _⟩ := hn'
      exact ⟨_, h1, _, _, h2⟩
    · refine upd_some hx' (fun e e2 => ?_) fun e h => ?_
      · subst e e2; exact ⟨y, if_pos rfl, rv⟩
      · obtain ⟨y', h1, h2⟩ := hv x' v' h hk'
        exact ⟨y', (if_neg fun e2 => e (c.inj _ _ e2)).trans h1, h2⟩
    · refine upd_some hx' (fun e e2 => ?_) fun e h => ?_
      · subst e
        rw [hk] at hk'
        exact hk'.elim (fun h => nomatch h) fun h => nomatch h
      · obtain ⟨b, y', h1, ⟨o, h2, h3⟩, h4⟩ := fr.cel x' v' h hk'
        exact ⟨b, y', h1, ⟨o, u.keep _ _ (fr.lc _ _ h1) h2, h3⟩, h4⟩
    · obtain ⟨y', o, h2, h3⟩ := fr.cl pp hp
      refine ⟨y', o, u.keep _ _ (fun e => ?_) h2, h3⟩
      rw [e] at h2
      obtain ⟨o', es, ep, g1, g2, _⟩ := hm
      rw [h2] at g1; cases g1
      rw [h3] at g2; cases g2
  · obtain ⟨b, hc⟩ := fr.all _ (.inl hk)
    have hmem : (c.nm x, b) ∈ env.cells := by
      obtain ⟨l1, l2, e1, _⟩ := List.lookup_eq_some_iff.mp hc
      rw [e1]; exact List.mem_append_right _ (.head _)
    have hown : b ∈ ownW env := .tail _ (List.mem_map.mpr ⟨(c.nm x, b), List.mem_filter.mpr ⟨hmem, by rw [hk, hfu]; rfl⟩, rfl⟩)
    obtain ⟨y0, hy0⟩ := fr.cl _ hmem
    refine wpAny_storeName_cell F.md hk hc hy0 (fun h' hn' hs => q _ ?_)
    have u : Up b s { s with heap := h' } := up_of hs
    refine own_step p hown F u (fun hf => ?_) ⟨?_, fun x' v' hx' hk' => ?_, fr.all, fun pp hp => ?_, fr.inj, fr.lc, fun b hb => ⟨(fr.nof b hb).1, Nat.lt_of_lt_of_le (fr.nof b hb).2 u.sz⟩⟩
    · exfalso
      obtain ⟨env', he, hf⟩ := List.mem_filterMap.mp hf
      obtain ⟨_, L, o, f, _, e, es, ep, d⟩ := p.sr.ff env' he
      rw [f] at hf; cases hf
      obtain ⟨o', g1, g2⟩ := hy0
      rw [e] at g1; cases g1
      rw [d] at g2; cases g2
    · obtain ⟨m, ⟨o, es, ep, g1, g2, g3⟩, hv⟩ := fr.ns
      refine ⟨m, ⟨o, es, ep, u.keep _ _ (fun e => fr.lc _ _ hc e.symm) g1, g2, g3⟩, fun x' v' hx' hk' => upd_some hx' (fun e _ => ?_) fun _ h => hv x' v' h hk'⟩
      subst e; rw [hk] at hk'; cases hk'
    · refine upd_some hx' (fun e e2 => ?_) fun e h => ?_
      · subst e e2; exact ⟨b, y, hc, hn', rv⟩
      · obtain ⟨b', y', h1, ⟨o, h2, h3⟩, h4⟩ := fr.cel x' v' h hk'
        exact ⟨b', y', h1, ⟨o, u.keep _ _ (fun e' => e (c.inj _ _ (fr.inj _ _ _ (e' ▸ h1) hc))) h2, h3⟩, h4⟩
    · by_cases e : pp.2 = b
      · rw [e]; exact ⟨_, hn'⟩
      · obtain ⟨y', o, h2, h3⟩ := fr.cl pp hp
        exact ⟨y', o, u.keep _ _ e h2, h3⟩
end
section
variable (c : Cx)
inductive FlR (ρ : Rho) : Fl → Flow → Prop
  | nxt : FlR ρ .nxt .next
  | ret {v y} : VR c ρ v y → FlR ρ (.ret v) (.ret y)
  | brk : FlR ρ .brk .brk
  | cnt : FlR ρ .cnt .cont
structure EvE (n : Nat) (sc : Scope) (e : Expr) (σ : Sg) (v : V) (σ' : Sg) : Prop where
  r : ∀ A env fs ρ s (Q : Value → Shared → Prop) E, EnvOk sc env → Ctx A fs n → Pre c fs env σ ρ s → (∀ ρ' s' y, Aft c fs env ρ s σ' ρ' s' → VR c ρ' v y → Q y s') → wpAny (model c.prog c.w) A (eval e env) Q E s
structure EvT (n : Nat) (sc : Scope) (e : Expr) (σ : Sg) (b : Bool) (σ' : Sg) : Prop where
  r : ∀ A env fs ρ s (Q : Bool → Shared → Prop) E, EnvOk sc env → Ctx A fs n → Pre c fs env σ ρ s → (∀ ρ' s', Aft c fs env ρ s σ' ρ' s' → Q b s') → wpAny (model c.prog c.w) A (isTrue e env (eval e env)) Q E s
structure EvL (n : Nat) (sc : Scope) (es : List Expr) (σ : Sg) (vs : List V) (σ' : Sg) : Prop where
  r : ∀ A env fs ρ s (Q : List Value → Shared → Prop) E pos, EnvOk sc env → Ctx A fs n → Pre c fs env σ ρ s → (∀ ρ' s' ys, Aft c fs env ρ s σ' ρ' s' → VRs c ρ' vs ys → Q ys s') → wpAny (model c.prog c.w) A (spliced (backTo pos (starEach es env))) Q E s
structure EvS (n : Nat) (sc : Scope) (st : Stmt) (σ : Sg) (fl : Fl) (σ' : Sg) : Prop where
  r : ∀ A env fs ρ s (Q : Flow → Shared → Prop) E, EnvOk sc env → FrOk c fs env → Ctx A fs n → Pre c fs env σ ρ s → (∀ ρ' s' f, AftS c fs env ρ s σ' ρ' s' → FlR c ρ' fl f → Q f s') → wpAny (model c.prog c.w) A (exec st env) Q E s
structure EvB (n : Nat) (sc : Scope) (st : List Stmt) (σ : Sg) (fl : Fl) (σ' : Sg) : Prop where
  r : ∀ A env fs ρ s (Q : Flow → Shared → Prop) E, EnvOk sc env → FrOk c fs env → Ctx A fs n → Pre c fs env σ ρ s → (∀ ρ' s' f, AftS c fs env ρ s σ' ρ' s' → FlR c ρ' fl f → Q f s') → wpAny (model c.prog c.w) A (execs st env) Q E s
noncomputable def EvC (n : Nat) (f : Nat) (vs : List V) (ks : List (Nat × V)) (os : List O) (v : V) (os' : List O) : Prop :=
  ∀ A fs ρ s vs' ks' (R : Result → Shared → Prop), Ctx A fs n → SR c fs ρ os s → (∀ a ∈ frA fs, c.h0.objs.size ≤ a) → VRs c ρ vs vs' → KR c ρ ks ks' →
    (∀ ρ' s' y, Le c [] fs ρ s ρ' s' → SR c fs ρ' os' s' → VR c ρ' v y → R (.ok (.ret y)) s') → codeAny (model c.prog c.w) A (.call (.ref f) ⟨vs', ks'⟩) R s
noncomputable def EvF (n : Nat) (f : V) (vs : List V) (ks : List (Nat × V)) (os : List O) (v : V) (os' : List O) : Prop :=
  ∀ A fs ρ s f' vs' ks' (Q : Value → Shared → Prop) E, Ctx A fs n → SR c fs ρ os s → (∀ a ∈ frA fs, c.h0.objs.size ≤ a) → VR c ρ f f' → VRs c ρ vs vs' → KR c ρ ks ks' →
    (∀ ρ' s' y, Le c [] fs ρ s ρ' s' → SR c fs ρ' os' s' → VR c ρ' v y → Q y s') → wpAny (model c.prog c.w) A (call f' vs' ks') Q E s
end
section
variable {c : Cx} {n m : Nat} {sc : Scope} {e : Expr} {es : List Expr} {st : Stmt} {b : List Stmt} {σ σ' σ'' : Sg} {v : V} {vs : List V} {t : Bool} {fl : Fl} {f : Nat} {ks : List (Nat × V)} {os os' : List O}
end
end Rw
namespace Rw
open PySem PySem.W PySem.Calls PyProof.Rows
structure ClsOk (K : Frag) (c : Addr) : Prop where
  ga : findIn K (.ref c) "__getattribute__" = some (some (.builtin "object.__getattribute__"))
  gt : findIn K (.ref c) "__getattr__" = some none
  sa : findIn K (.ref c) "__setattr__" = some (some (.builtin "object.__setattr__"))
  hd : hasDictIn K c = true
  pl : plainOver K c = true
structure Gd (c : Cx) : Prop where
  k : c.K.In c.h0
  ns : ∃ mg, c.h0.Ns mainGlobals mg
  nb : ∃ mb, c.h0.Ns builtinsNs mb ∧ ∀ x, x ≠ ("__name__" : Str) → mb x = bootBuiltins x
  gt : ∀ x v, c.P.gl x = some v → (∃ a, v = .top a ∧ nsIn c.K mainGlobals (c.nm x) = some (some (.ref a))) ∨ ∃ b, v = .bi b ∧ nsIn c.K mainGlobals (c.nm x) = some none ∧ bootBuiltins (c.nm x) = some (bval b) ∧ c.nm x ≠ ("__name__" : Str)
  lim : c.h0.NoLimit
  sm : sysModules < c.h0.objs.size
  db : ∀ x, (c.nm x == ("__debug__" : Str)) = false
  cd : ∀ x, (c.nm x == ("__classdict__" : Str)) = false
  ck : ∀ cl n a, c.P.att cl n = some a → ClsOk c.K cl
  no : ∀ cl n, c.P.att cl n = some .no → findIn c.K (.ref cl) (c.nm n) = some none
  fnm : ∀ cl n g, c.P.att cl n = some (.fn g) → findIn c.K (.ref cl) (c.nm n) = some (some (.ref g)) ∧ typeIn c.K (.ref g) = some (.type "function")
  tru : ∀ cl, c.P.tru cl = true → findIn c.K (.ref cl) "__bool__" = some none ∧ findIn c.K (.ref cl) "__len__" = some none
  ini : ∀ cl g, c.P.init cl = some g → makesIn c.K cl = true ∧ findIn c.K (.ref cl) "__init__" = some (some (.ref g)) ∧ typeIn c.K (.ref g) = some (.type "function")
  kp : ∀ a, c.P.cal a = true → keepIn c.K (.ref a) = true
  eq : ∀ cl f, c.P.eqf cl = some f → findIn c.K (.ref cl) "__eq__" = some (some (.ref f)) ∧ typeIn c.K (.ref f) = some (.type "function")
  sp : ∀ cl d n f, c.P.sup cl d n = some f → ∃ cD cC, clsIn c.K cl = some cD ∧ mroIn c.K d (.ref cl) = some true ∧ clsIn c.K d = some cC ∧ alongIn c.K (c.nm n) ((cC.mro.dropWhile (· != .ref cl)).drop 1) = some (some (.ref f)) ∧ typeIn c.K (.ref f) = some (.type "function") ∧ (c.nm n == ("__class__" : Str)) = false ∧ ∃ fo fd, c.K.lookup f = some fo ∧ fo.data = .func fd
  sg : nsIn c.K mainGlobals ("super" : Str) = some none ∧ bootBuiltins ("super" : Str) = some (.type "super")
  th : nsIn c.K cStatics "thirdparty.any" = some none
  bf : ∃ bm o, nsIn c.K mainGlobals ("__builtins__" : Str) = some (some (.ref bm)) ∧ bm ≠ builtinsNs ∧ c.K.lookup bm = some o ∧ o.cls = .type "module" ∧ o.dict = some builtinsNs ∧ o.data = .plain
  ve : nsIn c.K mainGlobals ("ValueError" : Str) = some none ∧ bootBuiltins ("ValueError" : Str) = some (.type "ValueError")
  tn : ∀ a ∈ c.txs, c.h0.get? a = none
  sc : ∃ its, c.h0.IsList c.ax its ∧ VRs c [] (c.sc.map .int) its.toList
section
variable {c : Cx} {A : Around} {E : Value → Shared → Prop} {n : Nat} {sc : Scope} {a b e : Expr} {es : List Expr} {σ σ' σ'' : Sg} {v u : V} {vs : List V} {t : Bool} {pos : Pos} {ρ : Rho} {s s' : Shared} {fs : List Env} {os : List O} {x y : Value}
theorem kin (G : Gd c) (sr : SR c fs ρ os s) : c.K.In s.heap := G.k.keeps sr.old
theorem size_lim {n : Nat} (h : n < lim) : n ≤ sizeLine := Nat.le_of_lt (Nat.lt_trans h (by decide))
theorem e_none : EvE c n sc (.Constant .none kk pos) σ .none σ := .mk fun _ _ _ _ _ _ _ _ _ p q => wpAny_Constant_none (q _ _ _ p.aft0 rfl)
theorem e_bool : EvE c n sc (.Constant (.bool t) kk pos) σ (.bool t) σ := .mk fun _ _ _ _ _ _ _ _ _ p q => wpAny_Constant_bool (q _ _ _ p.aft0 rfl)
theorem e_int {i : Int} : EvE c n sc (.Constant (.int i) kk pos) σ (.int i) σ := .mk fun _ _ _ _ _ _ _ _ _ p q => wpAny_Constant_int (q _ _ _ (p.aft .tok) ⟨_, rfl⟩)
theorem e_str {x : Str} {k : Nat} (h : c.nm k = x) : EvE c n sc (.Constant (.str x) kk pos) σ (.str k) σ := h ▸ .mk fun _ _ _ _ _ _ _ _ _ p q => wpAny_Constant_str (q _ _ _ (p.aft .tok) ⟨_, rfl⟩)
noncomputable def locB (sc : Scope) (x : Str) : Bool := match sc.names.lookup x with | some .local => true | some .cell => true | some .free => true | _ => false
theorem locB_of {x : Str} (h : locB sc x = true) : sc.names.lookup x = some .local ∨ sc.names.lookup x = some .cell ∨ sc.names.lookup x = some .free := by
  unfold locB at h
  split at h
  · exact .inl (by assumption)
  · exact .inr (.inl (by assumption))
  · exact .inr (.inr (by assumption))
  · cases h
theorem e_loc (G : Gd c) {x : Str} (k : Nat) (h : c.nm k = x) (hl : locB sc x = true) (hv : σ.vs k = some v) : EvE c n sc (.Name x pos) σ v σ := by
  subst h
  refine ⟨?_⟩; intro A env fs ρ s Q E eo cx p q
  have q' : ∀ y, VR c ρ v y → Q y s := fun y => q _ _ _ p.aft0
  rcases locB_of hl with hk | hk | hk
  · have hl := eo.l1 _ hk
    obtain ⟨m, hm, hy⟩ := p.fr.ns
    obtain ⟨y, e, r⟩ := hy k v hv hl
    exact wpAny_Name (wpAny_loadName_local eo.kd hl hm e (q' y r)) (G.db _)
  · have hl := eo.c1 _ hk
    obtain ⟨b, y, e, hcell, r⟩ := p.fr.cel k v hv (.inl hl)
    exact wpAny_Name (wpAny_loadName_cell eo.kd hl e hcell (q' y r)) (G.db _)
  · have hl := eo.f1 _ hk
    obtain ⟨b, y, e, hcell, r⟩ := p.fr.cel k v hv hl.symm
    rcases hl with hl | hl
    · exact wpAny_Name (wpAny_loadName_free eo.kd hl e hcell (q' y r) (G.cd _)) (G.db _)
    · exact wpAny_Name (wpAny_loadName_cell eo.kd hl e hcell (q' y r)) (G.db _)
theorem e_glob (G : Gd c) {x : Str} (k : Nat) (h : c.nm k = x) (hk : sc.names.lookup x = some .globalImplicit) (hv : c.P.gl k = some v) : EvE c n sc (.Name x pos) σ v σ := by
  subst h
  refine ⟨?_⟩; intro A env fs ρ s Q E eo cx p q
  obtain ⟨mg, hm⟩ := G.ns
  obtain ⟨mb, hb, hbb⟩ := G.nb
  have hm' : s.heap.Ns env.globals mg := by rw [eo.gl]; exact hm.keeps p.sr.old
  have hb' : s.heap.Ns env.builtins mb := by rw [eo.bu]; exact hb.keeps p.sr.old
  rcases G.gt k v hv with ⟨a, rfl, e⟩ | ⟨b, rfl, e, e2, e3⟩
  · exact Name_function_global eo.kd (eo.g1 _ hk) (loadGlobal_global hm' (mg_of G.k hm e) (q _ _ _ p.aft0 rfl)) (G.db _)
  · exact Name_function_global eo.kd (eo.g1 _ hk) (loadGlobal_builtin hm' (mg_none_of G.k hm e) hb' ((hbb _ e3).trans e2) (q _ _ _ p.aft0 rfl)) (G.db _)
noncomputable def BinJ (c : Cx) (op : Operator) (a b v : V) : Prop := ∀ A ρ s x y (Q : Value → Shared → Prop) E, VR c ρ a x → VR c ρ b y → (∀ z s', Qu s s' → VR c ρ v z → Q z s') → wpAny (model c.prog c.w) A (binaryOp op x y) Q E s
theorem e_bin {op : Operator} {v1 v2 : V} (h1 : EvE c n sc a σ v1 σ') (h2 : EvE c n sc b σ' v2 σ'') (h : BinJ c op v1 v2 v) : EvE c n sc (.BinOp a op b pos) σ v σ'' :=
  .mk fun _ _ _ _ _ _ _ eo cx p q => wpAny_BinOp (h1.r _ _ _ _ _ _ _ eo cx p fun _ _ _ a1 r1 => h2.r _ _ _ _ _ _ _ eo cx (p.next a1) fun _ _ _ a2 r2 => h _ _ _ _ _ _ _ (a2.le.vr r1) r2 fun _ _ u rz => q _ _ _ ((a1.trans a2).qu u) rz)
theorem b_add {i j : Int} : BinJ c .Add (.int i) (.int j) (.int (i + j)) := fun _ _ _ _ _ _ _ ⟨_, e1⟩ ⟨_, e2⟩ q => e1 ▸ e2 ▸ add_int (q _ _ .tok ⟨_, rfl⟩)
theorem b_sub {i j : Int} : BinJ c .Sub (.int i) (.int j) (.int (i - j)) := fun _ _ _ _ _ _ _ ⟨_, e1⟩ ⟨_, e2⟩ q => e1 ▸ e2 ▸ sub_int (q _ _ .tok ⟨_, rfl⟩)
noncomputable def small (i : Int) : Prop := Builtin.Int.intBits i ≤ 2 ^ 25
theorem b_mul {i j : Int} (h1 : small i) (h2 : small j) : BinJ c .Mult (.int i) (.int j) (.int (i * j)) := fun _ _ _ _ _ _ _ ⟨_, e1⟩ ⟨_, e2⟩ q => by
  subst e1 e2
  refine mul_int (q _ _ .tok ⟨_, rfl⟩) ?_
  unfold small at h1 h2
  unfold IntMulOk
  have h3 : Builtin.Int.intTooBig (Builtin.Int.intBits i + Builtin.Int.intBits j) = false := by
    unfold Builtin.Int.intTooBig
    exact decide_eq_false (by have : bitsLine = 2 ^ 27 := rfl; omega)
  rw [h3, Bool.and_false]; exact Bool.false_ne_true
theorem b_mod {i j : Int} (h : j ≠ 0) : BinJ c .Mod (.int i) (.int j) (.int (i.fmod j)) := fun _ _ _ _ _ _ _ ⟨_, e1⟩ ⟨_, e2⟩ q => e1 ▸ e2 ▸ mod_int' h (q _ _ .tok ⟨_, rfl⟩)
theorem b_div {i j : Int} (h : j = 1 ∨ j = 2 ∨ j = 3) : BinJ c .FloorDiv (.int i) (.int j) (.int (i.fdiv j)) := fun _ _ _ _ _ _ _ ⟨_, e1⟩ ⟨_, e2⟩ q => by
  subst e1 e2
  refine floordiv_int (by omega) (q _ _ .tok ⟨_, rfl⟩) (.inl ?_)
  rcases h with rfl | rfl | rfl <;> simp [Builtin.divisionGoesByPylong] <;> intro h <;> exact absurd h (by decide)
theorem e_add {i j : Int} (h1 : EvE c n sc a σ (.int i) σ') (h2 : EvE c n sc b σ' (.int j) σ'') : EvE c n sc (.BinOp a .Add b pos) σ (.int (i + j)) σ'' := e_bin h1 h2 b_add
theorem e_sub {i j : Int} (h1 : EvE c n sc a σ (.int i) σ') (h2 : EvE c n sc b σ' (.int j) σ'') : EvE c n sc (.BinOp a .Sub b pos) σ (.int (i - j)) σ'' := e_bin h1 h2 b_sub
theorem e_mul {i j : Int} (k1 : small i) (k2 : small j) (h1 : EvE c n sc a σ (.int i) σ') (h2 : EvE c n sc b σ' (.int j) σ'') : EvE c n sc (.BinOp a .Mult b pos) σ (.int (i * j)) σ'' := e_bin h1 h2 (b_mul k1 k2)
theorem e_neg {i : Int} (h : EvE c n sc a σ (.int i) σ') : EvE c n sc (.UnaryOp .USub a pos) σ (.int (-i)) σ' :=
  .mk fun _ _ _ _ _ _ _ eo cx p q => wpAny_UnaryOp (h.r _ _ _ _ _ _ _ eo cx p fun _ _ _ a1 ⟨_, r1⟩ => r1 ▸ neg_int (q _ _ _ (a1.qu .tok) ⟨_, rfl⟩))
noncomputable def CmpJ (c : Cx) (op : CmpOp) (os : List O) (a b : V) (t : Bool) : Prop := ∀ A fs n ρ s x y (Q : Value → Shared → Prop) E, Ctx A fs n → SR c fs ρ os s → VR c ρ a x → VR c ρ b y → Q (.bool t) s → wpAny (model c.prog c.w) A (compareOp op x y) Q E s
theorem e_cmp {op : CmpOp} {v1 v2 : V} (h1 : EvE c n sc a σ v1 σ') (h2 : EvE c n sc b σ' v2 σ'') (h : CmpJ c op σ''.os v1 v2 t) (hm : behindInMarks op b = false := by with_unfolding_all rfl) : EvE c n sc (.Compare a [op] [b] pos) σ (.bool t) σ'' :=
  .mk fun _ _ _ _ _ _ _ eo cx p q => wpAny_Compare1 (h1.r _ _ _ _ _ _ _ eo cx p fun _ _ _ a1 r1 => h2.r _ _ _ _ _ _ _ eo cx (p.next a1) fun _ _ _ a2 r2 => h _ _ _ _ _ _ _ _ _ cx a2.sr (a2.le.vr r1) r2 (q _ _ _ (a1.trans a2) rfl)) hm
theorem t_cmp {op : CmpOp} {v1 v2 : V} (h1 : EvE c n sc a σ v1 σ') (h2 : EvE c n sc b σ' v2 σ'') (h : CmpJ c op σ''.os v1 v2 t) (hm : behindInMarks op b = false := by with_unfolding_all rfl) : EvT c n sc (.Compare a [op] [b] pos) σ t σ'' :=
  .mk fun _ _ _ _ _ _ _ eo cx p q => wpAny_isTrue_Compare1 (h1.r _ _ _ _ _ _ _ eo cx p fun _ _ _ a1 r1 => h2.r _ _ _ _ _ _ _ eo cx (p.next a1) fun _ _ _ a2 r2 => h _ _ _ _ _ _ _ _ _ cx a2.sr (a2.le.vr r1) r2 (wpAny_truthy_bool (q _ _ (a1.trans a2)))) hm
theorem c_eq {i j : Int} : CmpJ c .Eq os (.int i) (.int j) (i == j) := fun _ _ _ _ _ _ _ _ _ _ _ ⟨_, e1⟩ ⟨_, e2⟩ q => e1 ▸ e2 ▸ eq_int q
theorem c_ne {i j : Int} : CmpJ c .NotEq os (.int i) (.int j) (i != j) := fun _ _ _ _ _ _ _ _ _ _ _ ⟨_, e1⟩ ⟨_, e2⟩ q => e1 ▸ e2 ▸ ne_int q
theorem c_lt {i j : Int} : CmpJ c .Lt os (.int i) (.int j) (decide (i < j)) := fun _ _ _ _ _ _ _ _ _ _ _ ⟨_, e1⟩ ⟨_, e2⟩ q => e1 ▸ e2 ▸ lt_int q
theorem c_le {i j : Int} : CmpJ c .LtE os (.int i) (.int j) (decide (i ≤ j)) := fun _ _ _ _ _ _ _ _ _ _ _ ⟨_, e1⟩ ⟨_, e2⟩ q => e1 ▸ e2 ▸ le_int q
theorem c_gt {i j : Int} : CmpJ c .Gt os (.int i) (.int j) (decide (i > j)) := fun _ _ _ _ _ _ _ _ _ _ _ ⟨_, e1⟩ ⟨_, e2⟩ q => e1 ▸ e2 ▸ gt_int q
theorem c_ge {i j : Int} : CmpJ c .GtE os (.int i) (.int j) (decide (i ≥ j)) := fun _ _ _ _ _ _ _ _ _ _ _ ⟨_, e1⟩ ⟨_, e2⟩ q => e1 ▸ e2 ▸ ge_int q
theorem c_eqS {i j : Nat} : CmpJ c .Eq os (.str i) (.str j) (i == j) := fun _ _ _ _ _ _ _ _ _ _ _ ⟨_, e1⟩ ⟨_, e2⟩ q => by
  subst e1 e2
  refine eq_str ?_
  have e : (c.nm i == c.nm j) = (i == j) := is_str (c := c) (t := 0)
  rw [e]; exact q
noncomputable def V.isNone : V → Option Bool | .none => some true | .bi _ => Option.none | _ => some false
theorem isNone_of {v : V} (e : v.isNone = some t) (h : VR c ρ v x) : PySem.plainIs x .none = true ∧ (x == .none) = t := by
  cases v with
  | none => cases h; exact ⟨rfl, Option.some.inj e⟩
  | bool b => cases h; exact ⟨rfl, Option.some.inj e⟩
  | int i => obtain ⟨_, rfl⟩ := h; exact ⟨rfl, Option.some.inj e⟩
  | str n => obtain ⟨_, rfl⟩ := h; exact ⟨rfl, Option.some.inj e⟩
  | top a => cases h; exact ⟨rfl, Option.some.inj e⟩
  | bi b => cases e
  | obj i => obtain ⟨_, _, rfl⟩ := h; exact ⟨rfl, Option.some.inj e⟩
  | scr => cases h; exact ⟨rfl, Option.some.inj e⟩
theorem c_is (h : v.isNone = some t) : CmpJ c .Is os v .none t := fun _ _ _ _ _ _ _ _ _ _ _ r e q => by
  cases e
  obtain ⟨h1, rfl⟩ := isNone_of h r
  exact wpAny_is_plain h1 q
theorem c_isnt (h : v.isNone = some t) : CmpJ c .IsNot os v .none (!t) := fun _ _ _ _ _ _ _ _ _ _ _ r e q => by
  cases e
  obtain ⟨h1, rfl⟩ := isNone_of h r
  exact wpAny_isNot_plain h1 q
inductive Dat (os : List O) : V → PyData → Prop
  | none : Dat os .none .none
  | bool (b : Bool) : Dat os (.bool b) (.bool b)
  | int (i : Int) : Dat os (.int i) (.int i)
  | list {i : Nat} {l : List V} {ds : List PyData} : os[i]? = some (.list l) → l.length = ds.length → (∀ (k : Nat) v d, l[k]? = some v → ds[k]? = some d → Dat os v d) → Dat os (.obj i) (.list ds)
  | tup {i : Nat} {l : List V} {ds : List PyData} : os[i]? = some (.tup l) → l.length = ds.length → (∀ (k : Nat) v d, l[k]? = some v → ds[k]? = some d → Dat os v d) → Dat os (.obj i) (.tuple ds)
theorem reads_all {h : Heap} {l : List V} {xs : List Value} (r : VRs c ρ l xs) : ∀ {ds : List PyData}, l.length = ds.length → (∀ (k : Nat) v d, l[k]? = some v → ds[k]? = some d → ∀ x, VR c ρ v x → ∃ as, Reads h x d as) → ∃ as, ReadsAll h xs ds as := by
  induction r with
  | nil => exact fun {ds} e _ => match ds, e with | [], _ => ⟨_, .nil⟩
  | cons a _ ih => exact fun {ds} e f => match ds, e with
    | d :: ds, e =>
      let ⟨_, r⟩ := f 0 _ _ rfl rfl _ a
      let ⟨_, r'⟩ := ih (Nat.succ.inj e) fun k v d h1 h2 => f (k + 1) v d h1 h2
      ⟨_, .cons r r'⟩
theorem Dat.reads (sr : SR c fs ρ os s) {d : PyData} (h : Dat os v d) : ∀ {x}, VR c ρ v x → ∃ as, Reads s.heap x d as := by
  induction h with
  | none => exact fun r => by cases r; exact ⟨_, .none⟩
  | bool b => exact fun r => by cases r; exact ⟨_, .bool b⟩
  | int i => exact fun r => by obtain ⟨t, rfl⟩ := r; exact ⟨_, .int i t⟩
  | list h1 h2 _ ih =>
    rintro x ⟨p, hp, rfl⟩
    obtain ⟨q, hq, r⟩ := sr.ob _ _ h1
    rw [hp] at hq; cases hq
    cases r with
    | list g1 g2 =>
      obtain ⟨as, r⟩ := reads_all g2 h2 fun k v d e1 e2 x rx => ih k v d e1 e2 rx
      exact ⟨_, .list g1 rfl rfl r⟩
  | tup h1 h2 _ ih =>
    rintro x ⟨p, hp, rfl⟩
    obtain ⟨q, hq, r⟩ := sr.ob _ _ h1
    rw [hp] at hq; cases hq
    cases r with
    | tup g1 g2 =>
      obtain ⟨as, r⟩ := reads_all g2 h2 fun k v d e1 e2 x rx => ih k v d e1 e2 rx
      exact ⟨_, .tuple g1 rfl rfl r⟩
theorem c_eqD {dx dy : PyData} (h1 : Dat os u dx) (h2 : Dat os v dy) (h3 : SeqAt.shaped dx = true) (h4 : SeqAt.shaped dy = true) : CmpJ c .Eq os u v (dx.eqv dy) := fun _ _ _ _ _ _ _ _ _ cx sr r1 r2 q =>
  let ⟨_, r1⟩ := h1.reads sr r1
  let ⟨_, r2⟩ := h2.reads sr r2
  eq_dataH r1 r2 h3 h4 cx.hu q
theorem c_neD {dx dy : PyData} (h1 : Dat os u dx) (h2 : Dat os v dy) (h3 : SeqAt.shaped dx = true) (h4 : SeqAt.shaped dy = true) : CmpJ c .NotEq os u v (!dx.eqv dy) := fun _ _ _ _ _ _ _ _ _ cx sr r1 r2 q =>
  let ⟨_, r1⟩ := h1.reads sr r1
  let ⟨_, r2⟩ := h2.reads sr r2
  ne_dataH r1 r2 h3 h4 cx.hu q
noncomputable def TruJ (c : Cx) (os : List O) (v : V) (t : Bool) : Prop := ∀ A fs ρ s x (Q : Bool → Shared → Prop) E, SR c fs ρ os s → VR c ρ v x → (∀ s', Qu s s' → Q t s') → wpAny (model c.prog c.w) A (truthy x) Q E s
theorem tr_none : TruJ c os .none false := fun _ _ _ _ _ _ _ _ r q => by cases r; exact truthy_none (q _ .refl)
theorem tr_bool : TruJ c os (.bool t) t := fun _ _ _ _ _ _ _ _ r q => by cases r; exact wpAny_truthy_bool (q _ .refl)
theorem list_of (sr : SR c fs ρ os s) {i : Nat} {l : List V} (h : os[i]? = some (.list l)) (rx : VR c ρ (.obj i) x) :
    ∃ a its k, x = .ref a ∧ ρ[i]? = some (a, a) ∧ s.heap.get? a = some (listOf its k) ∧ VRs c ρ l its.toList := by
  obtain ⟨p, e, rfl⟩ := rx
  obtain ⟨q, hq, hr⟩ := sr.ob i _ h
  rw [e] at hq; cases hq
  cases hr with
  | list h1 h2 => exact ⟨_, _, _, rfl, e, h1, h2⟩
theorem tup_of (sr : SR c fs ρ os s) {i : Nat} {l : List V} (h : os[i]? = some (.tup l)) (rx : VR c ρ (.obj i) x) :
    ∃ a its k, x = .ref a ∧ s.heap.get? a = some (tupO its k) ∧ VRs c ρ l its.toList := by
  obtain ⟨p, e, rfl⟩ := rx
  obtain ⟨q, hq, hr⟩ := sr.ob i _ h
  rw [e] at hq; cases hq
  cases hr with
  | tup h1 h2 => exact ⟨_, _, _, rfl, h1, h2⟩
theorem inst_of (sr : SR c fs ρ os s) {i : Nat} {cl : Nat} {f : List (Nat × V)} (h : os[i]? = some (.inst cl f)) (r : VR c ρ (.obj i) x) :
    ∃ a d o es k, x = .ref a ∧ ρ[i]? = some (a, d) ∧ W.InstAt s.heap a o cl (some (dictOf es k)) ∧ o.dict = some d ∧ o.data = .plain ∧ off c ρ a ∧ s.heap.get? d = some (dictOf es k) ∧ EntR c ρ (f.map (·.1)) (f.map (·.2)) es := by
  obtain ⟨p, e, rfl⟩ := r
  obtain ⟨q, hq, hr⟩ := sr.ob i _ h
  rw [e] at hq; cases hq
  cases hr with
  | inst h1 h2 h3 h4 h5 h6 h7 => exact ⟨_, _, _, _, _, rfl, e, ⟨h1, h2, by unfold notCls; rw [h4], by rw [h3]; exact h6⟩, h3, h4, h5, h6, h7⟩
theorem VRs.size {l : List V} {its : Array Value} (h : VRs c ρ l its.toList) : its.size = l.length := by rw [h.len, Array.length_toList]
theorem tr_inst (G : Gd c) {i cl : Nat} {f : List (Nat × V)} (h : os[i]? = some (.inst cl f)) (ht : c.P.tru cl = true) : TruJ c os (.obj i) true := fun _ _ _ _ _ _ _ sr r q => by
  obtain ⟨a, d, o, es, k, rfl, _, I, _⟩ := inst_of sr h r
  obtain ⟨h1, h2⟩ := G.tru _ ht
  unfold truthy
  refine wpAny_bind (m := callSpecial? (.ref a) (Str.ofString "__bool__")) (wpAny_bind (wpAny_bind (I.type.here ((looks_findIn (kin G sr) h1).here (wpAny_pure ?_)))))
  refine wpAny_bind (wpAny_bind (I.type.here ((looks_findIn (kin G sr) h2).here ?_)))
  exact wpAny_pure (q _ .refl)
theorem t_val (h : EvE c n sc e σ v σ') (ht : TruJ c σ'.os v t) (he : ∀ env, isTrue e env (eval e env) = (do let v ← eval e env; standAt e.pos; holding [v] (truthy v))) : EvT c n sc e σ t σ' :=
  .mk fun _ _ _ _ _ _ _ eo cx p q => wpAny_isTrue_value (h.r _ _ _ _ _ _ _ eo cx p fun _ _ _ a r => ht _ _ _ _ _ _ _ a.sr r fun _ u => q _ _ (a.qu u)) (he _)
theorem t_name {x : Str} (h : EvE c n sc (.Name x pos) σ v σ') (ht : TruJ c σ'.os v t) : EvT c n sc (.Name x pos) σ t σ' := t_val h ht fun _ => rfl
theorem t_att {x : Str} (h : EvE c n sc (.Attribute a x pos) σ v σ') (ht : TruJ c σ'.os v t) : EvT c n sc (.Attribute a x pos) σ t σ' := t_val h ht fun _ => rfl
theorem t_call {ks : List Keyword} (h : EvE c n sc (.Call a es ks pos) σ v σ') (ht : TruJ c σ'.os v t) : EvT c n sc (.Call a es ks pos) σ t σ' := t_val h ht fun _ => rfl
theorem t_not (h : EvT c n sc a σ t σ') : EvT c n sc (.UnaryOp .Not a pos) σ (!t) σ' := .mk fun _ _ _ _ _ _ _ eo cx p q => isTrue_not (h.r _ _ _ _ _ _ _ eo cx p fun _ _ a1 => q _ _ a1)
theorem e_if (ht : EvT c n sc e σ t σ') (h : EvE c n sc (bif t then a else b) σ' v σ'') : EvE c n sc (.IfExp e a b pos) σ v σ'' :=
  .mk fun _ _ _ _ _ _ _ eo cx p q => wpAny_IfExp (ht.r _ _ _ _ _ _ _ eo cx p fun _ _ a1 => by
    cases t with
    | true => exact h.r _ _ _ _ _ _ _ eo cx (p.next a1) fun _ _ _ a2 r => q _ _ _ (a1.trans a2) r
    | false => exact h.r _ _ _ _ _ _ _ eo cx (p.next a1) fun _ _ _ a2 r => q _ _ _ (a1.trans a2) r)
theorem e_one {op : BoolOp} (h : EvE c n sc a σ v σ') : EvE c n sc (.BoolOp op [a] pos) σ v σ' := .mk fun _ _ _ _ _ _ _ eo cx p q => BoolOp_one (h.r _ _ _ _ _ _ _ eo cx p q)
theorem e_andF (h : EvE c n sc a σ v σ') (ht : TruJ c σ'.os v false) : EvE c n sc (.BoolOp .And (a :: b :: es) pos) σ v σ' :=
  .mk fun _ _ _ _ _ _ _ eo cx p q => BoolOp_and (h.r _ _ _ _ _ _ _ eo cx p fun _ _ _ a1 r => ht _ _ _ _ _ _ _ a1.sr r fun _ u => q _ _ _ (a1.qu u) r)
theorem e_andT (h : EvE c n sc a σ v σ') (ht : TruJ c σ'.os v true) (h2 : EvE c n sc (.BoolOp .And (b :: es) pos) σ' u σ'') : EvE c n sc (.BoolOp .And (a :: b :: es) pos) σ u σ'' :=
  .mk fun _ _ _ _ _ _ _ eo cx p q => BoolOp_and (h.r _ _ _ _ _ _ _ eo cx p fun _ _ _ a1 r => ht _ _ _ _ _ _ _ a1.sr r fun _ w => h2.r _ _ _ _ _ _ _ eo cx (p.next (a1.qu w)) fun _ _ _ a2 => q _ _ _ ((a1.qu w).trans a2))
theorem t_and0 : EvT c n sc (.BoolOp .And [] pos) σ true σ := .mk fun _ _ _ _ _ _ _ eo cx p q => isTrue_and_nil (q _ _ p.aft0)
theorem t_or0 : EvT c n sc (.BoolOp .Or [] pos) σ false σ := .mk fun _ _ _ _ _ _ _ eo cx p q => isTrue_or_nil (q _ _ p.aft0)
theorem whole_bool {op : BoolOp} {env : Env} {w1 w2 : Sem Value} : isTrue (.BoolOp op es pos) env w1 = isTrue (.BoolOp op es pos) env w2 := rfl
theorem t_andF (h : EvT c n sc a σ false σ') : EvT c n sc (.BoolOp .And (a :: es) pos) σ false σ' := .mk fun _ _ _ _ _ _ _ eo cx p q => isTrue_and (h.r _ _ _ _ _ _ _ eo cx p fun _ _ a1 => q _ _ a1)
theorem t_andT (h : EvT c n sc a σ true σ') (h2 : EvT c n sc (.BoolOp .And es pos) σ' t σ'') : EvT c n sc (.BoolOp .And (a :: es) pos) σ t σ'' :=
  .mk fun _ _ _ _ _ _ _ eo cx p q => isTrue_and (h.r _ _ _ _ _ _ _ eo cx p fun _ _ a1 => by rw [if_pos rfl, whole_bool]; exact h2.r _ _ _ _ _ _ _ eo cx (p.next a1) fun _ _ a2 => q _ _ (a1.trans a2))
theorem t_orT (h : EvT c n sc a σ true σ') : EvT c n sc (.BoolOp .Or (a :: es) pos) σ true σ' := .mk fun _ _ _ _ _ _ _ eo cx p q => isTrue_or (h.r _ _ _ _ _ _ _ eo cx p fun _ _ a1 => q _ _ a1)
theorem t_orF (h : EvT c n sc a σ false σ') (h2 : EvT c n sc (.BoolOp .Or es pos) σ' t σ'') : EvT c n sc (.BoolOp .Or (a :: es) pos) σ t σ'' :=
  .mk fun _ _ _ _ _ _ _ eo cx p q => isTrue_or (h.r _ _ _ _ _ _ _ eo cx p fun _ _ a1 => by rw [if_neg Bool.false_ne_true, whole_bool]; exact h2.r _ _ _ _ _ _ _ eo cx (p.next a1) fun _ _ a2 => q _ _ (a1.trans a2))
end
end Rw
namespace Rw
open PySem PySem.W PySem.Calls PyProof.Rows PySem.Builtin.ObjectAttr
section
variable {prog : Program} {w : World} {K : Frag} {A : Around} {E : Value → Shared → Prop} {s s' s'' : Shared} {env : Env}
noncomputable def noArgs : Expr → Bool
  | .Call (.Name _ _) [] [] _ => true
  | _ => false
theorem attributeBase_of {o : Expr} {a : Str} {whole : Sem Value} (h : noArgs o = false) : attributeBase o a env whole = whole := by
  cases o with
  | Call f as ks p => cases f with
    | Name x q => cases as with
      | nil => cases ks with
        | nil => cases h
        | cons _ _ => rfl
      | cons _ _ => rfl
    | _ => rfl
  | _ => rfl
theorem raw_Attribute {value : Expr} {attr : Str} {pos : Pos} {Q : Value → Shared → Prop} (hn : noArgs value = false)
    (h : wpAny (model prog w) A (eval value env) (fun o s₁ => wpAny (model prog w) A (getAttr o attr true) Q E s₁) E s) : wpAny (model prog w) A (eval (.Attribute value attr pos) env) Q E s := by
  rw [PySem.arm_eval_Attribute, attributeBase_of hn]
  exact wpAny_bind (wpAny_mono h (fun o s₁ h₁ => wpAny_bind (wpAny_standAt (wpAny_bind (wpAny_holding (wpAny_mono h₁ (fun r s₂ h₂ => wpAny_bind (wpAny_letTemporaryGo (wpAny_pure h₂))) fun _ _ x => x))))) fun _ _ x => x)
theorem raw_collect {it : Addr} {T : String} {o : Obj} {items : Array Value} {n : Nat} {Q : List Value → Shared → Prop} (hT : T = "list" ∨ T = "tuple") (ho : s.heap.get? it = some o) (hc : o.cls = .type T) (hd : o.data = .seq items n)
    (hsz : items.size ≤ sizeLine) (hQ : ∀ s', Qu s s' → Q items.toList s') : wpAny (model prog w) A (collect (.ref it)) Q E s := by
  unfold collect
  refine wpAny_bind (wpAny_runValue (codeAny_builtin F.entry_proto_collect ?_))
  rw [Around.under_plainId F.plain_proto_collect _]
  show wpAny _ A.in1 (newList [] >>= fun l => again (.builtin "list.__iadd__" ⟨[l, .ref it], []⟩)) _ _ s
  refine wpAny_bind (wpAny_newObj_type ?_)
  refine wpAny_pure ⟨plainId_quiet F.plain_list_iadd _, codeAny_builtin F.entry_list_iadd ?_⟩
  rw [Around.under_plainId F.plain_list_iadd _]
  show wpAny _ A.in1 (Builtin.List.listExtendWith (.ref s.heap.objs.size) (.ref it) (.ref s.heap.objs.size)) _ _ _
  have hS : (s.heap.push { cls := .type "list", data := .seq ([] : List Value).toArray }).get? s.heap.objs.size = some { cls := .type "list", data := .seq #[] 0 } := Heap.get?_push_size _ rfl
  have hS₂ := Heap.get?_update_self (Obj.mapSeq (· ++ items)) hS rfl
  have fin' : wpAny (model prog w) A (match Value.ref s.heap.objs.size with
      | Value.ref a => do
        match (← load a).data with
          | Data.seq xs _ => pure xs.toList
          | _ => unsupported "internal:collect"
      | _ => unsupported "internal:collect") Q E { s with heap := (s.heap.push { cls := .type "list", data := .seq ([] : List Value).toArray }).update s.heap.objs.size (Obj.mapSeq (· ++ items)) } := by
    show wpAny _ A (load s.heap.objs.size >>= _) _ _ _
    refine wpAny_bind (wpAny_load hS₂ ?_)
    refine wpAny_pure ?_
    have e : ((#[] : Array Value) ++ items).toList = items.toList := by simp
    show Q ((#[] : Array Value) ++ items).toList _
    rw [e]
    exact hQ _ ⟨by simp [Heap.update, Heap.size_push], fun b o' hb => (Heap.get?_update_other _ _ (Nat.ne_of_gt (Heap.lt_size hb))).trans (Heap.get?_push_of_some _ hb), rfl, rfl⟩
  refine wpAny_mono (wpAny_extend_seq (hsz := hsz) (A := A) (R := fun r s' => r = .ok (.ret (.ref s.heap.objs.size)) ∧ s' = { s with heap := (s.heap.push { cls := .type "list", data := .seq ([] : List Value).toArray }).update s.heap.objs.size (Obj.mapSeq (· ++ items)) })
    (s := { s with heap := s.heap.push { cls := .type "list", data := .seq ([] : List Value).toArray } }) _ it _ 0 hT hS (Heap.get?_push_of_some _ ho) hc hd ⟨rfl, rfl⟩) (fun fin s' h => ?_) (fun e s' h => ?_)
  · cases fin with
    | done f =>
      obtain ⟨e, rfl⟩ := h
      cases e
      exact fin'
    | again c' => exact ⟨h.1, codeAny_mono h.2 fun r s'' hr => by obtain ⟨rfl, rfl⟩ := hr; exact fin'⟩
  · exact absurd h.1 (by simp)
theorem raw_args {f : Value} {args : List (Bool × Sem Value)} {kws : List (Option Str × Sem Value)} {Q : Args → Shared → Prop} (hl : ∀ x, args ≠ [(true, x)])
    (h : wpAny (model prog w) A (spliced args) (fun vs s1 => (kws.all (·.1.isSome) = true ∧ wpAny (model prog w) A (evalAll (kws.map (·.2))) (fun ks s2 => Q ⟨vs, (kws.filterMap (·.1)).zip ks⟩ s2) E s1) ∨
      (kws.all (·.1.isSome) = false ∧ wpAny (model prog w) A (mergedKeywords f kws) (fun d s2 => wpAny (model prog w) A (keywordsIn f d) (fun kw s3 => Q ⟨vs, kw⟩ s3) E s2) E s1)) E s) :
    wpAny (model prog w) A (evalArgs f true args kws) Q E s := by
  have e : evalArgs f true args kws = evalArgs f false args kws := by
    rcases args with _ | ⟨⟨_ | _, x⟩, _ | _⟩ <;> first | rfl | exact absurd rfl (hl _)
  rw [e]
  unfold evalArgs
  dsimp only
  refine wpAny_bind (wpAny_mono h (fun vs s1 h1 => wpAny_bind (wpAny_pure ?_)) fun _ _ x => x)
  dsimp only
  refine wpAny_holding ?_
  rcases h1 with ⟨e1, h1⟩ | ⟨e1, h1⟩
  · simp only [e1, if_true]
    exact wpAny_bind (wpAny_mono h1 (fun ks s2 h2 => wpAny_bind (wpAny_pure (wpAny_pure h2))) fun _ _ x => x)
  · simp only [e1, Bool.false_eq_true, if_false]
    refine wpAny_bind (wpAny_mono h1 (fun d s2 h2 => ?_) fun _ _ x => x)
    refine wpAny_bind (wpAny_pure (wpAny_bind (wpAny_holding (wpAny_mono h2 (fun kw s3 h3 => wpAny_pure h3) fun _ _ x => x))))
theorem raw_callWith {pos : Pos} {f : Value} {first : List Value} {args : List (Bool × Sem Value)} {keywords : List (Option Str × Sem Value)} {Q : Value → Shared → Prop}
    (h : wpAny (model prog w) A (evalArgs f true args keywords) (fun a s₁ => (∃ k, (k = Keeper.frame ∨ k = Keeper.machine) ∧ Looks (model prog w) s₁.heap (keeperOf f) k) ∧ wpAny (model prog w) A (call f (first ++ a.pos) a.kw) Q E s₁) E s) :
    wpAny (model prog w) A (callWith pos f first args keywords) Q E s := by
  unfold callWith
  refine wpAny_bind (wpAny_holding (wpAny_mono h (fun a s₁ h₁ => wpAny_bind (wpAny_standAt ?_)) fun _ _ x => x))
  obtain ⟨⟨k, hk', L⟩, h₁⟩ := h₁
  refine wpAny_bind (L.here ?_)
  have tail : ∀ {t : Sem Value}, wpAny (model prog w) A t Q E s₁ → wpAny (model prog w) A (t >>= fun r => holding [r] point >>= fun _ => pure r) Q E s₁ :=
    fun ht => wpAny_bind (wpAny_mono ht (fun r s₂ hr => wpAny_bind (wpAny_holding (wpAny_point (wpAny_pure hr)))) fun _ _ x => x)
  have marked (mk : Value) : wpAny (model prog w) A (callMarked mk f (first ++ a.pos) a.kw) Q E s₁ := by unfold callMarked; exact Calls.wpAny_keep h₁
  generalize (args.any (·.1) || keywords.any (·.1.isNone)) = st
  rcases hk' with rfl | rfl <;> cases st <;> dsimp only
  · split
    · exact tail h₁
    · exact tail (marked _)
  · exact tail (marked _)
  · exact tail h₁
  · exact tail (wpAny_operating h₁)
theorem raw_Call {f : Expr} {args : List Expr} {kws : List Keyword} {pos : Pos} {Q : Value → Shared → Prop} (hna : ∀ o a p, f ≠ .Attribute o a p)
    (h : wpAny (model prog w) A (eval f env) (fun fv s₁ => wpAny (model prog w) A (callWith pos fv [] (backTo pos (starEach args env)) (backToKw pos (keywordEach kws env))) Q E s₁) E s) : wpAny (model prog w) A (eval (.Call f args kws pos) env) Q E s := by
  have e : eval (.Call f args kws pos) env = (do
      let fv ← eval f env
      callWith pos fv [] (backTo pos (starEach args env)) (backToKw pos (keywordEach kws env))) := by
    cases f <;> first | rfl | (exact absurd rfl (hna _ _ _))
  rw [e]
  exact wpAny_bind h
theorem raw_nsSet {d : Addr} {es : List DictEntry} {n : Nat} {k : Str} {v : Value} {Q : Unit → Shared → Prop} (hg : s.heap.get? d = some (dictOf es n)) (hr : es.any (·.refKey) = false) (hz : es.length ≤ 1000)
    (h : ∀ s', Up d s s' → s'.heap.get? d = some (dictOf (putL k (PyData.keyHash w.params k) (.str k s.toks) v es) (putN k es n)) → Q () s') :
    wpAny (model prog w) A (nsSet d k v) Q E s := by
  unfold nsSet
  refine wpAny_bind (wpAny_bind (wpAny_askSetting (wpAny_pure (wpAny_bind (wpAny_mkText (wpAny_bind (wpAny_loadPart hg ?_)))))))
  dsimp only
  have c : (!es.toArray.any (·.key.isStr k) && es.toArray.any (·.refKey)) = false := by
    have e : es.toArray.any (fun x => x.refKey) = es.any (·.refKey) := by simp
    rw [e, hr, Bool.and_false]
  rw [aRefKeyMayBeTheName_at, c]
  have hz' : (putL k (PyData.keyHash w.params k) (.str k s.toks) v es).length ≤ 1001 := by
    have : ∀ es : List DictEntry, (putL k (PyData.keyHash w.params k) (.str k s.toks) v es).length ≤ es.length + 1 := by
      intro es
      induction es with
      | nil => simp [putL]
      | cons e r ih => unfold putL; split <;> simp <;> omega
    have := this es
    omega
  have g' : (s.heap.update d (Obj.putName k (PyData.keyHash w.params k) (.str k s.toks) v)).get? d = some (dictOf (putL k (PyData.keyHash w.params k) (.str k s.toks) v es) (putN k es n)) := by
    rw [← putName_dict]
    exact Heap.get?_update_self _ hg (by rw [putName_dict]; rfl)
  refine wpAny_updatePart hg ?_
  exact h _ ⟨by simp [Heap.update], fun b o hb e => (Heap.get?_update_other _ _ (Ne.symm hb)).trans e, rfl, rfl⟩ g'
theorem raw_osa {x dx : Addr} {ox : Obj} {c : Addr} {es : List DictEntry} {n : Nat} {k : Str} {tk : Tok} {v : Value} {R : Result → Shared → Prop} (X : K.In s.heap) (I : W.InstAt s.heap x ox c (some (dictOf es n))) (hd : ox.dict = some dx)
    (hg : s.heap.get? dx = some (dictOf es n)) (C : ClsOk K c) (hn : findIn K (.ref c) k = some none) (hr : es.any (·.refKey) = false) (hz : es.length ≤ 1000)
    (h : ∀ s', Up dx s s' → s'.heap.get? dx = some (dictOf (putL k (PyData.keyHash w.params k) (.str k s.toks) v es) (putN k es n)) → R (.ok (.ret .none)) s') :
    codeAny (model prog w) A (.call (.builtin "object.__setattr__") ⟨[.ref x, .str k tk, v], []⟩) R s := by
  refine osa_open X I C.pl (r := none) (by unfold takerIn; rw [hn]; rfl) fun b => ?_
  obtain ⟨cd, hc, hd'⟩ := any_some C.hd
  obtain ⟨hx, hcl, hno, -⟩ := I
  obtain ⟨oc, odi, oda, osl⟩ := ox
  dsimp only at hcl hd
  subst hcl hd
  refine wpAny_bind (wpAny_pure (wpAny_bind (wpAny_bind (wpAny_loadPart hx (wpAny_bind ((looks_clsIn X hc).here ?_))))))
  rw [hd']
  refine wpAny_pure (a := some dx) (wpAny_bind (wpAny_pure (wpAny_bind ?_)))
  refine raw_nsSet hg hr hz fun s' u g => ?_
  have hz' : (putL k (PyData.keyHash w.params k) (.str k s.toks) v es).length ≤ 1001 := by
    have : ∀ es : List DictEntry, (putL k (PyData.keyHash w.params k) (.str k s.toks) v es).length ≤ es.length + 1 := by
      intro es
      induction es with
      | nil => simp [putL]
      | cons e r ih => unfold putL; split <;> simp <;> omega
    have := this es
    omega
  have pl : (dictOf (putL k (PyData.keyHash w.params k) (.str k s.toks) v es) (putN k es n)).data.pastItsLine = none := pastItsLine_dict (by rw [List.size_toArray, sizeLine_eq]; omega)
  refine wpAny_bind (wpAny_lookBehind g pl ?_)
  exact wpAny_pure (h _ u g)
theorem sub_plain {slice : Expr} {o i : Value} (h : ∀ a b c p, slice ≠ .Slice a b c p) : subscripted slice false o i = operate [o, i] (getItem o i) := by
  cases slice <;> first | rfl | (exact absurd rfl (h _ _ _ _))
theorem snd_addL {Q : Value → Shared → Prop} {l m : Addr} {xs ys : Array Value} (hl : s.heap.IsList l xs) (hm : s.heap.IsList m ys) (hsz : xs.size + ys.size ≤ sizeLine)
    (h : Q (.ref s.heap.objs.size) { s with heap := s.heap.push { cls := .type "list", data := .seq (xs ++ ys) } }) : wpAny (model prog w) A (binaryOp .Add (.ref l) (.ref m)) Q E s := by
  obtain ⟨⟨cls, dd, data, sl⟩, ho, hc, n, hd⟩ := id hl
  obtain ⟨⟨cls2, dd2, data2, sl2⟩, ho2, hc2, n2, hd2⟩ := id hm
  simp only at hc hd hc2 hd2
  subst hc hd hc2 hd2
  exact concat_meets ⟨_, ho, rfl⟩ ⟨_, ho2, rfl⟩ noFill_list_add seq_list_add PySem.F.slot_list_add PySem.F.entry_list_add (PySem.F.args_list_add_2 _ _) (list_addW l m xs ys n n2 dd dd2 sl sl2 hsz) ⟨ho, ho2, h⟩
noncomputable def isStar : Expr → Bool
  | .Starred _ _ => true
  | _ => false
noncomputable def notLone (as : List Expr) : Bool := as.map isStar != [true]
noncomputable def plainCall (as : List Expr) (ks : List Keyword) (ap pos : Pos) : Bool := (as.map isStar).all (!·) && ((ks.map (·.arg)).all (·.isSome) && (decide (as.length + ks.length < 20) && ap.endLine == pos.line))
theorem star_map {pos : Pos} {as : List Expr} : (backTo pos (starEach as env)).map (·.1) = as.map isStar := by
  induction as with
  | nil => rfl
  | cons e as ih => cases e <;> exact congrArg (_ :: ·) ih
theorem kw_map {pos : Pos} {ks : List Keyword} : (backToKw pos (keywordEach ks env)).map (·.1) = ks.map (·.arg) := by
  induction ks with
  | nil => rfl
  | cons e ks ih => obtain ⟨a, b, p⟩ := e; exact congrArg (a :: ·) ih
theorem plainCall_form {as : List Expr} {ks : List Keyword} {ap pos : Pos} (h : plainCall as ks ap pos = true) : methodCallForm (as.length + ks.length) (backTo pos (starEach as env)) (backToKw pos (keywordEach ks env)) = true ∧ (ap.endLine == pos.line) = true := by
  unfold plainCall at h
  rw [Bool.and_eq_true, Bool.and_eq_true, Bool.and_eq_true] at h
  obtain ⟨h1, h2, h3, h4⟩ := h
  rw [← star_map (env := env) (pos := pos), List.all_map] at h1
  rw [← kw_map (env := env) (pos := pos), List.all_map] at h2
  have h3 := of_decide_eq_true h3
  refine ⟨?_, h4⟩
  have e : as.length + ks.length + (if (backToKw pos (keywordEach ks env)).isEmpty then 0 else 1) < 30 := by split <;> omega
  show (((backTo pos (starEach as env)).all ((!·) ∘ (·.1)) && (backToKw pos (keywordEach ks env)).all ((·.isSome) ∘ (·.1))) && decide (as.length + ks.length + (if (backToKw pos (keywordEach ks env)).isEmpty then 0 else 1) < 30)) = true
  rw [h1, h2, decide_eq_true e]; rfl
theorem raw_methodCall {o : Expr} {name : Str} {apos pos : Pos} {args : List Expr} {kws : List Keyword} {Q : Value → Shared → Prop} (hn : noArgs o = false) (hp : plainCall args kws apos pos = true)
    (h : wpAny (model prog w) A (eval o env) (fun ov s₁ => ∀ pl, wpAny (model prog w) A (getMethod ov name pl) (fun fx s₂ => wpAny (model prog w) A (callWith pos fx.1 fx.2 (backTo pos (starEach args env)) (backToKw pos (keywordEach kws env))) Q E s₂) E s₁) E s) :
    wpAny (model prog w) A (eval (.Call (.Attribute o name apos) args kws pos) env) Q E s := by
  rw [PySem.arm_eval_Call, attributeBase_of hn]
  obtain ⟨h1, h2⟩ := plainCall_form (env := env) hp
  refine wpAny_bind (wpAny_mono h (fun ov s₁ h₁ => wpAny_bind (wpAny_standAt ?_)) fun _ _ x => x)
  unfold methodCall methodCallPos calleeOf
  rw [h1, h2]
  simp only [if_true, Bool.not_true, Bool.false_or]
  refine wpAny_bind (wpAny_holding (wpAny_mono (h₁ _) (fun fx s₂ h₂ => ?_) fun _ _ x => x))
  exact wpAny_bind (wpAny_pure h₂)
end
section
variable {c : Cx} {A : Around} {E : Value → Shared → Prop} {n : Nat} {sc : Scope} {a b e : Expr} {es : List Expr} {σ σ' σ'' : Sg} {v u : V} {vs : List V} {t : Bool} {pos : Pos} {ρ : Rho} {s s' : Shared} {fs : List Env} {os : List O} {x y : Value} {i : Nat} {l m : List V} {env : Env}
theorem handed (h : VR c ρ v x) : handedIn x = true := by
  cases v with
  | none => cases h; rfl
  | bool b => cases h; rfl
  | int i => obtain ⟨_, rfl⟩ := h; rfl
  | str n => obtain ⟨_, rfl⟩ := h; rfl
  | top a => cases h; rfl
  | bi b => cases h; cases b <;> decide +kernel
  | obj i => obtain ⟨_, _, rfl⟩ := h; rfl
  | scr => cases h; rfl
theorem e_att (G : Gd c) (k : Nat) {x : Str} {cl : Nat} {f : List (Nat × V)} (h : EvE c n sc a σ (.obj i) σ') (hn : c.nm k = x) (hi : σ'.os[i]? = some (.inst cl f)) (ha : c.P.att cl k = some .no) (hv : f.lookup k = some v) (ho : noArgs a = false := by rfl) : EvE c n sc (.Attribute a x pos) σ v σ' := by
  subst hn
  refine ⟨?_⟩; intro A env fs ρ s Q E eo cx p q
  refine raw_Attribute ho (h.r _ _ _ _ _ _ _ eo cx p fun ρ1 s1 y a1 r1 => ?_)
  obtain ⟨xa, d, o, es, kk, rfl, _, I, hd, _, _, hg, hr⟩ := inst_of a1.sr hi r1
  obtain ⟨y, hy, ry⟩ := (hr.look k).1 v hv
  have C := G.ck _ _ _ ha
  exact get_value (kin G a1.sr) I C.ga (findObj_own C.hd (G.no _ _ ha) rfl (by rw [lookIn_dict]; exact hy)) (handed ry) (q _ _ _ (a1.qu .tok) ry)
theorem l_nil : EvL c n sc [] σ [] σ := .mk fun _ _ _ _ _ _ _ _ _ _ p q => args_nil (q _ _ _ p.aft0 .nil)
theorem l_cons (h : EvE c n sc e σ v σ') (h2 : EvL c n sc es σ' vs σ'') (he : ∀ env, starEach (e :: es) env = (false, eval e env) :: starEach es env := by exact fun _ => rfl) : EvL c n sc (e :: es) σ (v :: vs) σ'' :=
  .mk fun _ _ _ _ _ _ _ _ eo cx p q => args_cons (h.r _ _ _ _ _ _ _ eo cx p fun _ _ _ a1 r1 => h2.r _ _ _ _ _ _ _ _ eo cx (p.next a1) fun _ _ _ a2 r2 => q _ _ _ (a1.trans a2) (.cons (a2.le.vr r1) r2)) (he _)
theorem star_of (sr : SR c fs ρ os s) (h : os[i]? = some (.tup l)) (rx : VR c ρ (.obj i) x) (hl : l.length < lim) {Q : List Value → Shared → Prop} (q : ∀ xs s', Qu s s' → VRs c ρ l xs → Q xs s') : StarOf (model c.prog c.w) A E x Q s := by
  obtain ⟨a, its, k, rfl, hg, hr⟩ := tup_of sr h rx
  unfold StarOf notIterableAtAll
  exact wpAny_bind (wpAny_specialOf ⟨_, hg, rfl⟩ PySem.F.slot_tuple_iter.lookup (wpAny_pure ⟨rfl, raw_collect (.inr rfl) hg rfl rfl (size_lim (by rw [hr.size]; exact hl)) fun s' u => q _ _ u hr⟩))
theorem l_star {p0 : Pos} (h : EvE c n sc e σ (.obj i) σ') (hi : σ'.os[i]? = some (.tup l)) (hl : l.length < lim) (h2 : EvL c n sc es σ' vs σ'') : EvL c n sc (.Starred e p0 :: es) σ (l ++ vs) σ'' := by
  refine ⟨?_⟩; intro A env fs ρ s Q E pos eo cx p q
  show wpAny _ _ (spliced ((true, (do let v ← eval e env; standAt pos; pure v)) :: backTo pos (starEach es env))) _ _ _
  refine ks_spliced (h.r _ _ _ _ _ _ _ eo cx p fun ρ1 s1 y a1 r1 => ?_)
  refine star_of a1.sr hi r1 hl fun xs s1' u rx => ?_
  exact h2.r _ _ _ _ _ _ _ _ eo cx ((p.next a1).qu u) fun ρ2 s2 ys a2 r2 => q _ _ _ ((a1.qu u).trans a2) ((a2.le.vrs rx).append r2)
theorem new_obj (p : Pre c fs env σ ρ s) {o : Obj} {o' : O} {t : Nat} (r : OR c (ρ ++ [(s.heap.objs.size, s.heap.objs.size)]) (s.heap.push o) o' (s.heap.objs.size, s.heap.objs.size)) :
    Aft c fs env ρ s ⟨σ.vs, σ.os ++ [o']⟩ (ρ ++ [(s.heap.objs.size, s.heap.objs.size)]) { s with heap := s.heap.push o, toks := t } ∧ VR c (ρ ++ [(s.heap.objs.size, s.heap.objs.size)]) (.obj σ.os.length) (.ref s.heap.objs.size) := by
  have hz : s.heap.objs.size < (s.heap.push o).objs.size := by rw [Heap.size_push]; exact Nat.lt_succ_self _
  obtain ⟨sr, le⟩ := p.sr.add (W := []) (Qu.push (o := o) (t := t)) ⟨Nat.le_refl _, Nat.le_refl _⟩ ⟨hz, hz⟩ r
  exact ⟨⟨le, sr, p.fr.mono le⟩, _, by rw [← p.sr.len, List.getElem?_concat_length], rfl⟩
theorem OR.newL {ys : List Value} (r : VRs c ρ l ys) : OR c (ρ ++ [(s.heap.objs.size, s.heap.objs.size)]) (s.heap.push { cls := .type "list", data := .seq ys.toArray }) (.list l) (s.heap.objs.size, s.heap.objs.size) := .list (its := ys.toArray) (Heap.get?_push_size _ rfl) r.pre
theorem OR.newT {ys : List Value} (r : VRs c ρ l ys) : OR c (ρ ++ [(s.heap.objs.size, s.heap.objs.size)]) (s.heap.push { cls := .type "tuple", data := .seq ys.toArray }) (.tup l) (s.heap.objs.size, s.heap.objs.size) := .tup (its := ys.toArray) (Heap.get?_push_size _ rfl) r.pre
theorem e_list (h : EvL c n sc es σ vs σ') (hl : vs.length < lim) : EvE c n sc (.List es pos) σ (.obj σ'.os.length) ⟨σ'.vs, σ'.os ++ [.list vs]⟩ :=
  .mk fun _ _ _ _ _ _ _ eo cx p q => List_ (h.r _ _ _ _ _ _ _ _ eo cx p fun _ s1 _ a1 r1 => wpAny_newList (have ⟨a2, r2⟩ := new_obj (p.next a1) (t := s1.toks) (.newL r1); q _ _ _ (a1.trans a2) r2) (size_lim (r1.len ▸ hl)))
theorem e_tup {ct} (h : EvL c n sc es σ vs σ') (hl : vs.length < lim) : EvE c n sc (.Tuple es ct pos) σ (.obj σ'.os.length) ⟨σ'.vs, σ'.os ++ [.tup vs]⟩ :=
  .mk fun _ _ _ _ _ _ _ eo cx p q => wpAny_Tuple_spliced (h.r _ _ _ _ _ _ _ _ eo cx p fun _ s1 _ a1 r1 => ⟨size_lim (r1.len ▸ hl), have ⟨a2, r2⟩ := new_obj (p.next a1) (t := s1.toks) (.newT r1); q _ _ _ (a1.trans a2) r2⟩)
theorem e_addL {j : Nat} (h1 : EvE c n sc a σ (.obj i) σ') (h2 : EvE c n sc b σ' (.obj j) σ'') (hi : σ''.os[i]? = some (.list l)) (hj : σ''.os[j]? = some (.list m)) (hl : (l ++ m).length < lim) : EvE c n sc (.BinOp a .Add b pos) σ (.obj σ''.os.length) ⟨σ''.vs, σ''.os ++ [.list (l ++ m)]⟩ := by
  refine ⟨?_⟩; intro A env fs ρ s Q E eo cx p q
  refine wpAny_BinOp (h1.r _ _ _ _ _ _ _ eo cx p fun ρ1 s1 y a1 r1 => h2.r _ _ _ _ _ _ _ eo cx (p.next a1) fun ρ2 s2 y2 a2 r2 => ?_)
  obtain ⟨a1', t1, _, rfl, _, i1, q1⟩ := list_of a2.sr hi (a2.le.vr r1)
  obtain ⟨a2', t2, _, rfl, _, i2, q2⟩ := list_of a2.sr hj r2
  refine snd_addL ⟨_, i1, rfl, _, rfl⟩ ⟨_, i2, rfl, _, rfl⟩ (size_lim (by rw [q1.size, q2.size, ← List.length_append]; exact hl)) ?_
  have a12 := a1.trans a2
  obtain ⟨a3, r3⟩ := new_obj (p.next a12) (o := { cls := .type "list", data := .seq (t1 ++ t2) }) (t := s2.toks) (.list (its := t1 ++ t2) (Heap.get?_push_size _ rfl) (by rw [Array.toList_append]; exact (q1.append q2).pre))
  exact q _ _ _ (a12.trans a3) r3
theorem lim63 {k n : Nat} (h : k < n) (hl : n < lim) : (k : Int) < 2 ^ 63 := Int.lt_trans (Int.ofNat_lt.mpr (Nat.lt_trans h hl)) (by decide)
theorem e_item {j : Nat} (h1 : EvE c n sc a σ (.obj i) σ') (h2 : EvE c n sc b σ' (.int j) σ'') (hi : σ''.os[i]? = some (.list l)) (hl : l.length < lim) (hv : l[j]? = some v) (hs : ∀ a d c p, b ≠ .Slice a d c p := by intros; intro h; cases h) : EvE c n sc (.Subscript a b pos) σ v σ'' := by
  refine ⟨?_⟩; intro A env fs ρ s Q E eo cx p q
  refine Subscript_ (h1.r _ _ _ _ _ _ _ eo cx p fun ρ1 s1 y a1 r1 => h2.r _ _ _ _ _ _ _ eo cx (p.next a1) fun ρ2 s2 y2 a2 ⟨tk, r2⟩ => ?_)
  subst r2
  obtain ⟨xa, its, kk, rfl, _, hg, hr⟩ := list_of a2.sr hi (a2.le.vr r1)
  obtain ⟨y, hy, ry⟩ := hr.get hv
  exact tail_any (T := "list") ⟨_, hg, rfl⟩ slot_list_getitem.lookup (wpAny_getItem_list (items := its) ⟨_, hg, rfl, _, rfl⟩ (Int.natCast_nonneg _) (lim63 (List.getElem?_eq_some_iff.mp hv).1 hl) (by rw [Int.toNat_natCast, ← Array.getElem?_toList]; exact hy) (q _ _ _ (a1.trans a2) ry)) (sub_plain hs)
theorem e_itemT {j : Nat} (h1 : EvE c n sc a σ (.obj i) σ') (h2 : EvE c n sc b σ' (.int j) σ'') (hi : σ''.os[i]? = some (.tup l)) (hl : l.length < lim) (hv : l[j]? = some v) (hs : ∀ a d c p, b ≠ .Slice a d c p := by intros; intro h; cases h) : EvE c n sc (.Subscript a b pos) σ v σ'' := by
  refine ⟨?_⟩; intro A env fs ρ s Q E eo cx p q
  refine Subscript_ (h1.r _ _ _ _ _ _ _ eo cx p fun ρ1 s1 y a1 r1 => h2.r _ _ _ _ _ _ _ eo cx (p.next a1) fun ρ2 s2 y2 a2 ⟨tk, r2⟩ => ?_)
  subst r2
  obtain ⟨xa, its, kk, rfl, hg, hr⟩ := tup_of a2.sr hi (a2.le.vr r1)
  obtain ⟨y, hy, ry⟩ := hr.get hv
  have hj := (List.getElem?_eq_some_iff.mp hv).1
  refine tail_any (T := "tuple") ⟨_, hg, rfl⟩ slot_tuple_getitem.lookup (getItem_tuple (items := its) ⟨_, hg, rfl, _, rfl⟩ (Int.le_trans (by decide) (Int.natCast_nonneg _)) (lim63 hj hl) (j := j) ?_ (by rw [← Array.getElem?_toList]; exact hy) (q _ _ _ (a1.trans a2) ry)) (sub_plain hs)
  unfold seqIndex?
  rw [hr.size]
  simp only [if_neg (Int.not_lt.mpr (Int.natCast_nonneg j))]
  rw [if_pos (by simpa using hj), Int.toNat_natCast]
end
end Rw
namespace Rw
open PySem PySem.W PySem.Calls PyProof.Rows
section
variable {prog : Program} {w : World} {A : Around} {E : Value → Shared → Prop} {s s' s'' : Shared}
theorem raw_forIn {α β : Type} {f : α → β → Sem (ForInStep β)} {Q : β → Shared → Prop} (I : List α → β → Shared → Prop) (hs : ∀ x r b s, I (x :: r) b s → wpAny (model prog w) A (f x b) (fun y s' => ∃ b', y = .yield b' ∧ I r b' s') E s)
    (q : ∀ b s, I [] b s → Q b s) : ∀ (l : List α) (b : β) (s : Shared), I l b s → wpAny (model prog w) A (forIn l b f) Q E s
  | [], b, s, h => by rw [List.forIn_nil]; exact wpAny_pure (q _ _ h)
  | x :: r, b, s, h => by
    rw [List.forIn_cons]
    refine wpAny_bind (wpAny_mono (hs x r b s h) (fun y s' hy => ?_) fun _ _ x => x)
    obtain ⟨b', rfl, h'⟩ := hy
    exact raw_forIn I hs q r b' s' h'
theorem raw_mergeMapping {d a : Addr} {es : List DictEntry} {k k0 : Nat} {Q : Unit → Shared → Prop} (ha : s.heap.get? a = some (dictOf es k)) (hd : s.heap.get? d = some (dictOf [] k0)) (hne : a ≠ d) (hs : a ≠ sysModules)
    (hk : ∀ e ∈ es, ∃ x t, e.key = .str x t) (hn : es.Pairwise (fun e e' => ∀ z, e'.key.isStr z = true → e.key.isStr z = false)) (hz : es.length ≤ 100)
    (q : ∀ s', Up d s s' → (∃ k', s'.heap.get? d = some (dictOf es k')) → Q () s') : wpAny (model prog w) A (mergeMapping d (.ref a) true) Q E s := by
  have TA : s.TypeIs (.ref a) "dict" := ⟨_, ha, rfl⟩
  unfold mergeMapping
  refine wpAny_bind (wpAny_isInstance TA (b := true) (by rw [isSubtype_type]; kernel_rfl) ?_)
  dsimp only
  rw [if_pos rfl]
  refine wpAny_bind (wpAny_specialOf TA PySem.F.slot_dict_iter.lookup ?_)
  refine wpAny_bind (wpAny_pure ?_)
  have e1 : ((some (Value.builtin "dict.__iter__")) == some (Value.builtin "dict.__iter__")) = true := by simp
  rw [e1]
  dsimp only
  rw [if_neg (by simpa using hs)]
  refine wpAny_bind (wpAny_dictEntries hd rfl ?_)
  rw [if_pos (show (#[] : Array DictEntry).isEmpty = true from rfl)]
  refine wpAny_bind (wpAny_dictEntries ha rfl ?_)
  rw [← Array.forIn_toList]
  refine wpAny_bind (raw_forIn (fun l _ s1 => s1 = s ∧ ∀ e ∈ l, e ∈ es) (fun x r b s1 hx => ?_) (fun b s1 hx => ?_) _ _ _ ⟨rfl, fun e he => by simpa using he⟩)
  · obtain ⟨y, t, hy⟩ := hk x (hx.2 _ (.head _))
    rw [hy]
    exact wpAny_pure ⟨_, rfl, hx.1, fun e he => hx.2 e (.tail _ he)⟩
  obtain ⟨rfl, -⟩ := hx
  refine wpAny_bind (wpAny_dictEntries ha rfl ?_)
  refine wpAny_bind (wpAny_dictEpoch ha rfl ?_)
  rw [List.size_toArray]
  refine wpAny_bind (raw_forIn (fun l _ s2 => ∃ i, l = List.range' i (es.length - i) ∧ i ≤ es.length ∧ Up d s1 s2 ∧ ∃ k', s2.heap.get? d = some (dictOf (es.take i) k')) (fun x r b s2 hx => ?_) (fun b s2 hx => ?_) _ _ _ ⟨0, by rw [List.range_eq_range']; rfl, Nat.zero_le _, ⟨Nat.le_refl _, fun _ _ _ h => h, rfl, rfl⟩, _, hd⟩)
  · obtain ⟨i, hl, hi, U, k', hd'⟩ := hx
    have hlt : i < es.length := by
      have := congrArg List.length hl
      simp at this; omega
    have hl' : x :: r = i :: List.range' (i + 1) (es.length - (i + 1)) := by
      rw [hl, show es.length - i = (es.length - (i + 1)) + 1 by omega, List.range'_succ]
    cases hl'
    have ha' := U.keep _ _ hne ha
    refine wpAny_bind (wpAny_dictEntries ha' rfl ?_)
    rw [List.getElem?_toArray, List.getElem?_eq_getElem hlt]
    dsimp only
    obtain ⟨y, t, hy⟩ := hk es[x] (List.getElem_mem hlt)
    have hnone : (es.take x).toArray.findIdx? (fun e => e.key.isStr y) = none := by
      rw [Array.findIdx?_eq_none_iff]
      intro e he
      have he' : e ∈ es.take x := by simpa using he
      obtain ⟨j, hj, rfl⟩ := List.mem_iff_getElem.mp he'
      have hj' : j < x := by simp at hj; omega
      rw [List.getElem_take]
      exact (List.pairwise_iff_getElem.mp hn) j x (by omega) hlt hj' y (by rw [hy]; exact beq_self_eq_true y)
    have hall : ((es.take x).toArray.all fun e => isExactStrKey e.key) = true := by
      rw [Array.all_eq_true']
      intro e he
      obtain ⟨y, t, hy⟩ := hk e (List.mem_of_mem_take (by simpa using he))
      rw [hy]; rfl
    refine wpAny_bind (wpAny_holding ?_)
    rw [if_pos rfl, hy]
    refine wpAny_bind (KTD.kt_dictFind_strs hd' rfl hall ?_)
    rw [hnone]
    rw [if_neg (by simp)]
    unfold dictPut
    refine wpAny_bind (KTD.kt_dictFind_strs hd' rfl hall ?_)
    rw [hnone]
    dsimp only
    refine wpAny_updateDictKeys hd' rfl ?_ (by rw [List.size_toArray]; have : sizeLine = 2 ^ 24 := rfl; have := List.length_take_le x es; omega) (by simp)
    have ed : (⟨es[x].hash, .str y t, es[x].val⟩ : DictEntry) = es[x] := by rw [← hy]
    have hU : Up d s1 { s2 with heap := s2.heap.update d (Obj.mapDictKeys (·.push ⟨es[x].hash, .str y t, es[x].val⟩)) } :=
      ⟨by simp [Heap.update]; exact U.sz, fun b o hb e => (Heap.get?_update_other _ _ (Ne.symm hb)).trans (U.keep b o hb e), U.os, U.gens⟩
    refine wpAny_bind (wpAny_dictEpoch (hU.keep _ _ hne ha) rfl ?_)
    rw [if_neg (by simp)]
    refine wpAny_pure ⟨_, rfl, x + 1, rfl, hlt, hU, k' + 1, ?_⟩
    refine (Heap.get?_update_self _ hd' rfl).trans ?_
    rw [ed]
    show some (⟨.type "dict", none, .dict ((es.take x).toArray.push es[x]) (k' + 1), _⟩ : Obj) = _
    have : (es.take x).toArray.push es[x] = (es.take (x + 1)).toArray := by
      rw [List.take_succ_eq_append_getElem hlt]; simp
    rw [this]
  · obtain ⟨i, hl, hi, U, k', hd'⟩ := hx
    have : i = es.length := by
      have := congrArg List.length hl
      simp at this; omega
    subst this
    rw [List.take_length] at hd'
    exact wpAny_pure (q _ U ⟨_, hd'⟩)
theorem raw_mergedKeywords {f : Value} {x : Sem Value} {Q : Addr → Shared → Prop} {pos : Pos}
    (h : wpAny (model prog w) A x (fun m s2 => ∃ a es k k0, m = .ref a ∧ s2.heap.get? a = some (dictOf es k) ∧ s2.heap.get? s.heap.objs.size = some (dictOf [] k0) ∧ a ≠ s.heap.objs.size ∧ a ≠ sysModules ∧ (∀ e ∈ es, ∃ x t, e.key = .str x t) ∧
      es.Pairwise (fun e e' => ∀ z, e'.key.isStr z = true → e.key.isStr z = false) ∧ es.length ≤ 100 ∧ ∀ s3, Up s.heap.objs.size s2 s3 → (∃ k', s3.heap.get? s.heap.objs.size = some (dictOf es k')) → Q s.heap.objs.size s3) E { s with heap := s.heap.push (dictOf [] 0) }) :
    wpAny (model prog w) A (mergedKeywords f [(none, do let v ← x; standAt pos; pure v)]) Q E s := by
  unfold mergedKeywords
  refine wpAny_bind (wpAny_alloc ?_)
  refine wpAny_bind (wpAny_holding ?_)
  dsimp only
  rw [List.forIn_cons]
  refine wpAny_bind (wpAny_bind ?_)
  rw [if_pos (show ([] : List (Str × Sem Value)).isEmpty = true from rfl)]
  dsimp only
  refine wpAny_bind (wpAny_pure ?_)
  refine wpAny_bind (wpAny_bind (wpAny_mono h (fun m s2 h2 => wpAny_bind (wpAny_standAt (wpAny_pure ?_))) fun _ _ x => x))
  obtain ⟨a, es, k, k0, rfl, h1, h2, h3, h4, h5, h6, h7, h8⟩ := h2
  refine wpAny_bind (wpAny_onRaise (wpAny_holding (wpAny_tryCatch (wpAny_onRaise (raw_mergeMapping h1 h2 h3 h4 h5 h6 h7 fun s3 u g => ?_)))))
  refine wpAny_pure ?_
  dsimp only
  rw [List.forIn_nil]
  refine wpAny_pure ?_
  rw [if_pos (show ([] : List (Str × Sem Value)).isEmpty = true from rfl)]
  exact wpAny_pure (wpAny_pure (h8 _ u g))
theorem raw_keywordsIn {f : Value} {d : Addr} {es : List DictEntry} {k : Nat} {Q : List (Str × Value) → Shared → Prop} (hd : s.heap.get? d = some (dictOf es k)) (F : DictEntry → Str × Value) (hk : ∀ e ∈ es, ∃ t, e.key = .str (F e).1 t ∧ (F e).2 = e.val)
    (q : Q (es.map F) s) : wpAny (model prog w) A (keywordsIn f d) Q E s := by
  unfold keywordsIn
  refine wpAny_bind (wpAny_dictEntries hd rfl ?_)
  rw [← Array.forIn_toList]
  refine wpAny_bind (raw_forIn (fun l b s1 => s1 = s ∧ ∃ pre, es = pre ++ l ∧ b = pre.map F) (fun x r b s1 hx => ?_) (fun b s1 hx => ?_) _ _ _ ⟨rfl, [], rfl, rfl⟩)
  · obtain ⟨rfl, pre, rfl, rfl⟩ := hx
    obtain ⟨t, h1, h2⟩ := hk x (by simp)
    rw [h1]
    exact wpAny_pure ⟨_, rfl, rfl, pre ++ [x], by simp, by simp [h2.symm]⟩
  · obtain ⟨rfl, pre, rfl, rfl⟩ := hx
    simp at q
    exact wpAny_pure q
end
section
variable (c : Cx)
noncomputable def EvK (n : Nat) (sc : Scope) (kws : List Keyword) (σ : Sg) (kv : List (Nat × V)) (σ' : Sg) : Prop :=
  (∀ pos env, ((backToKw pos (keywordEach kws env)).all (·.1.isSome)) = true) ∧
  ∀ A env fs ρ s (Q : List Value → Shared → Prop) E pos, EnvOk sc env → Ctx A fs n → Pre c fs env σ ρ s → (∀ ρ' s' ys, Aft c fs env ρ s σ' ρ' s' → KR c ρ' kv (((backToKw pos (keywordEach kws env)).filterMap (·.1)).zip ys) → Q ys s') →
    wpAny (model c.prog c.w) A (evalAll ((backToKw pos (keywordEach kws env)).map (·.2))) Q E s
structure EvA (n : Nat) (sc : Scope) (as : List Expr) (kws : List Keyword) (σ : Sg) (vs : List V) (kv : List (Nat × V)) (σ' : Sg) : Prop where
  r : ∀ A env fs ρ s (Q : Args → Shared → Prop) E pos f, EnvOk sc env → Ctx A fs n → Pre c fs env σ ρ s → (∀ ρ' s' a, Aft c fs env ρ s σ' ρ' s' → VRs c ρ' vs a.pos → KR c ρ' kv a.kw → Q a s') →
    wpAny (model c.prog c.w) A (evalArgs f true (backTo pos (starEach as env)) (backToKw pos (keywordEach kws env))) Q E s
noncomputable def callable : V → Bool
  | .top a => c.P.cal a
  | .bi _ => true
  | _ => false
end
section
variable {c : Cx} {A : Around} {E : Value → Shared → Prop} {n : Nat} {sc : Scope} {a b e : Expr} {es as : List Expr} {kws : List Keyword} {σ σ' σ'' : Sg} {v u : V} {vs : List V} {kv : List (Nat × V)} {t : Bool} {pos ap : Pos} {ρ : Rho} {s s' : Shared} {fs : List Env} {os os' : List O} {x y : Value} {i : Nat} {l m : List V} {env : Env}
theorem k_nil : EvK c n sc [] σ [] σ := ⟨fun _ _ => rfl, fun _ _ _ _ _ _ _ _ _ _ p q => wpAny_pure (q _ _ _ p.aft0 .nil)⟩
theorem k_cons (k : Nat) {kn : Str} {p0 : Pos} (hn : c.nm k = kn) (h : EvE c n sc e σ v σ') (h2 : EvK c n sc kws σ' kv σ'') : EvK c n sc (⟨some kn, e, p0⟩ :: kws) σ ((k, v) :: kv) σ'' := by
  subst hn
  refine ⟨fun pos env => (Bool.and_eq_true _ _).mpr ⟨rfl, h2.1 pos env⟩, fun A env fs ρ s Q E pos eo cx p q => ?_⟩
  show wpAny _ _ (evalAll ((do let v ← eval e env; standAt pos; pure v) :: (backToKw pos (keywordEach kws env)).map (·.2))) _ _ _
  unfold evalAll
  exact wpAny_bind (wpAny_bind (h.r _ _ _ _ _ _ _ eo cx p fun ρ1 s1 y a1 r1 => wpAny_bind (wpAny_standAt (wpAny_pure (wpAny_bind (wpAny_holding (h2.2 _ _ _ _ _ _ _ _ eo cx (p.next a1) fun ρ2 s2 ys a2 r2 => wpAny_pure (q _ _ _ (a1.trans a2) (.cons (a2.le.vr r1) r2)))))))))
theorem lone_of (h : notLone as = true) {x : Sem Value} : backTo pos (starEach as env) ≠ [(true, x)] := fun e => by
  have := congrArg (List.map (·.1)) e
  rw [star_map] at this
  exact bne_iff_ne.mp h this
theorem a_kw (hl : notLone as = true) (h : EvL c n sc as σ vs σ') (k : EvK c n sc kws σ' kv σ'') : EvA c n sc as kws σ vs kv σ'' :=
  .mk fun _ _ _ _ _ _ _ _ _ eo cx p q => raw_args (fun _ => lone_of hl) (h.r _ _ _ _ _ _ _ _ eo cx p fun _ _ _ a1 r1 => .inl ⟨k.1 _ _, k.2 _ _ _ _ _ _ _ _ eo cx (p.next a1) fun _ _ _ a2 r2 => q _ _ _ (a1.trans a2) (a2.le.vrs r1) r2⟩)
theorem a_pos (hl : notLone as = true) (h : EvL c n sc as σ vs σ') : EvA c n sc as [] σ vs [] σ' := a_kw hl h k_nil
theorem EntR.keys {ns : List Nat} {es : List DictEntry} (e : EntR c ρ ns l es) : ∀ x ∈ es, ∃ m ∈ ns, ∃ t, x.key = .str (c.nm m) t := by
  induction e with
  | nil => exact fun _ h => nomatch h
  | cons _ _ ih =>
    intro x hx
    rcases List.mem_cons.mp hx with rfl | hx
    · exact ⟨_, .head _, _, rfl⟩
    · obtain ⟨m, hm, t, e⟩ := ih x hx
      exact ⟨m, .tail _ hm, t, e⟩
theorem EntR.pw {ns : List Nat} {es : List DictEntry} (e : EntR c ρ ns l es) (hn : ns.Nodup) : es.Pairwise (fun e e' => ∀ z, e'.key.isStr z = true → e.key.isStr z = false) := by
  induction e with
  | nil => exact .nil
  | @cons m v x t ns l es a b ih =>
    obtain ⟨h1, h2⟩ := List.nodup_cons.mp hn
    refine .cons (fun e' he' z hz => ?_) (ih h2)
    obtain ⟨m', hm', t', e⟩ := b.keys e' he'
    rw [e] at hz
    obtain ⟨t'', e''⟩ := KTD.kt_isStr hz
    cases e''
    show (Value.str (c.nm m) t).isStr (c.nm m') = false
    rw [is_str]
    exact beq_eq_false_iff_ne.mpr fun q => h1 (q ▸ hm')
noncomputable def keyOf (e : DictEntry) : Str × Value := (match e.key with | .str x _ => x | _ => ("" : Str), e.val)
theorem EntR.kr {ns : List Nat} {es : List DictEntry} (e : EntR c ρ ns l es) : KR c ρ (ns.zip l) (es.map keyOf) := by
  induction e with
  | nil => exact .nil
  | cons a _ ih => exact .cons a ih
theorem SR.nofr (sr : SR c fs ρ os s) {n : Nat} (h : s.heap.objs.size ≤ n) : n ∉ frA fs := fun hf => by
  obtain ⟨env', he, hf⟩ := List.mem_filterMap.mp hf
  obtain ⟨_, L, o, f, _, e, _⟩ := sr.ff env' he
  rw [f] at hf; cases hf
  exact absurd (Heap.lt_size e) (Nat.not_lt.mpr h)
theorem a_dict (G : Gd c) {ns : List Nat} {ep : Pos} (hl : notLone as = true) (h : EvL c n sc as σ vs σ') (h2 : EvE c n sc e σ' (.obj i) σ'') (hi : σ''.os[i]? = some (.dict ns l)) (hn : ns.Nodup) (hz : ns.length ≤ 100) : EvA c n sc as [⟨none, e, ep⟩] σ vs (ns.zip l) σ'' := by
  refine ⟨?_⟩; intro A env fs ρ s Q E pos f eo cx p q
  refine raw_args (fun _ => lone_of hl) (h.r _ _ _ _ _ _ _ _ eo cx p fun ρ1 s1 ys a1 r1 => .inr ⟨rfl, ?_⟩)
  show wpAny _ _ (mergedKeywords f [(none, do let v ← eval e env; standAt pos; pure v)]) _ _ _
  have p1 := p.next a1
  have u0 : Qu s1 { s1 with heap := s1.heap.push (dictOf [] 0) } := Qu.push (t := s1.toks)
  have hd0 : (s1.heap.push (dictOf [] 0)).get? s1.heap.objs.size = some (dictOf [] 0) := Heap.get?_push_size _ rfl
  have od0 : off c ρ1 s1.heap.objs.size := p1.sr.off_top (Nat.le_refl _)
  have nf := p1.sr.nofr (Nat.le_refl _)
  refine raw_mergedKeywords (h2.r _ _ _ _ _ _ _ eo cx (p1.qu u0) fun ρ2 s2 y a2 r2 => ?_)
  obtain ⟨⟨xa, xd⟩, hp, rfl⟩ := r2
  obtain ⟨p', hp', hr⟩ := a2.sr.ob i _ hi
  rw [hp] at hp'; cases hp'
  cases hr with
  | dict g1 g2 =>
  have od : off c ρ2 s1.heap.objs.size := off_le a2.le od0 (Heap.lt_size hd0)
  have gd : s2.heap.get? s1.heap.objs.size = some (dictOf [] 0) := a2.le.keep _ _ hd0 od0 List.not_mem_nil nf
  refine ⟨_, _, _, 0, rfl, g1, gd, od.1 _ (mem2 hp), fun e => absurd (a2.sr.lo _ (mem2 hp)) (Nat.not_le.mpr (Nat.lt_of_le_of_lt (Nat.le_of_eq e) G.sm)), fun e he => let ⟨m, _, t, q⟩ := g2.keys e he; ⟨_, t, q⟩, g2.pw hn, by rw [g2.len]; exact hz, fun s3 u ⟨k', g⟩ => ?_⟩
  refine raw_keywordsIn g keyOf (fun e he => let ⟨m, _, t, q⟩ := g2.keys e he; ⟨t, by unfold keyOf; rw [q], rfl⟩) ?_
  have sr3 := a2.sr.upd u gd (tame_dict rfl) p1.sr.osz (fun h => absurd h nf) rfl fun i o hi => .inl ⟨hi, fun q hq => od.1 q (mem2 hq)⟩
  have le3 : Le c [] fs ρ1 s1 ρ2 s3 := (u0.le.trans a2.le).fresh u.leW fun x hx => Nat.le_of_eq (List.mem_singleton.mp hx).symm
  exact q _ _ _ ⟨a1.le.trans le3, sr3, a2.fr.monoW u.leW (fs := fs) fun b hb hm => absurd (a1.fr.nof _ hb).2 (by rw [List.mem_singleton.mp hm]; exact Nat.lt_irrefl _)⟩ (le3.vrs r1) g2.kr
theorem keeper_of (G : Gd c) (X : c.K.In s.heap) (h : callable c v = true) (r : VR c ρ v x) : ∃ k, (k = Keeper.frame ∨ k = Keeper.machine) ∧ Looks (model c.prog c.w) s.heap (keeperOf x) k := by
  cases v with
  | top a => cases r; exact looks_keep (G.kp _ h) X
  | bi b => cases r; cases b <;> exact ⟨.machine, .inr rfl, Looks.now⟩
  | _ => cases h
theorem f_top {f : Nat} (h : EvC c n f vs kv os v os') : EvF c n (.top f) vs kv os v os' := fun _ _ _ _ _ _ _ _ _ cx sr nf rf rv rk q => by
  cases rf
  exact wpAny_call (h _ _ _ _ _ _ _ cx sr nf rv rk q)
theorem e_call (G : Gd c) (hf : EvE c n sc a σ u σ') (ha : EvA c n sc as kws σ' vs kv σ'') (hc : callable c u = true) (h : EvF c n u vs kv σ''.os v os') (hna : ∀ o a' p, a ≠ .Attribute o a' p := by intros; intro h; cases h) : EvE c n sc (.Call a as kws pos) σ v ⟨σ''.vs, os'⟩ :=
  .mk fun _ _ _ _ _ _ _ eo cx p q => raw_Call hna (hf.r _ _ _ _ _ _ _ eo cx p fun _ _ _ a1 r1 => raw_callWith (ha.r _ _ _ _ _ _ _ _ _ eo cx (p.next a1) fun _ _ _ a2 r2 k2 => ⟨keeper_of G (kin G a2.sr) hc (a2.le.vr r1),
    h _ _ _ _ _ _ _ _ _ cx a2.sr p.nf (a2.le.vr r1) r2 k2 fun _ _ _ le sr ry => q _ _ _ ((a1.trans a2).trans ⟨le, sr, a2.fr.mono le⟩) ry⟩))
theorem e_meth (G : Gd c) (k : Nat) {cl g : Nat} {f : List (Nat × V)} {name : Str} (ho : EvE c n sc a σ (.obj i) σ') (hn : c.nm k = name) (hi : σ'.os[i]? = some (.inst cl f)) (hm : c.P.att cl k = some (.fn g)) (hl : f.lookup k = none) (hc : c.P.cal g = true)
    (ha : EvA c n sc as kws σ' vs kv σ'') (h : EvC c n g (.obj i :: vs) kv σ''.os v os') (hp : plainCall as kws ap pos = true) (hno : noArgs a = false := by rfl) : EvE c n sc (.Call (.Attribute a name ap) as kws pos) σ v ⟨σ''.vs, os'⟩ := by
  subst hn
  refine .mk fun _ _ _ _ _ _ _ eo cx p q => raw_methodCall hno hp (ho.r _ _ _ _ _ _ _ eo cx p fun _ _ _ a1 r1 pl => ?_)
  obtain ⟨xa, d, o, es, kk, rfl, _, I, hd, _, _, hg, hr⟩ := inst_of a1.sr hi r1
  have C := G.ck _ _ _ hm
  obtain ⟨h1, h2⟩ := G.fnm _ _ _ hm
  refine method_fn (kin G a1.sr) I C.ga C.gt h1 h2 (by unfold shadowIn; simp only [lookIn_dict]; rw [(hr.look k).2 hl]; rfl) ?_
  exact raw_callWith (ha.r _ _ _ _ _ _ _ _ _ eo cx (p.next a1) fun _ _ _ a2 r2 k2 => ⟨looks_keep (G.kp _ hc) (kin G a2.sr), wpAny_call (h _ _ _ _ _ _ _ cx a2.sr p.nf (.cons (a2.le.vr r1) r2) k2 fun _ _ _ le sr ry => q _ _ _ ((a1.trans a2).trans ⟨le, sr, a2.fr.mono le⟩) ry)⟩)
end
end Rw
namespace Rw
open PySem PySem.W PySem.Calls PyProof.Rows
theorem runs_size {M : Model} {Γ : PySem.Ctx} {p : Pos} {t : Sem Fin} {fs : List Frame} {s s' : Shared} {e : End} (h : Runs M Γ p t fs s e s') : s.heap.objs.size ≤ s'.heap.objs.size := by
  induction h <;> (try simp only [Shared.setGen, Heap.size_after_update, Heap.size_push] at *) <;> omega
theorem wakes_size {M : Model} {Γ : PySem.Ctx} {p : Pos} {g : Nat} {r : Resume} {s s' : Shared} {res : GenResult} (h : Wakes M Γ p g r s res s') : s.heap.objs.size ≤ s'.heap.objs.size := by
  unfold Wakes at h
  split at h
  · exact h.elim
  · split at h
    · obtain ⟨e₁, s₁, hr, _, _, rfl⟩ := h; exact (runs_size hr : (s.setGen g .running).heap.objs.size ≤ s₁.heap.objs.size)
    · rw [h.2]; exact Nat.le_refl _
    · rw [h.2]; exact Nat.le_refl _
  · obtain ⟨e₁, s₁, hr, _, _, rfl⟩ := h; exact (runs_size hr : (s.setGen g .running).heap.objs.size ≤ s₁.heap.objs.size)
  · rw [h.2]; exact Nat.le_refl _
  · rw [h.2]; exact Nat.le_refl _
theorem wp_size {α : Type} (M : Model) (Γ : PySem.Ctx) (n : Nat) (t : Sem α) : ∀ (Q : α → Pos → Shared → Prop) (E : Value → Pos → Shared → Prop) (p : Pos) (s : Shared), n ≤ s.heap.objs.size → Sem.wp M Γ t Q E p s →
    Sem.wp M Γ t (fun a p' s' => n ≤ s'.heap.objs.size ∧ Q a p' s') (fun e p' s' => n ≤ s'.heap.objs.size ∧ E e p' s') p s := by
  induction t with
  | pure a => intro Q E p s hn h; exact ⟨hn, h⟩
  | raise e => intro Q E p s hn h; exact ⟨hn, h⟩
  | unsupported _ => intro Q E p s _ h; exact h
  | finish _ => intro Q E p s _ h; exact h
  | rule _ k ih => intro Q E p s hn h; exact ih () Q E p s hn h
  | «at» p' k ih => intro Q E p s hn h; exact ih () Q E p' s hn h
  | load a _ k ih => intro Q E p s hn h; obtain ⟨o, ho, h⟩ := h; exact ⟨o, ho, ih o Q E p s hn h⟩
  | update a _ f k ih => intro Q E p s hn h; exact ⟨h.1, ih () Q E p _ (by simpa using hn) h.2⟩
  | loadIfAlive a k ih => intro Q E p s hn h; exact ih _ Q E p s hn h
  | point _ k ih => intro Q E p s hn h; exact ih () Q E p s hn h
  | register _ _ => intro Q E p s _ h; exact h
  | alloc o k ih => intro Q E p s hn h; exact ih _ Q E p _ (by simp [Heap.size_push]; omega) h
  | fresh k ih => intro Q E p s hn h; exact ih _ Q E p _ hn h
  | ask k ih => intro Q E p s hn h; exact ih _ Q E p s hn h
  | choose src m k ih => intro Q E p s hn h; exact ⟨h.1, ih _ Q E p _ hn h.2⟩
  | os q _ k ih => intro Q E p s hn h; exact ih _ Q E p _ hn h
  | call c hd _ _ k ih => intro Q E p s hn h; obtain ⟨r, s', hr, h⟩ := h; exact ⟨r, s', hr, ih r Q E p s' (Nat.le_trans hn (runs_size hr)) h⟩
  | handled own k ih => intro Q E p s hn h; exact ih _ Q E p s hn h
  | genState g k ih => intro Q E p s hn h; obtain ⟨st, hs, h⟩ := h; exact ⟨st, hs, ih _ Q E p s hn h⟩
  | newGen c k ih => intro Q E p s hn h; exact ih _ Q E p _ hn h
  | resume g r _ k ih => intro Q E p s hn h; obtain ⟨res, s', hw, h⟩ := h; exact ⟨res, s', hw, ih res Q E p s' (Nat.le_trans hn (wakes_size hw)) h⟩
  | yield _ _ _ _ => intro Q E p s _ h; exact h
  | stack k ih => intro Q E p s hn h; exact ih _ Q E p s hn h
  | fork _ _ => intro Q E p s _ h; exact h
  | thread k ih => intro Q E p s hn h; exact ih _ Q E p s hn h
  | await _ _ _ _ _ => intro Q E p s _ h; exact h
theorem with_size {α : Type} {M : Model} {A : Around} {s : Shared} {t : Sem α} {Q : α → Shared → Prop} {E : Value → Shared → Prop}
    (h : wpAny M A t (fun a s' => s.heap.objs.size ≤ s'.heap.objs.size → Q a s') (fun e s' => s.heap.objs.size ≤ s'.heap.objs.size → E e s') s) : wpAny M A t Q E s :=
  wpAny_mono (fun Γ p hΓ => wp_size M Γ s.heap.objs.size t _ _ p s (Nat.le_refl _) (h Γ p hΓ) : wpAny M A t (fun a s' => s.heap.objs.size ≤ s'.heap.objs.size ∧ (s.heap.objs.size ≤ s'.heap.objs.size → Q a s')) (fun e s' => s.heap.objs.size ≤ s'.heap.objs.size ∧ (s.heap.objs.size ≤ s'.heap.objs.size → E e s')) s)
    (fun _ _ x => x.2 x.1) (fun _ _ x => x.2 x.1)
section
variable {c : Cx} {A : Around} {E : Value → Shared → Prop} {n : Nat} {v u : V} {vs : List V} {t : Bool} {ρ : Rho} {s s' : Shared} {fs : List Env} {os os' : List O} {vs' : List Value} {x y : Value} {i j k : Int} {a : Nat} {l m : List V}
theorem VRs.one (h : VRs c ρ [v] vs') : ∃ x, vs' = [x] ∧ VR c ρ v x := by cases h with | cons a b => cases b; exact ⟨_, rfl, a⟩
theorem VRs.two (h : VRs c ρ [v, u] vs') : ∃ x y, vs' = [x, y] ∧ VR c ρ v x ∧ VR c ρ u y := by cases h with | cons a b => obtain ⟨y, rfl, r⟩ := b.one; exact ⟨_, _, rfl, a, r⟩
theorem VRs.three {z : V} (h : VRs c ρ [v, u, z] vs') : ∃ x y w, vs' = [x, y, w] ∧ VR c ρ v x ∧ VR c ρ u y ∧ VR c ρ z w := by cases h with | cons a b => obtain ⟨y, w, rfl, r⟩ := b.two; exact ⟨_, _, _, rfl, a, r⟩
theorem KR.no {ks' : List (Str × Value)} (h : KR c ρ [] ks') : ks' = [] := by cases h; rfl
theorem keepQ {h' : Heap} {tk : Nat} (hk : ∀ b o, s.heap.get? b = some o → h'.get? b = some o) (hz : s.heap.objs.size ≤ h'.objs.size) : Qu s { s with heap := h', toks := tk } := ⟨hz, hk, rfl, rfl⟩
theorem f_len (h : os[a]? = some (.list l)) (hl : l.length < lim) : EvF c n (.bi .len) [.obj a] [] os (.int l.length) os := fun _ _ _ _ _ _ _ _ _ cx sr _ rf rv rk q => by
  cases rf; cases rk.no
  obtain ⟨_, rfl, r⟩ := rv.one
  obtain ⟨b, its, kk, rfl, _, hg, hr⟩ := list_of sr h r
  exact call_len_list (items := its) ⟨_, hg, rfl, _, rfl⟩ (by rw [hr.size]; exact Int.lt_trans (Int.ofNat_lt.mpr hl) (by decide)) (q _ _ _ (Qu.tok (t := _)).le (sr.qu .tok) ⟨_, by rw [hr.size]⟩)
theorem scr_of (G : Gd c) (sr : SR c fs ρ os s) : ∃ its, s.heap.IsList c.ax its ∧ VRs c ρ (c.sc.map .int) its.toList :=
  let ⟨its, ⟨o, h1, r⟩, h2⟩ := G.sc
  ⟨its, ⟨o, sr.old _ _ h1, r⟩, h2.pre⟩
theorem f_lenS (G : Gd c) (hl : c.sc.length < lim) : EvF c n (.bi .len) [.scr] [] os (.int c.sc.length) os := fun _ _ _ _ _ _ _ _ _ cx sr _ rf rv rk q => by
  cases rf; cases rk.no
  obtain ⟨_, rfl, rfl⟩ := rv.one
  obtain ⟨its, hg, hr⟩ := scr_of G sr
  have e : its.size = c.sc.length := by rw [hr.size, List.length_map]
  exact call_len_list (items := its) hg (by rw [e]; exact Int.lt_trans (Int.ofNat_lt.mpr hl) (by decide)) (q _ _ _ (Qu.tok (t := _)).le (sr.qu .tok) ⟨_, by rw [e]⟩)
theorem f_abs : EvF c n (.bi .abs) [.int i] [] os (.int i.natAbs) os := fun _ _ _ _ _ _ _ _ _ cx sr _ rf rv rk q => by
  cases rf; cases rk.no
  obtain ⟨_, rfl, _, rfl⟩ := rv.one
  refine call_abs_int fun w tk => q _ _ _ (Qu.tok (t := _)).le (sr.qu .tok) ⟨w, ?_⟩
  rw [show (if i < 0 then -i else i) = (i.natAbs : Int) by split <;> omega]
theorem f_min : EvF c n (.bi .min) [.int i, .int j] [] os (.int (min i j)) os := fun _ _ _ _ _ _ _ _ _ cx sr _ rf rv rk q => by
  cases rf; cases rk.no
  obtain ⟨_, _, rfl, ⟨_, rfl⟩, _, rfl⟩ := rv.two
  refine with_size (min_two_ints cx.hd fun h' tk hk hz => q _ _ _ (keepQ hk hz).le (sr.qu (keepQ hk hz)) ?_)
  by_cases e : j < i
  · rw [if_pos e, Int.min_eq_right (Int.le_of_lt e)]; exact ⟨_, rfl⟩
  · rw [if_neg e, Int.min_eq_left (Int.not_lt.mp e)]; exact ⟨_, rfl⟩
theorem f_max : EvF c n (.bi .max) [.int i, .int j] [] os (.int (max i j)) os := fun _ _ _ _ _ _ _ _ _ cx sr _ rf rv rk q => by
  cases rf; cases rk.no
  obtain ⟨_, _, rfl, ⟨_, rfl⟩, _, rfl⟩ := rv.two
  refine with_size (max_two_ints cx.hd fun h' tk hk hz => q _ _ _ (keepQ hk hz).le (sr.qu (keepQ hk hz)) ?_)
  by_cases e : j > i
  · rw [if_pos e, Int.max_eq_right (Int.le_of_lt e)]; exact ⟨_, rfl⟩
  · rw [if_neg e, Int.max_eq_left (Int.not_lt.mp e)]; exact ⟨_, rfl⟩
theorem new_objS (sr : SR c fs ρ os s) {o : Obj} {o' : O} {t : Nat} (r : OR c (ρ ++ [(s.heap.objs.size, s.heap.objs.size)]) (s.heap.push o) o' (s.heap.objs.size, s.heap.objs.size)) :
    Le c [] fs ρ s (ρ ++ [(s.heap.objs.size, s.heap.objs.size)]) { s with heap := s.heap.push o, toks := t } ∧ SR c fs (ρ ++ [(s.heap.objs.size, s.heap.objs.size)]) (os ++ [o']) { s with heap := s.heap.push o, toks := t } ∧ VR c (ρ ++ [(s.heap.objs.size, s.heap.objs.size)]) (.obj os.length) (.ref s.heap.objs.size) := by
  have hz : s.heap.objs.size < (s.heap.push o).objs.size := by rw [Heap.size_push]; exact Nat.lt_succ_self _
  obtain ⟨sr', le⟩ := sr.add (W := []) (Qu.push (o := o) (t := t)) ⟨Nat.le_refl _, Nat.le_refl _⟩ ⟨hz, hz⟩ r
  exact ⟨le, sr', _, by rw [← sr.len, List.getElem?_concat_length], rfl⟩
theorem f_range1 : EvF c n (.bi .range) [.int i] [] os (.obj os.length) (os ++ [.rng 0 i 1]) := fun _ _ _ _ _ _ _ _ _ cx sr _ rf rv rk q => by
  cases rf; cases rk.no
  obtain ⟨_, rfl, _, rfl⟩ := rv.one
  exact call_range_1 (let ⟨a, b, d⟩ := new_objS sr (.rng (Heap.get?_push_size _ rfl)); q _ _ _ a b d)
theorem f_range3 (hk : k = 2) : EvF c n (.bi .range) [.int i, .int j, .int k] [] os (.obj os.length) (os ++ [.rng i j k]) := fun _ _ _ _ _ _ _ _ _ cx sr _ rf rv rk q => by
  cases rf; cases rk.no
  obtain ⟨_, _, _, rfl, ⟨_, rfl⟩, ⟨_, rfl⟩, _, rfl⟩ := rv.three
  exact call_range_3 (by omega) (let ⟨a, b, d⟩ := new_objS sr (.rng (Heap.get?_push_size _ rfl)); q _ _ _ a b d) (.inl (PyProof.noPylong_small (by omega)))
theorem f_list (h : os[a]? = some (.list l)) (hl : l.length < lim) : EvF c n (.bi .list) [.obj a] [] os (.obj os.length) (os ++ [.list l]) := fun _ _ _ s _ _ _ _ _ cx sr _ rf rv rk q => by
  cases rf; cases rk.no
  obtain ⟨_, rfl, r⟩ := rv.one
  obtain ⟨b, its, kk, rfl, _, hg, hr⟩ := list_of sr h r
  refine with_size (call_list_seq b (.inl rfl) hg rfl rfl (fun h' c' hk hn hz => ?_) (size_lim (by rw [hr.size]; exact hl)))
  have hsz : s.heap.objs.size < h'.objs.size := Heap.lt_size hn
  obtain ⟨sr', le⟩ := sr.add (W := []) (keepQ (tk := s.toks) hk hz) ⟨Nat.le_refl _, Nat.le_refl _⟩ ⟨hsz, hsz⟩ (.list hn hr.pre)
  exact q _ _ _ le sr' ⟨_, by rw [← sr.len, List.getElem?_concat_length], rfl⟩
theorem ints_items {ns : List Int} : ∀ {its : List Value}, VRs c ρ (ns.map .int) its → ∃ xs : List (Int × Tok), its = xs.map (fun p => Value.int p.1 p.2) ∧ xs.map (·.1) = ns := by
  induction ns with
  | nil => exact fun | .nil => ⟨[], rfl, rfl⟩
  | cons i ns ih =>
    intro its h
    cases h with
    | cons a b =>
      obtain ⟨t, rfl⟩ := a
      obtain ⟨xs, h1, h2⟩ := ih b
      exact ⟨(i, t) :: xs, by rw [h1]; rfl, by rw [← h2]; rfl⟩
theorem f_minL {ns : List Int} (h : os[a]? = some (.list (ns.map .int))) (m1 : i ∈ ns) (m2 : ∀ b ∈ ns, i ≤ b) : EvF c n (.bi .min) [.obj a] [] os (.int i) os := fun _ _ _ _ _ _ _ _ _ cx sr _ rf rv rk q => by
  cases rf; cases rk.no
  obtain ⟨_, rfl, r⟩ := rv.one
  obtain ⟨b, its, kk, rfl, _, hg, hr⟩ := list_of sr h r
  obtain ⟨xs, hx, hns⟩ := ints_items hr
  have e : its = intItems xs.toArray := by
    apply Array.ext'
    simp [intItems, hx]
  subst e
  have hne : 0 < xs.toArray.size := by
    rw [← hns] at m1
    cases xs with
    | nil => cases m1
    | cons _ _ => exact Nat.succ_pos _
  refine with_size (min_intList (xs := xs.toArray) (l := b) cx.hd ⟨_, hg, rfl, _, rfl⟩ hne fun v h' tk hv hk hz => ?_)
  obtain ⟨t, rfl⟩ := intItems_at hv
  obtain ⟨h1, h2⟩ := argBest_lt (numAt xs.toArray) (xs.toArray.size - 1)
  have en : ∀ j (hj : j < xs.length), numAt xs.toArray j = xs[j].1 := fun j hj => by simp [numAt, List.getElem?_eq_getElem hj]
  have hsz : xs.toArray.size = xs.length := List.size_toArray
  have : numAt xs.toArray (argBest (fun i j => decide (numAt xs.toArray i < numAt xs.toArray j)) (xs.toArray.size - 1)) = i := by
    have hb : argBest (fun i j => decide (numAt xs.toArray i < numAt xs.toArray j)) (xs.toArray.size - 1) < xs.length := by omega
    refine Int.le_antisymm ?_ (m2 _ (by rw [en _ hb, ← hns]; exact List.mem_map_of_mem (List.getElem_mem hb)))
    rw [← hns] at m1
    obtain ⟨p, hp, rfl⟩ := List.mem_map.mp m1
    obtain ⟨j, hj, rfl⟩ := List.mem_iff_getElem.mp hp
    have := h2 j (by omega)
    rwa [en j hj] at this
  rw [this]
  exact q _ _ _ (keepQ hk hz).le (sr.qu (keepQ hk hz)) ⟨_, rfl⟩
theorem f_isa (G : Gd c) {d cl : Nat} {f : List (Nat × V)} (h : os[a]? = some (.inst d f)) (ht : isIn c.K (.ref d) cl = true) : EvF c n (.bi .isinstance) [.obj a, .top cl] [] os (.bool true) os := fun _ _ _ _ _ _ _ _ _ cx sr _ rf rv rk q => by
  cases rf; cases rk.no
  obtain ⟨_, _, rfl, r, rfl⟩ := rv.two
  obtain ⟨xa, d', o, es, kk, rfl, _, I, _⟩ := inst_of sr h r
  exact isi_call (kin G sr) (fun M => I.type) ht (fun e => nomatch e) (q _ _ _ .refl sr rfl)
end
end Rw
namespace Rw
open PySem PySem.W PySem.Calls PyProof.Rows PySem.Builtin.ObjectAttr
section
variable {prog : Program} {w : World} {K : Frag} {A : Around} {E : Value → Shared → Prop} {s s' s'' : Shared} {env : Env}
theorem raw_Slice {value : Expr} {lower upper : Option Expr} {p pos : Pos} {T id : String} {Q : Value → Shared → Prop}
    (hl : typeLookup (.type T) "__getitem__" = pure (some (.builtin id)))
    (h : wpAny (model prog w) A (eval value env) (fun o s₁ => wpAny (model prog w) A (eval (.Slice lower upper none p) env) (fun i s₂ => s₂.TypeIs o T ∧ wpAny (model prog w) A (getItem o i) Q E s₂) E s₁) E s) :
    wpAny (model prog w) A (eval (.Subscript value (.Slice lower upper none p) pos) env) Q E s := by
  rw [eval_Subscript]
  refine wpAny_bind (wpAny_mono h (fun o s₁ h₁ => wpAny_bind (wpAny_holding (wpAny_mono h₁ (fun i s₂ h₂ => wpAny_bind (wpAny_standAt ?_)) fun _ _ x => x)))
    fun _ _ x => x)
  have fin : wpAny (model prog w) A (operate [i, o] (getItem o i)) (fun r s₃ => wpAny (model prog w) A (letTemporaryGo value o r >>= fun _ => pure r) Q E s₃) E s₂ :=
    wpAny_operating (wpAny_mono h₂.2 (fun r s₃ h₃ => wpAny_bind (wpAny_letTemporaryGo (wpAny_pure h₃))) fun _ _ x => x)
  refine wpAny_bind ?_
  rw [getitemInPython_of_ne h₂.1.not_modules]
  refine wpAny_bind (wpAny_specialOf h₂.1 hl ?_)
  first
    | exact wpAny_pure (wpAny_bind fin)
    | exact wpAny_bind (wpAny_pure (wpAny_bind fin))
    | exact wpAny_bind fin
theorem raw_listSlice {value : Expr} {lower upper : Option Expr} {p pos : Pos} {Q : Value → Shared → Prop}
    (h : wpAny (model prog w) A (eval value env) (fun o s₁ => wpAny (model prog w) A (evalPart lower env) (fun vl s₂ => wpAny (model prog w) A (evalPart upper env) (fun vu s₃ =>
      ∃ l items lo hi, o = .ref l ∧ s₃.heap.IsList l items ∧ items.size ≤ sizeLine ∧ IsPart vl lo ∧ IsPart vu hi ∧
        Q (.ref (s₃.heap.objs.size + 1)) { s₃ with heap := (s₃.heap.push { cls := .type "slice", data := .fields #[vl, vu, .none] }).push { cls := .type "list", data := .seq (slicePick items lo hi none) } }) E s₂) E s₁) E s) :
    wpAny (model prog w) A (eval (.Subscript value (.Slice lower upper none p) pos) env) Q E s := by
  refine raw_Slice (T := "list") list_getitem_lookup (wpAny_mono h (fun o s₁ h₁ => wpAny_Slice (wpAny_mono h₁ (fun vl s₂ h₂ => wpAny_mono h₂ (fun vu s₃ h₃ => ?_) fun _ _ e => e) fun _ _ e => e)) fun _ _ e => e)
  obtain ⟨l, items, lo, hi, rfl, hl, hsz, pl, pu, hQ⟩ := h₃
  rw [evalPart_none]
  refine wpAny_pure ⟨(hl.push _).typeIs, wpAny_getItem_list_slice (hl.push _) (Heap.IsSliceOf.new ..) pl pu .none (by simp) ?_ hsz⟩
  rw [Heap.size_push]
  exact hQ
theorem raw_eqInst {f : Addr} {a b c : Addr} {oa ob : Obj} {da db : Option Obj} (X : K.In s.heap) (Ia : W.InstAt s.heap a oa c da) (Ib : W.InstAt s.heap b ob c db) (hne : a ≠ b) (hu : A.units < cLine) (hs : findIn K (.ref c) "__eq__" = some (some (.ref f))) (hf : typeIn K (.ref f) = some (.type "function")) {Q : Bool → Shared → Prop}
    (h : wpAny (model prog w) A (call (.ref f) [.ref a, .ref b]) (fun v s' => ∃ t, v = .bool t ∧ Q t s') E s) : wpAny (model prog w) A (eqBool (.ref a) (.ref b)) Q E s := by
  unfold eqBool
  refine wpAny_holding ?_
  rw [if_neg (by simpa using hne)]
  dsimp only
  refine wpAny_bind ?_
  unfold richCompare
  simp only [oneThing_ref]
  refine wpAny_holding (wpAny_bind (wpAny_cRoomFor hu ?_))
  refine wpAny_bind (Ia.type.here (wpAny_bind (Ib.type.here ?_)))
  rw [if_neg (by simp)]
  refine wpAny_bind (wpAny_pure ?_)
  simp only [Bool.false_eq_true, if_false]
  have one : wpAny (model prog w) A (tryCompare (.ref a) "__eq__" (.ref b)) (fun r s' => ∃ t, r = some (.bool t) ∧ Q t s') E s := by
    unfold tryCompare
    refine wpAny_bind (ifBound_K X Ia hs (beq_iff_eq.mpr hf) (wpAny_mono h (fun v s' hv => ?_) fun _ _ e => e))
    obtain ⟨t, rfl, hq⟩ := hv
    exact wpAny_pure ⟨t, rfl, hq⟩
  refine wpAny_bind (wpAny_mono one (fun r s' z => ?_) fun _ _ e => e)
  obtain ⟨t, rfl, hq⟩ := z
  refine wpAny_pure ?_
  exact wpAny_truthy_bool hq
theorem entry_rloop : entryFor table "list.remove.loop" = some Builtin.«list.remove.loop» := entryFor_of_tree (by kernel_rfl)
theorem plain_rloop : plainId "list.remove.loop" = true := by decide +kernel
theorem erase_list (xs : Array Value) (i : Nat) : (xs.eraseIdxIfInBounds i).toList = xs.toList.eraseIdx i := by
  unfold Array.eraseIdxIfInBounds
  split
  · simp
  · rename_i h
    rw [List.eraseIdx_of_length_le]
    simpa using h
theorem erase_size (xs : Array Value) (i : Nat) : (xs.eraseIdxIfInBounds i).size ≤ xs.size := by
  rw [← Array.length_toList, erase_list]
  simpa using List.length_eraseIdx_le (xs.toList) i
end
section
variable {c : Cx} {A : Around} {E : Value → Shared → Prop} {n : Nat} {sc : Scope} {a b b' e : Expr} {es as : List Expr} {kws : List Keyword} {σ σ' σ'' σ3 : Sg} {v u : V} {vs : List V} {kv : List (Nat × V)} {t : Bool} {pos ap p1 : Pos} {ρ : Rho} {s s' : Shared} {fs : List Env} {os os' : List O} {x y : Value} {i j : Nat} {l m : List V} {env : Env}
theorem e_itemS (G : Gd c) (h1 : EvE c n sc a σ .scr σ') (h2 : EvE c n sc b σ' (.int j) σ'') (hl : c.sc.length < lim) {z : Int} (hv : c.sc[j]? = some z) (hs : ∀ a d c p, b ≠ .Slice a d c p := by intros; intro h; cases h) : EvE c n sc (.Subscript a b pos) σ (.int z) σ'' := by
  refine ⟨?_⟩; intro A env fs ρ s Q E eo cx p q
  refine Subscript_ (h1.r _ _ _ _ _ _ _ eo cx p fun ρ1 s1 y a1 r1 => h2.r _ _ _ _ _ _ _ eo cx (p.next a1) fun ρ2 s2 y2 a2 ⟨tk, r2⟩ => ?_)
  cases r1; subst r2
  obtain ⟨its, hg, hr⟩ := scr_of G a2.sr
  obtain ⟨y, hy, ry⟩ := hr.get (i := j) (v := .int z) (by rw [List.getElem?_map, hv]; rfl)
  exact tail_any (T := "list") (let ⟨o, h1, h2, _⟩ := hg; ⟨o, h1, h2⟩) slot_list_getitem.lookup (wpAny_getItem_list (items := its) hg (Int.natCast_nonneg _) (lim63 (List.getElem?_eq_some_iff.mp hv).1 hl) (by rw [Int.toNat_natCast, ← Array.getElem?_toList]; exact hy) (q _ _ _ (a1.trans a2) ry)) (sub_plain hs)
theorem VRs.drop {k : Nat} {xs : List Value} (h : VRs c ρ l xs) : VRs c ρ (l.drop k) (xs.drop k) := by
  induction h generalizing k with
  | nil => rw [List.drop_nil, List.drop_nil]; exact .nil
  | cons a b ih => cases k with
    | zero => exact .cons a b
    | succ k => exact ih
theorem VRs.take {k : Nat} {xs : List Value} (h : VRs c ρ l xs) : VRs c ρ (l.take k) (xs.take k) := by
  induction h generalizing k with
  | nil => rw [List.take_nil, List.take_nil]; exact .nil
  | cons a b ih => cases k with
    | zero => exact .nil
    | succ k => exact .cons a ih
theorem pick_slc {items : Array Value} (r : VRs c ρ l items.toList) (i j : Nat) : VRs c ρ ((l.take j).drop i) (slicePick items (some (i : Int)) (some (j : Int)) none).toList := by
  have e1 : sliceBounds (some (i : Int)) (some (j : Int)) none items.size = (((min i items.size : Nat) : Int), ((min j items.size : Nat) : Int), 1) := by
    unfold sliceBounds
    have hb : ∀ k : Nat, max 0 (min (if (k : Int) < 0 then (k : Int) + items.size else k) (items.size : Int)) = ((min k items.size : Nat) : Int) := fun k => by rw [if_neg (Int.not_lt.mpr (Int.natCast_nonneg k))]; omega
    simp only [Option.getD_none, show (1 : Int) > 0 by decide, if_true, hb]
  have e2 : (l.take j).drop i = (l.take (min j l.length)).drop (min i l.length) := by
    rw [List.take_eq_take_min]
    by_cases h : i ≤ l.length
    · rw [Nat.min_eq_left h]
    · rw [List.drop_of_length_le (by rw [List.length_take]; omega), List.drop_of_length_le (by rw [List.length_take]; omega)]
  unfold slicePick
  rw [e1, e2, ← r.size]
  simp only [sliceRange_one, pick_run]
  rw [← List.drop_take]
  exact r.take.drop
theorem e_slcS (G : Gd c) (h1 : EvE c n sc a σ .scr σ') (h2 : EvE c n sc b σ' (.int i) σ'') (h3 : EvE c n sc b' σ'' (.int j) σ3) (hl : c.sc.length < lim) : EvE c n sc (.Subscript a (.Slice (some b) (some b') none p1) pos) σ (.obj σ3.os.length) ⟨σ3.vs, σ3.os ++ [.list (((c.sc.map .int).take j).drop i)]⟩ := by
  refine ⟨?_⟩; intro A env fs ρ s Q E eo cx p q
  refine raw_listSlice (h1.r _ _ _ _ _ _ _ eo cx p fun ρ1 s1 y1 a1 r1 => by
    rw [evalPart_some, evalPart_some]
    exact h2.r _ _ _ _ _ _ _ eo cx (p.next a1) fun ρ2 s2 y2 a2 ⟨t2, r2⟩ => h3.r _ _ _ _ _ _ _ eo cx ((p.next a1).next a2) fun ρ3 s3 y3 a3 ⟨t3, r3⟩ => by
      cases r1; subst r2 r3
      obtain ⟨its, hg, hr⟩ := scr_of G a3.sr
      have a13 := (a1.trans a2).trans a3
      have u1 : Qu s3 { s3 with heap := s3.heap.push { cls := .type "slice", data := .fields #[.int i t2, .int j t3, .none] } } := Qu.push (t := s3.toks)
      have p3 := ((p.next a13).qu u1)
      obtain ⟨a4, r4⟩ := new_obj p3 (o := { cls := .type "list", data := .seq (slicePick its (some (i : Int)) (some (j : Int)) none) }) (t := s3.toks) (.list (its := slicePick its (some (i : Int)) (some (j : Int)) none) (Heap.get?_push_size _ rfl) (pick_slc hr i j).pre)
      refine ⟨_, its, some i, some j, rfl, hg, size_lim (by rw [hr.size, List.length_map]; exact hl), .int _ _, .int _ _, ?_⟩
      have := q _ _ _ ((a13.qu u1).trans a4) r4
      rw [Heap.size_push] at this
      exact this)
theorem looksB {id : String} {h : Heap} : ∃ k, (k = Keeper.frame ∨ k = Keeper.machine) ∧ Looks (model c.prog c.w) h (keeperOf (.builtin id)) k := ⟨.machine, .inr rfl, Looks.now⟩
theorem e_append (ho : EvE c n sc a σ (.obj i) σ') (hi : σ'.os[i]? = some (.list m)) (ha : EvA c n sc [e] [] σ' [v] [] σ'') (hi2 : σ''.os[i]? = some (.list l)) (hl : l.length < lim) (hp : plainCall [e] [] ap pos = true) (hno : noArgs a = false := by rfl) :
    EvE c n sc (.Call (.Attribute a "append" ap) [e] [] pos) σ .none ⟨σ''.vs, σ''.os.set i (.list (l ++ [v]))⟩ := by
  refine .mk fun _ _ _ _ _ _ _ eo cx p q => raw_methodCall hno hp (ho.r _ _ _ _ _ _ _ eo cx p fun _ _ _ a1 r1 pl => ?_)
  obtain ⟨b, its, k, rfl, hp, hg, hr⟩ := list_of a1.sr hi r1
  refine getMethod_list_of (items := its) PySem.F.slot_list_append PySem.F.type_list_append ⟨_, hg, rfl, _, rfl⟩ ⟨_, hg, rfl⟩ ?_
  refine raw_callWith (ha.r _ _ _ _ _ _ _ _ _ eo cx (p.next a1) fun _ s2 aa a2 r2 k2 => ⟨looksB, ?_⟩)
  obtain ⟨y, hy, ry⟩ := r2.one
  rw [hy, k2.no]
  obtain ⟨b2, its2, k', hb, hp2, hg2, hr2⟩ := list_of a2.sr hi2 (a2.le.vr r1)
  cases hb
  refine append_at hg2 (fun h' hs hn => ?_) (size_lim (by rw [hr2.size]; exact hl))
  have w : Up (b, b).2 s2 { s2 with heap := h' } := up_of hs
  have sr := a2.sr.set hi2 hp2 w (.list hn (by rw [Array.toList_push]; exact hr2.append (.cons ry .nil)))
  exact q _ _ _ ((a1.trans a2).trans ⟨w.le (mem2 hp2), sr, a2.fr.mono (w.le (fs := []) (mem2 hp2))⟩) rfl
theorem EntR.find {ns : List Nat} {es : List DictEntry} (e : EntR c ρ ns l es) (m : Nat) : (∀ v, (ns.zip l).lookup m = some v → ∃ i en, es.findIdx? (·.key.isStr (c.nm m)) = some i ∧ es[i]? = some en ∧ VR c ρ v en.val) ∧ ((ns.zip l).lookup m = none → es.findIdx? (·.key.isStr (c.nm m)) = none) := by
  induction e with
  | nil => exact ⟨fun v h => (nomatch h), fun _ => rfl⟩
  | @cons k v x t ns l es a b ih =>
    rw [List.zip_cons_cons, List.lookup_cons, List.findIdx?_cons]
    dsimp only
    rw [is_str]
    by_cases q : k = m
    · subst q
      rw [beq_self_eq_true]
      exact ⟨fun v' h => ⟨0, _, rfl, rfl, Option.some.inj h ▸ a⟩, fun h => (nomatch h)⟩
    · rw [beq_eq_false_iff_ne.mpr q, beq_eq_false_iff_ne.mpr (Ne.symm q)]
      refine ⟨fun v' h => ?_, fun h => by rw [if_neg Bool.false_ne_true, ih.2 h]; rfl⟩
      obtain ⟨i, en, h1, h2, h3⟩ := ih.1 v' h
      exact ⟨i + 1, en, by rw [if_neg Bool.false_ne_true, h1]; rfl, h2, h3⟩
theorem e_get (G : Gd c) {ns : List Nat} {k : Nat} (ho : EvE c n sc a σ (.obj i) σ') (hi : σ'.os[i]? = some (.dict ns l)) (ha : EvA c n sc [e, b] [] σ' [.str k, u] [] σ'') (hi2 : σ''.os[i]? = some (.dict ns l)) (hv : ((ns.zip l).lookup k).getD u = v) (hp : plainCall [e, b] [] ap pos = true) (hno : noArgs a = false := by rfl) :
    EvE c n sc (.Call (.Attribute a "get" ap) [e, b] [] pos) σ v σ'' := by
  refine .mk fun _ _ _ _ _ _ _ eo cx p q => raw_methodCall hno hp (ho.r _ _ _ _ _ _ _ eo cx p fun _ _ _ a1 r1 pl => ?_)
  obtain ⟨⟨xa, xd⟩, hx, rfl⟩ := id r1
  obtain ⟨p', hp', hr⟩ := a1.sr.ob i _ hi
  rw [hx] at hp'; cases hp'
  cases hr with
  | dict h1 h2 =>
  refine getMethod_builtin (T := "dict") ⟨_, h1, rfl⟩ PySem.F.plainAttrs_dict PySem.F.slot_dict_get PySem.F.type_dict_get (fun a e => by cases e; exact ⟨_, h1, rfl⟩) ?_
  refine raw_callWith (ha.r _ _ _ _ _ _ _ _ _ eo cx (p.next a1) fun ρ2 s2 aa a2 r2 k2 => ⟨looksB, ?_⟩)
  obtain ⟨_, z, hy, ⟨t, rfl⟩, rz⟩ := r2.two
  rw [hy, k2.no]
  obtain ⟨⟨_, _⟩, hx2, e2⟩ := a2.le.vr r1
  cases e2
  obtain ⟨p', hp', hr⟩ := a2.sr.ob i _ hi2
  rw [hx2] at hp'; cases hp'
  have a12 := a1.trans a2
  cases hr with
  | @dict _ _ _ es k' h1 h2 =>
  have hall : (es.toArray.all fun e => isExactStrKey e.key) = true := by
    rw [Array.all_eq_true']
    intro en he
    obtain ⟨m', _, t', hy⟩ := h2.keys en (by simpa using he)
    rw [hy]; rfl
  have F := h2.find k
  refine wpAny_call_entry PySem.F.slot_dict_get ⟨_, h1, rfl⟩ PySem.F.entry_dict_get ?_ (PySem.F.args_dict_get_3 _ _ _)
  unfold Builtin.«dict.get»
  refine wpAny_bind (m := Builtin.Dict.keyAndDefault "get" _) (Q := fun _ => _) ?_
  show wpAny _ _ (pure (xa, Value.str (c.nm k) t, some z)) _ _ _
  refine wpAny_pure ?_
  dsimp only
  unfold dictGet
  refine wpAny_bind (wpAny_holding (wpAny_bind (wpAny_pyHash_str (wpAny_bind (KTD.kt_dictFind_strs (s := { s2 with toks := s2.toks + 1 }) h1 rfl hall ?_)))))
  rw [show es.toArray.findIdx? (fun e => e.key.isStr (c.nm k)) = es.findIdx? (fun e => e.key.isStr (c.nm k)) by simp]
  cases hl : (ns.zip l).lookup k with
  | none =>
    rw [F.2 hl]
    refine wpAny_pure ?_
    dsimp only
    refine wpAny_bind (m := Builtin.Dict.missed xa _) ?_
    unfold Builtin.Dict.missed
    rw [if_neg (by simpa using fun e => absurd (a2.sr.lo _ (mem2 hx2)) (Nat.not_le.mpr (Nat.lt_of_le_of_lt (Nat.le_of_eq e) G.sm)))]
    refine wpAny_pure (wpAny_pure ⟨_, rfl, q _ _ _ (a12.qu .tok) ?_⟩)
    rw [hl] at hv
    exact hv ▸ rz
  | some w =>
    obtain ⟨j, en, f1, f2, f3⟩ := F.1 w hl
    rw [f1]
    dsimp only
    refine wpAny_bind (wpAny_dictEntries (s := { s2 with toks := s2.toks + 1 }) h1 rfl (wpAny_pure ?_))
    rw [show es.toArray[j]? = some en by simpa using f2]
    dsimp only [Option.map]
    rw [hl] at hv
    exact wpAny_pure ⟨_, rfl, q _ _ _ (a12.qu .tok) (hv ▸ f3)⟩
noncomputable def EqJ (c : Cx) (n : Nat) (u v : V) (os : List O) (t : Bool) : Prop := ∀ A fs ρ s x y (Q : Bool → Shared → Prop) E, Ctx A fs n → SR c fs ρ os s → (∀ a ∈ frA fs, c.h0.objs.size ≤ a) → VR c ρ u x → VR c ρ v y → (∀ ρ' s', Le c [] fs ρ s ρ' s' → SR c fs ρ' os s' → Q t s') → wpAny (model c.prog c.w) A (eqBool x y) Q E s
theorem eq_same : EqJ c n (.obj i) (.obj i) os true := fun _ _ _ _ _ _ _ _ _ sr _ r1 r2 q => by
  obtain ⟨p, h1, rfl⟩ := r1
  obtain ⟨p', h2, rfl⟩ := r2
  rw [h1] at h2; cases h2
  unfold eqBool
  refine wpAny_holding ?_
  rw [if_pos (by simp)]
  exact wpAny_bind (wpAny_rule (wpAny_pure (q _ _ .refl sr)))
theorem rho_inj (sr : SR c fs ρ os s) {p q : Addr × Addr} (h1 : ρ[i]? = some p) (h2 : ρ[j]? = some q) (e : p.1 = q.1) : i = j := by
  have e1 : (ρ.map (·.1))[i]? = some p.1 := by rw [List.getElem?_map, h1]; rfl
  have e2 : (ρ.map (·.1))[j]? = some p.1 := by rw [List.getElem?_map, h2, e]; rfl
  obtain ⟨l1, e1⟩ := List.getElem?_eq_some_iff.mp e1
  obtain ⟨l2, e2⟩ := List.getElem?_eq_some_iff.mp e2
  exact (List.getElem_inj sr.nd1).mp (e1.trans e2.symm)
theorem eq_inst (G : Gd c) {cl g : Nat} {f f' : List (Nat × V)} (hij : i ≠ j) (hi : os[i]? = some (.inst cl f)) (hj : os[j]? = some (.inst cl f')) (hg : c.P.eqf cl = some g) (h : EvC c n g [.obj i, .obj j] [] os (.bool t) os) : EqJ c n (.obj i) (.obj j) os t := fun _ _ _ _ _ _ _ _ cx sr nf r1 r2 q => by
  obtain ⟨f1, f2⟩ := G.eq _ _ hg
  obtain ⟨a, d, o, es, k, rfl, e1, Ia, _⟩ := inst_of sr hi r1
  obtain ⟨a', d', o', es', k', rfl, e2, Ib, _⟩ := inst_of sr hj r2
  exact raw_eqInst (kin G sr) Ia Ib (fun e => hij (rho_inj sr e1 e2 e)) (Nat.lt_of_le_of_lt (Nat.le_add_right _ 64) cx.hu) f1 f2 (wpAny_call (h _ _ _ _ _ _ _ cx sr nf (.cons r1 (.cons r2 .nil)) .nil fun ρ' s' y le sr' ry => by cases ry; exact ⟨_, rfl, q _ _ le sr'⟩))
theorem VRs.erase {xs : List Value} (h : VRs c ρ l xs) : ∀ j, VRs c ρ (l.eraseIdx j) (xs.eraseIdx j) := by
  induction h with
  | nil => exact fun _ => .nil
  | cons a b ih => exact fun j => match j with | 0 => b | j + 1 => .cons a (ih j)
theorem rem_go {k : Nat} {r : Nat} (hr0 : os[i]? = some (.list l)) (hl : l.length < lim) (hk : k < l.length) (h1 : ∀ j u, j < k → l[j]? = some u → EqJ c n u v os false) (h2 : ∀ u, l[k]? = some u → EqJ c n u v os true) {R : Result → Shared → Prop} : ∀ (r j : Nat), j + r = k → ∀ {A fs ρ s x y t}, Ctx A fs (n + 1) → SR c fs ρ os s → (∀ a ∈ frA fs, c.h0.objs.size ≤ a) → VR c ρ (.obj i) x → VR c ρ v y →
    (∀ ρ' s', Le c [] fs ρ s ρ' s' → SR c fs ρ' (os.set i (.list (l.eraseIdx k))) s' → R (.ok (.ret .none)) s') → codeAny (model c.prog c.w) A (.builtin "list.remove.loop" ⟨[x, y, .int j t], []⟩) R s := by
  intro r
  induction r with
  | zero =>
    intro j hj A fs ρ s x y t cx sr nf rx ry q
    cases hj
    obtain ⟨a, its, kk, rfl, hp, hg, hr⟩ := list_of sr hr0 rx
    obtain ⟨z, hz, rz⟩ := hr.get (List.getElem?_eq_getElem hk)
    refine codeAny_builtin entry_rloop ?_
    rw [Around.under_plainId plain_rloop _]
    unfold Builtin.«list.remove.loop»
    dsimp only
    refine wpAny_bind (wpAny_listItems hg rfl ?_)
    rw [show its[Int.toNat (j : Int)]? = some z by rw [Int.toNat_natCast, ← Array.getElem?_toList]; exact hz]
    dsimp only
    refine wpAny_bind (h2 _ (List.getElem?_eq_getElem hk) _ _ _ _ _ _ _ _ cx.in1 sr nf rz ry fun ρ1 s1 le1 sr1 => ?_)
    rw [if_pos rfl]
    obtain ⟨a2, its2, k2, ea, hp2, hg2, hr2⟩ := list_of sr1 hr0 (le1.vr rx)
    cases ea
    refine wpAny_bind (m := Builtin.List.listUpdate _ _) ?_
    show wpAny _ _ (updateSeq a fun x => x.eraseIdxIfInBounds _) _ _ _
    have hz : its2.size ≤ sizeLine := size_lim (by rw [hr2.size]; exact hl)
    refine wpAny_updateSeq hg2 rfl (hz := hz) (_hz' := Nat.le_succ_of_le (Nat.le_trans (erase_size _ _) hz)) ?_
    have u : Up (a, a).2 s1 { s1 with heap := s1.heap.update a (Obj.mapSeq fun x => x.eraseIdxIfInBounds (Int.toNat (j : Int))) } := up_of (Heap.SameBut.update ..)
    refine wpAny_pure (q _ _ (le1.trans (u.le (mem2 hp2))) (sr1.set hr0 hp2 u (.list (Heap.get?_update_self _ hg2 rfl) ?_)))
    rw [Int.toNat_natCast, erase_list]
    exact hr2.erase j
  | succ r ih =>
    intro j hj A fs ρ s x y t cx sr nf rx ry q
    have hjk : j < k := by omega
    obtain ⟨a, its, kk, rfl, hp, hg, hr⟩ := list_of sr hr0 rx
    have hj' := List.getElem?_eq_getElem (Nat.lt_trans hjk hk)
    obtain ⟨z, hz, rz⟩ := hr.get hj'
    refine codeAny_builtin entry_rloop ?_
    rw [Around.under_plainId plain_rloop _]
    unfold Builtin.«list.remove.loop»
    dsimp only
    refine wpAny_bind (wpAny_listItems hg rfl ?_)
    rw [show its[Int.toNat (j : Int)]? = some z by rw [Int.toNat_natCast, ← Array.getElem?_toList]; exact hz]
    dsimp only
    refine wpAny_bind (h1 _ _ hjk hj' _ _ _ _ _ _ _ _ cx.in1 sr nf rz ry fun ρ1 s1 le1 sr1 => ?_)
    rw [if_neg Bool.false_ne_true]
    exact wpAny_pure ⟨plainId_quiet plain_rloop _, ih (j + 1) (by omega) (t := 0) cx sr1 nf (le1.vr rx) (le1.vr ry) fun ρ2 s2 le2 sr2 => q _ _ (le1.trans le2) sr2⟩
theorem e_remove {k : Nat} (ho : EvE c (n + 1) sc a σ (.obj i) σ') (hi : σ'.os[i]? = some (.list m)) (ha : EvA c (n + 1) sc [e] [] σ' [v] [] σ'') (hi2 : σ''.os[i]? = some (.list l)) (hl : l.length < lim) (hk : k < l.length) (h1 : ∀ j u, j < k → l[j]? = some u → EqJ c n u v σ''.os false) (h2 : ∀ u, l[k]? = some u → EqJ c n u v σ''.os true)
    (hp : plainCall [e] [] ap pos = true) (hno : noArgs a = false := by rfl) : EvE c (n + 1) sc (.Call (.Attribute a "remove" ap) [e] [] pos) σ .none ⟨σ''.vs, σ''.os.set i (.list (l.eraseIdx k))⟩ := by
  refine .mk fun _ _ _ _ _ _ _ eo cx p q => raw_methodCall hno hp (ho.r _ _ _ _ _ _ _ eo cx p fun _ _ _ a1 r1 pl => ?_)
  obtain ⟨b, its, _, rfl, hp, hg, hr⟩ := list_of a1.sr hi r1
  refine getMethod_list_of (items := its) PySem.F.slot_list_remove PySem.F.type_list_remove ⟨_, hg, rfl, _, rfl⟩ ⟨_, hg, rfl⟩ ?_
  refine raw_callWith (ha.r _ _ _ _ _ _ _ _ _ eo cx (p.next a1) fun _ s2 aa a2 r2 k2 => ⟨looksB, ?_⟩)
  obtain ⟨y, hy, ry⟩ := r2.one
  rw [hy, k2.no]
  obtain ⟨b2, its2, k', hb, hp2, hg2, hr2⟩ := list_of a2.sr hi2 (a2.le.vr r1)
  cases hb
  refine wpAny_call (codeAny_call_builtin PySem.F.slot_list_remove.plain PySem.F.entry_list_remove (PySem.F.slot_list_remove.check _ _ _ _ _ _ _ _ ⟨_, hg2, rfl⟩ (PySem.F.args_list_remove_2 _ _) ?_))
  unfold Builtin.«list.remove»
  refine wpAny_bind (m := selfAndOne _ _) (wpAny_pure ?_)
  dsimp only
  refine wpAny_pure ⟨plainId_quiet plain_rloop _, ?_⟩
  exact rem_go hi2 hl hk h1 h2 (r := 0) k 0 (Nat.zero_add k) (t := 0) cx a2.sr p.nf (a2.le.vr r1) ry fun ρ3 s3 le sr => q _ _ _ ((a1.trans a2).trans ⟨le, sr, a2.fr.mono le⟩) rfl
end
end Rw
namespace Rw
open PySem PySem.W PySem.Calls PyProof.Rows
noncomputable def bndB (sc : Scope) (x : Str) : Bool := match sc.names.lookup x with | some .local => true | some .cell => true | _ => false
inductive Tgts (c : Cx) (sc : Scope) : List Expr → List Nat → Prop
  | nil : Tgts c sc [] []
  | cons {x : Str} {pos ts ks} (k : Nat) : c.nm k = x → bndB sc x = true → Tgts c sc ts ks → Tgts c sc (.Name x pos :: ts) (k :: ks)
section
variable {c : Cx} {A : Around} {E : Value → Shared → Prop} {n : Nat} {sc : Scope} {a b e : Expr} {es ts : List Expr} {σ σ' σ'' σ3 : Sg} {v u : V} {vs l m : List V} {t : Bool} {pos ap p1 p2 : Pos} {ρ : Rho} {s s' : Shared} {fs : List Env} {os os' : List O} {x y : Value} {i j k : Nat} {xs : List Nat} {ys : List Value} {env : Env} {fl : Fl} {st : Stmt} {bd bd' : List Stmt}
theorem bnd_of (eo : EnvOk sc env) {x : Str} (h : bndB sc x = true) : Lc env x := by
  unfold bndB at h
  split at h
  · exact .inl (eo.l1 _ (by assumption))
  · exact .inr ⟨eo.c1 _ (by assumption), eo.fu _ (by assumption)⟩
  · cases h
theorem s_expr (h : EvE c n sc e σ v σ') (hs : ∀ (t : Option Expr) (l : Nat) env, swapsWith e t l env = pure false := by exact fun _ _ _ => rfl) : EvS c n sc (.Expr e pos) σ .nxt σ' :=
  .mk fun _ _ _ _ _ _ _ eo F cx p q => wpAny_Expr_any (h.r _ _ _ _ _ _ _ eo cx p fun _ _ _ a _ => q _ _ _ a.toS .nxt) (by unfold interactive; rw [eo.kd]; rfl) (hs _ _ _)
theorem s_asg (k : Nat) {x : Str} (hn : c.nm k = x) (hb : bndB sc x = true) (h : EvE c n sc e σ v σ') (hs : ∀ (t : Option Expr) (l : Nat) env, swapsWith e t l env = pure false := by exact fun _ _ _ => rfl) : EvS c n sc (.Assign [.Name x p1] e pos) σ .nxt ⟨upd σ'.vs k v, σ'.os⟩ := by
  subst hn
  exact .mk fun _ _ _ _ _ _ _ eo F cx p q => wpAny_Assign_Name (h.r _ _ _ _ _ _ _ eo cx p fun _ _ _ a r => snd_store F.toFrSt (p.next a) (bnd_of eo hb) r fun _ a2 => q _ _ _ (a.toS.trans a2) .nxt) (hs _ _ _)
theorem snd_setAt (G : Gd c) (p : Pre c fs env σ ρ s) {cl : Nat} {f : List (Nat × V)} (h : σ.os[i]? = some (.inst cl f)) (ha : c.P.att cl k = some .no) (hf : f.length ≤ 100) (r : VR c ρ (.obj i) x) (rv : VR c ρ v y) {Q : Unit → Shared → Prop}
    (q : ∀ s', Aft c fs env ρ s ⟨σ.vs, σ.os.set i (.inst cl (setF f k v))⟩ ρ s' → Q () s') : wpAny (model c.prog c.w) A (setAttr x (c.nm k) y) Q E s := by
  obtain ⟨a, d, o, es, kk, rfl, hp, I, hd, h4, h5, hg, hr⟩ := inst_of p.sr h r
  have C := G.ck _ _ _ ha
  have X := kin G p.sr
  have hl := hr.len
  rw [List.length_map] at hl
  refine set_plain X I C.sa (raw_osa (s := { s with toks := s.toks + 1 }) X I hd hg C (G.no _ _ ha) hr.norefs (by omega) fun s' u g => ?_)
  have u' : Up (a, d).2 s s' := Up.pre .tok u
  obtain ⟨h1, h2, h3, _⟩ := I
  exact q _ (p.set (u'.le (mem2 hp)) (p.sr.set h hp u' (.inst (u'.keep _ _ (fun e => h5.1 _ (mem2 hp) e.symm) h1) h2 hd h4 h5 g (hr.put rv))))
theorem swaps_att {l : Nat} {at_ : Str} : swapsWith e (some (.Attribute a at_ ap)) l env = pure false := by
  unfold swapsWith
  split <;> rfl
theorem s_att (G : Gd c) (k : Nat) {x : Str} {cl : Nat} {f : List (Nat × V)} (hn : c.nm k = x) (h : EvE c n sc e σ v σ') (h2 : EvE c n sc a σ' (.obj i) σ'') (hi : σ''.os[i]? = some (.inst cl f)) (ha : c.P.att cl k = some .no) (hf : f.length ≤ 100) : EvS c n sc (.Assign [.Attribute a x ap] e pos) σ .nxt ⟨σ''.vs, σ''.os.set i (.inst cl (setF f k v))⟩ := by
  subst hn
  exact .mk fun _ _ _ _ _ _ _ eo F cx p q => plainObj_wpAny_Assign_Attribute (h.r _ _ _ _ _ _ _ eo cx p fun _ _ _ a1 r1 => h2.r _ _ _ _ _ _ _ eo cx (p.next a1) fun _ _ _ a2 r2 => snd_setAt G ((p.next a1).next a2) hi ha hf r2 (a2.le.vr r1) fun _ a3 => q _ _ _ ((a1.trans a2).trans a3).toS .nxt) swaps_att
theorem s_attSub (G : Gd c) (k : Nat) {x : Str} {cl : Nat} {f : List (Nat × V)} {z z' : Int} (hn : c.nm k = x) (h2 : EvE c n sc a σ (.obj i) σ') (hi : σ'.os[i]? = some (.inst cl f)) (ha : c.P.att cl k = some .no) (hv : f.lookup k = some (.int z)) (h : EvE c n sc e σ' (.int z') σ'') (hi2 : σ''.os[i]? = some (.inst cl f)) (hf : f.length ≤ 100) :
    EvS c n sc (.AugAssign (.Attribute a x ap) .Sub e pos) σ .nxt ⟨σ''.vs, σ''.os.set i (.inst cl (setF f k (.int (z - z'))))⟩ := by
  subst hn
  refine ⟨?_⟩; intro A env fs ρ s Q E eo F cx p q
  refine wpAny_AugAssign_AttributeAny (h2.r _ _ _ _ _ _ _ eo cx p fun ρ1 s1 y a1 r1 => ?_)
  obtain ⟨xa, d, o, es, kk, rfl, _, I, hd, _, _, hg, hr⟩ := inst_of a1.sr hi r1
  obtain ⟨y, hy, t1, rfl⟩ := (hr.look k).1 _ hv
  have C := G.ck _ _ _ ha
  refine get_value (kin G a1.sr) I C.ga (findObj_own C.hd (G.no _ _ ha) rfl (by rw [lookIn_dict]; exact hy)) rfl ?_
  have a2 := a1.qu (.tok (t := s1.toks + 1))
  refine h.r _ _ _ _ _ _ _ eo cx (p.next a2) fun ρ3 s3 y3 a3 ⟨t3, r3⟩ => ?_
  subst r3
  refine PyProof.Rows.isub_int ?_
  have a4 := (a2.trans a3).qu (.tok (t := s3.toks + 1))
  exact snd_setAt G (p.next a4) (v := .int (z - z')) hi2 ha hf (a3.le.vr r1) ⟨_, rfl⟩ fun _ a5 => q _ _ _ (a4.trans a5).toS .nxt
theorem snd_stores (eo : EnvOk sc env) (F : FrSt c env) (ht : Tgts c sc ts xs) (hl : vs.length = xs.length) (p : Pre c fs env σ ρ s) (rv : VRs c ρ vs ys) {Q : Unit → Shared → Prop}
    (q : ∀ s', AftS c fs env ρ s ⟨(xs.zip vs).foldl (fun f p => upd f p.1 p.2) σ.vs, σ.os⟩ ρ s' → Q () s') : wpAny (model c.prog c.w) A (assignInOrder ((assignEach ts env).map (·.2)) ys) Q E s := by
  induction ht generalizing vs ys σ s with
  | nil =>
    cases rv with
    | nil => exact wpAny_pure (q _ p.aft0)
    | cons _ _ => cases hl
  | @cons x pos ts ks k h1 h2 h3 ih =>
    subst h1
    cases rv with
    | nil => cases hl
    | @cons v y vs ys r1 r2 =>
    show wpAny _ _ (do holding ys (assign (.Name (c.nm k) pos) env y); assignInOrder ((assignEach ts env).map (·.2)) ys) _ _ _
    exact wpAny_bind (wpAny_holding (assign_Name (snd_store F p (bnd_of eo h2) r1 fun s1 a1 => ih (Nat.succ.inj hl) (p.next a1) r2 fun s2 a2 => q _ (a1.trans a2))))
theorem each_names (ht : Tgts c sc ts xs) : (assignEach ts env).length = xs.length ∧ (assignEach ts env).findIdx? (·.1) = none := by
  induction ht with
  | nil => exact ⟨rfl, rfl⟩
  | @cons x pos ts ks k h1 h2 h3 ih =>
    have e : assignEach (.Name x pos :: ts) env = (false, assign (.Name x pos) env) :: assignEach ts env := rfl
    rw [e]
    exact ⟨congrArg (· + 1) ih.1, by rw [List.findIdx?_cons, ih.2]; rfl⟩
theorem snd_unpackT (cx : Ctx A fs n) (sr : SR c fs ρ os s) (h : os[i]? = some (.tup l)) (ry : VR c ρ (.obj i) y) {m : Nat} (hm : l.length = m) {Q : List Value → Shared → Prop} (q : ∀ ys s', Qu s s' → VRs c ρ l ys → Q ys s') : wpAny (model c.prog c.w) A (unpackItems y m none) Q E s := by
  obtain ⟨a, its, k, rfl, hg, hr⟩ := tup_of sr h ry
  rw [← hm, ← hr.size]
  exact with_size (unpackItems_tuple (items := its) cx.hd ⟨_, hg, rfl, _, rfl⟩ fun h' hk hs => q _ _ ⟨hs, fun b o hb => hk b o (Nat.ne_of_lt (Heap.lt_size hb)) hb, rfl, rfl⟩ hr)
inductive BindT (c : Cx) (sc : Scope) : Expr → V → Sg → Sg → Prop
  | name {x : Str} {pos v σ} (k : Nat) : c.nm k = x → bndB sc x = true → BindT c sc (.Name x pos) v σ ⟨upd σ.vs k v, σ.os⟩
  | tup {ts ct pos i l σ} (xs : List Nat) : Tgts c sc ts xs → σ.os[i]? = some (.tup l) → l.length = xs.length → BindT c sc (.Tuple ts ct pos) (.obj i) σ ⟨(xs.zip l).foldl (fun f p => upd f p.1 p.2) σ.vs, σ.os⟩
theorem snd_bind (eo : EnvOk sc env) (F : FrSt c env) (cx : Ctx A fs n) (h : BindT c sc e v σ σ') (p : Pre c fs env σ ρ s) (ry : VR c ρ v y) {Q : Unit → Shared → Prop} (q : ∀ s', AftS c fs env ρ s σ' ρ s' → Q () s') : wpAny (model c.prog c.w) A (assign e env y) Q E s := by
  cases h with
  | name k h1 h2 => subst h1; exact assign_Name (snd_store F p (bnd_of eo h2) ry q)
  | @tup ts ct pos i l σ xs h1 h2 h3 =>
    show wpAny _ _ (do standAt pos; unpack y (assignEach ts env)) _ _ _
    refine wpAny_bind (wpAny_standAt ?_)
    unfold unpack
    obtain ⟨g1, g2⟩ := each_names (env := env) h1
    rw [g1, g2]
    exact wpAny_bind (wpAny_holding (snd_unpackT cx p.sr h2 ry h3 fun ys s2 u2 r2 => snd_stores eo F h1 h3 (p.qu u2) r2 fun s3 a3 => q _ ((p.aft u2).trans a3)))
theorem s_unp {ct : Nat} (h : EvE c n sc e σ v σ') (hb : BindT c sc (.Tuple ts ct p1) v σ' σ'') (hw : ∀ env, swappedStores [.Tuple ts ct p1] e env = pure none := by exact fun _ => rfl) (hs : ∀ (t : Option Expr) (l : Nat) env, swapsWith e t l env = pure false := by exact fun _ _ _ => rfl) : EvS c n sc (.Assign [.Tuple ts ct p1] e pos) σ .nxt σ'' :=
  .mk fun _ _ _ _ _ _ _ eo F cx p q => wpAny_Assign_stores (h.r _ _ _ _ _ _ _ eo cx p fun _ _ _ a r => snd_bind eo F.toFrSt cx hb (p.next a) r fun _ a2 => q _ _ _ (a.toS.trans a2) .nxt) (by unfold swapsWithSole; exact hs _ _ _) (hw _)
theorem s_ret (h : EvE c n sc e σ v σ') : EvS c n sc (.Return (some e) pos) σ (.ret v) σ' := .mk fun _ _ _ _ _ _ _ eo F cx p q => wpAny_Return_some (h.r _ _ _ _ _ _ _ eo cx p fun _ _ _ a r => q _ _ _ a.toS (.ret r))
theorem s_if (h : EvT c n sc e σ t σ') (h2 : EvB c n sc (bif t then bd else bd') σ' fl σ'') : EvS c n sc (.If e bd bd' pos) σ fl σ'' :=
  .mk fun _ _ _ _ _ _ _ eo F cx p q => wpAny_If (h.r _ _ _ _ _ _ _ eo cx p fun _ _ a => by
    cases t with
    | true => exact h2.r _ _ _ _ _ _ _ eo F cx (p.next a) fun _ _ _ a2 r => q _ _ _ (a.toS.trans a2) r
    | false => exact h2.r _ _ _ _ _ _ _ eo F cx (p.next a) fun _ _ _ a2 r => q _ _ _ (a.toS.trans a2) r)
theorem s_assert {o : Option Expr} (h : EvT c n sc e σ true σ') : EvS c n sc (.Assert e o pos) σ .nxt σ' := .mk fun _ _ _ _ _ _ _ eo F cx p q => wpAny_Assert_holds (h.r _ _ _ _ _ _ _ eo cx p fun _ _ a => ⟨rfl, q _ _ _ a.toS .nxt⟩)
theorem s_while0 (h : EvT c n sc e σ false σ') : EvS c n sc (.While e bd [] pos) σ .nxt σ' := .mk fun _ _ _ _ s _ _ eo F cx p q => wpAny_While (codeAny_whileLoop (fun _ s1 => s1 = s) (fun _ _ hI => by
  subst hI
  exact h.r _ _ _ _ _ _ _ eo cx p fun _ _ a => wpAny_execs_nil (q _ _ _ a.toS .nxt)) 0 rfl)
theorem b_nil : EvB c n sc [] σ .nxt σ := .mk fun _ _ _ _ _ _ _ eo F cx p q => wpAny_execs_nil (q _ _ _ p.aft0 .nxt)
theorem b_cons (h : EvS c n sc st σ .nxt σ') (h2 : EvB c n sc bd σ' fl σ'') : EvB c n sc (st :: bd) σ fl σ'' := .mk fun _ _ _ _ _ _ _ eo F cx p q => wpAny_execs_cons (h.r _ _ _ _ _ _ _ eo F cx p fun _ _ _ a r => by
  cases r
  exact h2.r _ _ _ _ _ _ _ eo F cx (p.next a) fun _ _ _ a2 r2 => q _ _ _ (a.trans a2) r2)
theorem b_ret (h : EvS c n sc st σ (.ret v) σ') : EvB c n sc (st :: bd) σ (.ret v) σ' := .mk fun _ _ _ _ _ _ _ eo F cx p q => wpAny_execs_cons (h.r _ _ _ _ _ _ _ eo F cx p fun _ _ _ a r => by
  cases r with
  | ret r => exact q _ _ _ a (.ret r))
theorem swapped2 {x1 x2 y1 y2 : Str} {k1 k2 : Nat} {p3 p4 q1 q2 : Pos} (eo : EnvOk sc env) (h1 : sc.names.lookup x1 = some .local) (h2 : sc.names.lookup x2 = some .local) (hx : x1 ≠ x2) (hp : p1.line = p2.line) (hd : (y1 == ("__debug__" : Str)) = false) :
    swappedStores [.Tuple [.Name x1 p1, .Name x2 p2] k1 p3] (.Tuple [.Name y1 q1, .Name y2 q2] k2 p4) env = pure (some [x1, x2]) := by
  have bk : env.blockKind = .function := by unfold Env.blockKind; rw [eo.kd]; rfl
  have l1 := eo.l1 _ h1
  have l2 := eo.l1 _ h2
  have hf : foldedForSure 8 (.Name y1 q1) = false := rfl
  have hc : constantsAlone 8 (.Name y1 q1) = false := hd
  have q1 : (Expr.Name x1 p1).pos = p1 := rfl
  unfold swappedStores
  simp [bk, l1, l2, hp, hf, hc, List.any_cons, List.filterMap_cons, q1, List.eraseDups_cons, Ne.symm hx]
theorem s_swap (G : Gd c) (k1 k2 : Nat) {x1 x2 y2 : Str} {c1 c2 : Nat} {p3 p4 q1 q2 : Pos} (n1 : c.nm k1 = x1) (n2 : c.nm k2 = x2) (hk : k1 ≠ k2) (l1 : sc.names.lookup x1 = some .local) (l2 : sc.names.lookup x2 = some .local) (hp : p1.line = p2.line) (h : EvE c n sc (.Tuple [.Name x2 q1, .Name y2 q2] c2 p4) σ (.obj i) σ') (hi : σ'.os[i]? = some (.tup [v, u])) :
    EvS c n sc (.Assign [.Tuple [.Name x1 p1, .Name x2 p2] c1 p3] (.Tuple [.Name x2 q1, .Name y2 q2] c2 p4) pos) σ .nxt ⟨upd (upd σ'.vs k2 u) k1 v, σ'.os⟩ := by
  subst n1 n2
  refine ⟨?_⟩; intro A env fs ρ s Q E eo F cx p q
  refine Assign_Tuple_swapped (h.r _ _ _ _ _ _ _ eo cx p fun ρ1 s1 z a1 r1 => ?_) rfl (swapped2 eo l1 l2 (fun e => hk (c.inj _ _ e)) hp (G.db _))
  refine snd_unpackT cx a1.sr hi r1 rfl fun ys s2 u2 r2 => ?_
  obtain ⟨y, z, rfl, r2, r3⟩ := r2.two
  show wpAny _ _ (do holding [y] (bindName env (c.nm k2) z); holding [] (bindName env (c.nm k1) y); pure ()) _ _ _
  exact wpAny_bind (wpAny_holding (bindName_ (snd_store F.toFrSt ((p.next a1).qu u2) (.inl (eo.l1 _ l2)) r3 fun s3 a3 => wpAny_bind (wpAny_holding (bindName_ (snd_store F.toFrSt (((p.next a1).qu u2).next a3) (.inl (eo.l1 _ l1)) r2 fun s4 a4 => wpAny_pure (q _ _ _ ((((a1.qu u2).toS).trans a3).trans a4) .nxt)))))))
end
end Rw
namespace Rw
open PySem PySem.W PySem.Calls PyProof.Rows
section
variable {prog : Program} {w : World} {A : Around} {E : Value → Shared → Prop} {s s' s'' : Shared}
theorem raw_forLoop {R : Result → Shared → Prop} {target it body orelse env} (I : Nat → Shared → Prop)
    (turn : ∀ n s, I n s → wpAny (model prog w) A (pyNext it) (fun r s₁ => match r with
      | none => wpAny (model prog w) A (execs orelse env) (fun f s₃ => R (.ok f) s₃) (notedBy (model prog w) A env fun e s' => R (.error e) s') s₁
      | some v => wpAny (model prog w) A (letOwnedTupleGo target it v) (fun _ s₁ => wpAny (model prog w) A (assign target env v) (fun _ s₂ => wpAny (model prog w) A (execs body env) (fun f s₃ => match f with
          | .next | .cont => ∃ m, m < n ∧ I m s₃
          | .brk => R (.ok .next) s₃
          | .ret v => R (.ok (.ret v)) s₃) (notedBy (model prog w) A env fun e s' => R (.error e) s') s₂) (notedBy (model prog w) A env fun e s' => R (.error e) s') s₁) (notedBy (model prog w) A env fun e s' => R (.error e) s') s₁) (notedBy (model prog w) A env fun e s' => R (.error e) s') s)
    (n : Nat) (h : I n s) : codeAny (model prog w) A (.forLoop target it body orelse env) R s := by
  refine codeAny_loop' rfl I (fun n s hI => ?_) n h
  show wpAny _ _ ((forTurn target it body orelse env).onRaise (fun x => do noteFrame x env; theTreesLotGoes x)) _ _ s
  refine wpAny_noted ?_
  simp only [forTurn]
  refine wpAny_bind (wpAny_standAt (wpAny_bind (wpAny_onRaise (wpAny_mono (turn n s hI) (fun r s₁ h₁ => ?_) fun _ _ h' => wpAny_standAt h'))))
  cases r with
  | none => exact wpAny_pure (.inr ⟨rfl, codeAny_block h₁⟩)
  | some v =>
    refine wpAny_bind (wpAny_mono h₁ (fun _ s₁' h₁' => ?_) fun _ _ h' => h')
    refine wpAny_bind (wpAny_mono h₁' (fun _ s₂ h₂ => wpAny_bind (wpAny_mono h₂ (fun f s₃ h₃ => ?_) fun _ _ h' => h')) fun _ _ h' => h')
    cases f with
    | next => exact wpAny_pure (.inl ⟨rfl, h₃⟩)
    | cont => exact wpAny_pure (.inl ⟨rfl, h₃⟩)
    | brk => exact wpAny_pure h₃
    | ret v => exact wpAny_pure h₃
end
inductive Sc where
  | live (i : Nat) | fix (l : List V)
noncomputable def Src (os : List O) : Sc → List V → Prop
  | .live i, l => os[i]? = some (.list l)
  | .fix l0, l => l = l0
noncomputable def rngL (a b k : Int) : List V := (List.range (Builtin.Range.rangeSize a b k).toNat).map fun (j : Nat) => .int (a + j * k)
inductive ItS (os : List O) : V → Sc → Prop
  | list {i l} : os[i]? = some (.list l) → ItS os (.obj i) (.live i)
  | rng {i a b k} : os[i]? = some (.rng a b k) → Builtin.Range.small a b k = true → ItS os (.obj i) (.fix (rngL a b k))
inductive ItR (c : Cx) (ρ : Rho) (h : Heap) (I : Addr) : Sc → Nat → Prop
  | live {i ax j} : h.IsListIter I ax j → VR c ρ (.obj i) (.ref ax) → ItR c ρ h I (.live i) j
  | rng {a b k j} : IsRangeIter h I (a + (j : Nat) * k) (((Builtin.Range.rangeSize a b k).toNat : Int) - j) k → ItR c ρ h I (.fix (rngL a b k)) j
section
variable {c : Cx} {A : Around} {E : Value → Shared → Prop} {n : Nat} {sc : Scope} {a b e tg : Expr} {σ σ' σ'' : Sg} {v u : V} {l m : List V} {t : Bool} {pos : Pos} {ρ ρ' ρ'' : Rho} {s s' s'' : Shared} {fs : List Env} {os os' : List O} {x y : Value} {i j k : Nat} {env : Env} {fl : Fl} {bd : List Stmt} {W V' : List Addr} {S : Sc} {I : Addr}
theorem ItR.obj {h : Heap} (it : ItR c ρ h I S j) : ∃ o vs, h.get? I = some o ∧ o.data = .fields vs ∧ o.cls ≠ .type "code" := by
  cases it with
  | live h1 _ => obtain ⟨o, ho, hc, hd⟩ := h1; exact ⟨o, _, ho, hd, by rw [hc]; exact fun e => absurd (Value.type.inj e) (by decide)⟩
  | rng h1 => exact ⟨_, _, h1, rfl, fun e => absurd (Value.type.inj e) (by decide)⟩
theorem ItR.tame {h : Heap} (it : ItR c ρ h I S j) : ∃ o vs, h.get? I = some o ∧ o.data = .fields vs ∧ tame o :=
  let ⟨o, vs, h1, h2, h3⟩ := it.obj
  ⟨o, vs, h1, h2, (fun e => by rw [h2] at e; cases e), fun _ _ => h3⟩
theorem ItR.le (a : Le c W fs ρ s ρ' s') (ho : off c ρ I) (hw : I ∉ W) (hf : I ∉ frA fs) (it : ItR c ρ s.heap I S j) : ItR c ρ' s'.heap I S j := by
  have k : ∀ o, s.heap.get? I = some o → s'.heap.get? I = some o := fun o h => a.keep I o h ho hw hf
  cases it with
  | live h1 h2 => obtain ⟨o, ho, r⟩ := h1; exact .live ⟨o, k _ ho, r⟩ (a.vr h2)
  | rng h1 => exact .rng (k _ h1)
theorem nofr {o : Obj} {vs : Array Value} (sr : SR c fs ρ os s) (h : s.heap.get? I = some o) (hd : o.data = .fields vs) : I ∉ frA fs := fun hf => by
  obtain ⟨env', he, hf⟩ := List.mem_filterMap.mp hf
  obtain ⟨_, L, o', f, _, e, es, ep, d⟩ := sr.ff env' he
  rw [f] at hf; cases hf
  rw [h] at e; cases e
  rw [hd] at d; cases d
theorem up_ext {D : Addr} {h' : Heap} {tk : Nat} (hs : Heap.ExtBut D s.heap h') (hz : s.heap.objs.size ≤ h'.objs.size) : Up D s { s with heap := h', toks := tk } := ⟨hz, fun b o hb e => hs b o hb e, rfl, rfl⟩
theorem size_nn (a b k : Int) : 0 ≤ Builtin.Range.rangeSize a b k := by
  unfold Builtin.Range.rangeSize
  split
  · split
    · have := Int.ediv_nonneg (a := b - a - 1) (b := k) (by omega) (by omega); omega
    · omega
  · split
    · have := Int.ediv_nonneg (a := a - b - 1) (b := -k) (by omega) (by omega); omega
    · omega
theorem snd_iter (sr : SR c fs ρ os s) (h : ItS os v S) (rx : VR c ρ v x) {Q : Value → Shared → Prop}
    (q : ∀ s', Qu s s' → s.heap.objs.size < s'.heap.objs.size → ItR c ρ s'.heap s.heap.objs.size S 0 → Q (.ref s.heap.objs.size) s') : wpAny (model c.prog c.w) A (pyIter x) Q E s := by
  have hz : ∀ o, s.heap.objs.size < (s.heap.push o).objs.size := fun o => by rw [Heap.size_push]; exact Nat.lt_succ_self _
  cases h with
  | list ho =>
    obtain ⟨a, its, k, rfl, hp, hg, hr⟩ := list_of sr ho rx
    exact wpAny_pyIter_list (items := its) ⟨_, hg, rfl, _, rfl⟩ (q _ (Qu.push (t := s.toks)) (hz _) (.live ⟨_, Heap.get?_push_size _ rfl, rfl, rfl⟩ rx))
  | @rng i a b k ho hs =>
    obtain ⟨p, e, rfl⟩ := rx
    obtain ⟨p', hp', hr⟩ := sr.ob i _ ho
    rw [e] at hp'; cases hp'
    cases hr with
    | rng h1 =>
    refine wpAny_pyIter_range h1 hs (q _ (Qu.push (t := s.toks)) (hz _) (.rng ?_))
    rw [show (((Builtin.Range.rangeSize a b k).toNat : Int) - (0 : Nat)) = Builtin.Range.rangeSize a b k by have := size_nn a b k; omega, show a + ((0 : Nat) : Int) * k = a by omega]
    exact Heap.get?_push_size _ rfl
theorem rngL_get {a b k : Int} (h : (rngL a b k)[j]? = some v) : v = .int (a + j * k) ∧ (j : Int) < (Builtin.Range.rangeSize a b k).toNat := by
  unfold rngL at h
  rw [List.getElem?_map] at h
  obtain ⟨z, hz, rfl⟩ := Option.map_eq_some_iff.mp h
  obtain ⟨hl, e⟩ := List.getElem?_eq_some_iff.mp hz
  rw [List.getElem_range] at e
  subst e
  rw [List.length_range] at hl
  exact ⟨rfl, Int.ofNat_lt.mpr hl⟩
theorem snd_item (sr : SR c fs ρ os s) (hs : Src os S l) (hj : l[j]? = some v) (it : ItR c ρ s.heap I S j) {Q : Option Value → Shared → Prop}
    (q : ∀ s' y, Up I s s' → VR c ρ v y → ItR c ρ s'.heap I S (j + 1) → Q (some y) s') : wpAny (model c.prog c.w) A (pyNext (.ref I)) Q E s := by
  cases it with
  | @live i ax _ hit rs =>
    obtain ⟨a, its, k, e, hp, hg, hr⟩ := list_of sr hs rs
    cases e
    obtain ⟨y, hy, ry⟩ := hr.get hj
    exact wpAny_pyNext_list_item (items := its) hit ⟨_, hg, rfl, _, rfl⟩ (by rw [← Array.getElem?_toList]; exact hy) fun h' hit' hb => q _ y (up_of hb) ry (.live hit' rs)
  | @rng a b k _ hit =>
    cases hs
    obtain ⟨rfl, hl⟩ := rngL_get hj
    refine wpAny_pyNext_range_item hit (by omega) fun h' hit' hb => q _ _ (up_of hb) ⟨_, rfl⟩ (.rng ?_)
    rw [show a + ((j + 1 : Nat) : Int) * k = a + j * k + k by rw [Int.natCast_add, Int.add_mul]; omega, show ((Builtin.Range.rangeSize a b k).toNat : Int) - ((j + 1 : Nat) : Int) = (Builtin.Range.rangeSize a b k).toNat - j - 1 by omega]
    exact hit'
theorem snd_end (hh : A.handled = none) (sr : SR c fs ρ os s) (hs : Src os S l) (hj : l.length ≤ j) (it : ItR c ρ s.heap I S j) {Q : Option Value → Shared → Prop}
    (q : ∀ s', Up I s s' → Q none s') : wpAny (model c.prog c.w) A (pyNext (.ref I)) Q E s := by
  cases it with
  | @live i ax _ hit rs =>
    obtain ⟨a, its, k, e, hp, hg, hr⟩ := list_of sr hs rs
    cases e
    exact with_size (wpAny_pyNext_list_end (items := its) hh hit ⟨_, hg, rfl, _, rfl⟩ (Array.getElem?_eq_none_iff.mpr (by rw [hr.size]; exact hj)) fun h' he hz => q _ (up_ext (tk := s.toks) he hz))
  | @rng a b k _ hit =>
    cases hs
    unfold rngL at hj
    rw [List.length_map, List.length_range] at hj
    exact with_size (wpAny_pyNext_range_end hh hit (by omega) fun h' he hz => q _ (up_ext (tk := s.toks) he hz))
theorem let_own {o : Obj} {cl : String} {vs : Array Value} {Q : Unit → Shared → Prop} (q : Q () s) (ho : s.heap.get? I = some o) (hc : o.cls = .type cl) (hd : o.data = .fields vs) (hn : (["enumerate", "zip", "dict_itemiterator", "dict_reverseitemiterator", "odict_iterator", "itertools.zip_longest", "itertools.pairwise"].contains cl) = false) : wpAny (model c.prog c.w) A (letOwnedTupleGo tg (.ref I) y) Q E s := by
  have key : ∀ r, wpAny (model c.prog c.w) A (letOwnedTupleGo (.Tuple [] 0 default) (.ref I) (.ref r)) Q E s := fun r => by
    refine wpAny_bind (wpAny_load ho ?_)
    rw [hc, hd]
    dsimp only
    rw [hn]
    exact wpAny_pure q
  have key2 : wpAny (model c.prog c.w) A (letOwnedTupleGo (.Tuple [] 0 default) (.ref I) y) Q E s := by
    cases y <;> first | exact key _ | exact wpAny_pure q
  cases tg <;> first | exact key2 | exact wpAny_pure q
theorem letOwn (it : ItR c ρ s.heap I S j) {Q : Unit → Shared → Prop} (q : Q () s) : wpAny (model c.prog c.w) A (letOwnedTupleGo tg (.ref I) y) Q E s := by
  cases it with
  | live h1 => obtain ⟨o, ho, hc, hd⟩ := h1; exact let_own q ho hc hd (by decide)
  | rng h1 => exact let_own q h1 rfl rfl (by decide)
theorem Le.sup (a : Le c V' fs ρ s ρ' s') (h : ∀ x ∈ V', x ∈ W) : Le c W fs ρ s ρ' s' :=
  ⟨a.pre, a.sz, fun b o hb hf hw hn => a.keep b o hb hf (fun q => hw (h b q)) hn, fun b o hb hf hw => a.frm b o hb hf (fun q => hw (h b q)), a.os, a.gl, a.gsz⟩
theorem Le.freshW (a : Le c W fs ρ s ρ' s') (b : Le c (V' ++ W) fs ρ' s' ρ'' s'') (hv : ∀ x ∈ V', s.heap.objs.size ≤ x) : Le c W fs ρ s ρ'' s'' := by
  have d := (a.sup (W := V' ++ W) fun x => List.mem_append_right _).trans b
  have hn : ∀ x o, s.heap.get? x = some o → x ∉ W → x ∉ V' ++ W := fun x o hx hw hm => (List.mem_append.mp hm).elim (fun hm => absurd (Heap.lt_size hx) (Nat.not_lt.mpr (hv x hm))) hw
  exact ⟨d.pre, d.sz, fun x o hx hf hw hn' => d.keep x o hx hf (hn x o hx hw) hn', fun x o hx hf hw => d.frm x o hx hf (hn x o hx hw), d.os, d.gl, d.gsz⟩
theorem FR.not_own {d : Addr} {o : Obj} {vs : Nat → Option V} {fl : Array Value} (F : FR c env vs ρ s) (ho : s.heap.get? d = some o) (h1 : o.data = .fields fl) : d ∉ ownA env := fun hb => by
  rcases List.mem_cons.mp hb with rfl | hb
  · obtain ⟨m, ⟨o', es, ep, g1, g2, _⟩, _⟩ := F.ns
    rw [ho] at g1; cases g1
    rw [h1] at g2; cases g2
  · obtain ⟨q, hq, rfl⟩ := List.mem_map.mp hb
    obtain ⟨y, o', g1, g2⟩ := F.cl q hq
    rw [ho] at g1; cases g1
    rw [h1] at g2; cases g2
structure At_ (c : Cx) (fs : List Env) (env : Env) (I : Addr) (S : Sc) (W : List Addr) (ρ0 : Rho) (s0 : Shared) (j : Nat) (σ : Sg) (ρ : Rho) (s : Shared) : Prop where
  p : Pre c fs env σ ρ s
  it : ItR c ρ s.heap I S j
  oI : off c ρ I
  lI : c.h0.objs.size ≤ I
  le : Le c (I :: W) fs ρ0 s0 ρ s
theorem At_.up {ρ0 : Rho} {s0 : Shared} (a : At_ c fs env I S W ρ0 s0 j σ ρ s) (u : Up I s s') : Pre c fs env σ ρ s' ∧ Le c (I :: W) fs ρ0 s0 ρ s' := by
  obtain ⟨o, vs, h1, h2, h3⟩ := a.it.tame
  have nf := nofr a.p.sr h1 h2
  have nI := a.p.fr.not_own h1 h2
  exact ⟨⟨a.p.sr.upd u h1 h3 a.lI (fun h => absurd h nf) rfl fun i o hi => .inl ⟨hi, fun q hq => a.oI.1 q (mem2 hq)⟩, a.p.fr.monoW (fs := fs) u.leW fun b hb hm => nI (List.mem_singleton.mp hm ▸ hb), a.p.nf⟩,
    a.le.trans (u.leW.sup fun x hx => List.mem_singleton.mp hx ▸ .head _)⟩
theorem At_.next {ρ0 : Rho} {s0 : Shared} {k : Nat} (p : Pre c fs env σ ρ s) (it : ItR c ρ s.heap I S k) (oI : off c ρ I) (le : Le c (I :: W) fs ρ0 s0 ρ s) (lI : c.h0.objs.size ≤ I) {V' : List Addr} (hV : ∀ x ∈ V', x ∈ W) (hI : I ∉ V') (a : AftW c V' fs env ρ s σ' ρ' s') : At_ c fs env I S W ρ0 s0 k σ' ρ' s' := by
  obtain ⟨o, vs, h1, h2, h3⟩ := it.tame
  exact ⟨p.next a, it.le a.le oI hI (nofr p.sr h1 h2), off_le a.le oI (Heap.lt_size h1), lI, le.trans (a.le.sup fun x hx => .tail _ (hV x hx))⟩
end
inductive ForGo (c : Cx) (n : Nat) (sc : Scope) (tg : Expr) (bd : List Stmt) (S : Sc) : Nat → Nat → Sg → Fl → Sg → Prop
  | done {m j l σ} : Src σ.os S l → l.length ≤ j → ForGo c n sc tg bd S m j σ .nxt σ
  | step {m j l v σ σ1 σ2 fl σ'} : Src σ.os S l → l[j]? = some v → BindT c sc tg v σ σ1 → EvB c n sc bd σ1 .nxt σ2 → ForGo c n sc tg bd S m (j + 1) σ2 fl σ' → ForGo c n sc tg bd S (m + 1) j σ fl σ'
  | ret {m j l v u σ σ1 σ2} : Src σ.os S l → l[j]? = some v → BindT c sc tg v σ σ1 → EvB c n sc bd σ1 (.ret u) σ2 → ForGo c n sc tg bd S (m + 1) j σ (.ret u) σ2
inductive ForI (c : Cx) (n : Nat) (sc : Scope) (tg : Expr) (bd : List Stmt) (S : Sc) (m j : Nat) (σ : Sg) (fl : Fl) (σ' : Sg) : Prop
  | done {l} : Src σ.os S l → l.length ≤ j → fl = .nxt → σ' = σ → ForI c n sc tg bd S m j σ fl σ'
  | step {k l v σ1 σ2} : m = k + 1 → Src σ.os S l → l[j]? = some v → BindT c sc tg v σ σ1 → EvB c n sc bd σ1 .nxt σ2 → ForGo c n sc tg bd S k (j + 1) σ2 fl σ' → ForI c n sc tg bd S m j σ fl σ'
  | ret {k l v u σ1} : m = k + 1 → Src σ.os S l → l[j]? = some v → BindT c sc tg v σ σ1 → EvB c n sc bd σ1 (.ret u) σ' → fl = .ret u → ForI c n sc tg bd S m j σ fl σ'
theorem ForGo.inv {c : Cx} {n : Nat} {sc : Scope} {tg : Expr} {bd : List Stmt} {S : Sc} {m j : Nat} {σ : Sg} {fl : Fl} {σ' : Sg} (h : ForGo c n sc tg bd S m j σ fl σ') : ForI c n sc tg bd S m j σ fl σ' := by
  cases h with
  | done a b => exact .done a b rfl rfl
  | step a b d e f => exact .step rfl a b d e f
  | ret a b d e => exact .ret rfl a b d e rfl
section
variable {c : Cx} {A : Around} {E : Value → Shared → Prop} {n : Nat} {sc : Scope} {a b e tg it : Expr} {σ σ' σ'' : Sg} {v u : V} {l : List V} {t : Bool} {pos : Pos} {ρ ρ' ρ'' : Rho} {s s' s'' : Shared} {fs : List Env} {os os' : List O} {x y : Value} {i j k m : Nat} {env : Env} {fl : Fl} {bd : List Stmt} {W V' : List Addr} {S : Sc} {I : Addr}
theorem snd_forGo (eo : EnvOk sc env) (F : FrOk c fs env) (cx : Ctx A fs n) {ρ0 : Rho} {s0 : Shared} {R : Result → Shared → Prop} (g : ForGo c n sc tg bd S m j σ fl σ') (a : At_ c fs env I S (ownW env) ρ0 s0 j σ ρ s)
    (q : ∀ ρ' s' f, Le c (I :: ownW env) fs ρ0 s0 ρ' s' → SR c fs ρ' σ'.os s' → FR c env σ'.vs ρ' s' → FlR c ρ' fl f → R (.ok f) s') : codeAny (model c.prog c.w) A (.forLoop tg (.ref I) bd [] env) R s := by
  refine raw_forLoop (fun m s => ∃ j σ ρ, ForGo c n sc tg bd S m j σ fl σ' ∧ At_ c fs env I S (ownW env) ρ0 s0 j σ ρ s) (fun m s hI => ?_) m ⟨j, σ, ρ, g, a⟩
  obtain ⟨j, σ, ρ, g, a⟩ := hI
  obtain ⟨o, vs, h1, h2, h3⟩ := a.it.tame
  have nI : I ∉ ownW env := fun h => a.p.fr.not_own h1 h2 (own_sub h)
  cases g.inv with
  | done hs hj e1 e2 => subst e1 e2; exact snd_end cx.hd a.p.sr hs hj a.it fun s1 u => let ⟨p1, le1⟩ := a.up u; wpAny_execs_nil (q _ _ _ le1 p1.sr p1.fr .nxt)
  | step em hs hj hb hbd g2 =>
    subst em
    refine snd_item a.p.sr hs hj a.it fun s1 y u ry it1 => ?_
    obtain ⟨p1, le1⟩ := a.up u
    refine letOwn it1 (snd_bind eo F.toFrSt cx hb p1 ry fun s2 a2 => ?_)
    have b2 := At_.next p1 it1 a.oI le1 a.lI (fun _ h => h) nI a2
    refine hbd.r _ _ _ _ _ _ _ eo F cx b2.p fun ρ3 s3 f a3 r3 => ?_
    cases r3
    exact ⟨_, Nat.lt_succ_self _, _, _, _, g2, At_.next b2.p b2.it b2.oI b2.le b2.lI (fun _ h => h) nI a3⟩
  | ret em hs hj hb hbd e1 =>
    subst em e1
    refine snd_item a.p.sr hs hj a.it fun s1 y u ry it1 => ?_
    obtain ⟨p1, le1⟩ := a.up u
    refine letOwn it1 (snd_bind eo F.toFrSt cx hb p1 ry fun s2 a2 => ?_)
    have b2 := At_.next p1 it1 a.oI le1 a.lI (fun _ h => h) nI a2
    refine hbd.r _ _ _ _ _ _ _ eo F cx b2.p fun ρ3 s3 f a3 r3 => ?_
    have b3 := At_.next b2.p b2.it b2.oI b2.le b2.lI (fun _ h => h) nI a3
    cases r3 with
    | ret r => exact q _ _ _ b3.le b3.p.sr b3.p.fr (.ret r)
theorem s_for (h : EvE c n sc it σ v σ') (hs : ItS σ'.os v S) (g : ForGo c n sc tg bd S m 0 σ' fl σ'') (hf : ∀ env x, foldedSetIterable it env x = pure x := by exact fun _ _ => rfl) : EvS c n sc (.For tg it bd [] pos) σ fl σ'' :=
  .mk fun _ _ _ _ _ _ _ eo F cx p q => wpAny_For (h.r _ _ _ _ _ _ _ eo cx p fun ρ1 s1 y a1 r1 => snd_iter a1.sr hs r1 fun s2 u2 hz it2 => by
    have a2 := a1.qu u2
    refine snd_forGo eo F cx g ⟨p.next a2, it2, a1.sr.off_top (Nat.le_refl _), a1.sr.osz, .refl⟩ fun ρ3 s3 f le3 sr3 fr3 rf3 => ?_
    exact q _ _ _ ⟨a1.le.weaken.trans (Le.freshW (V' := [s1.heap.objs.size]) u2.le le3 fun x hx => Nat.le_of_eq (List.mem_singleton.mp hx).symm), sr3, fr3⟩ rf3) (hf _)
end
end Rw
namespace Rw
open PySem PySem.W PySem.Calls PyProof.Rows
section
variable {prog : Program} {w : World} {A : Around} {E : Value → Shared → Prop} {s s' s'' : Shared} {env : Env} {csc : Scope}
theorem raw_compLoop {R : Result → Shared → Prop} {elt target iter : Expr} {ifs : List Expr} {scope : Scope} {pos : Pos} {it acc : Value} {env : Env} (I : Nat → Shared → Prop)
    (turn : ∀ n s, I n s → wpAny (model prog w) A (pyNext it) (fun r s₁ => match r with
      | none => R (.ok .next) s₁
      | some v => wpAny (model prog w) A (letOwnedTupleGo target it v) (fun _ s₁ => wpAny (model prog w) A (assign target env v) (fun _ s₂ =>
          wpAny (model prog w) A (forIn ifs true fun c r => if r = true then do let ok ← isTrue c env (eval c env); pure (ForInStep.yield ok) else pure (ForInStep.yield r)) (fun ok s₃ =>
            if ok = true then wpAny (model prog w) A (eval elt env) (fun x s₄ =>
              wpAny (model prog w) A (call (.builtin "list.append") [acc, x]) (fun _ s₅ => ∃ m, m < n ∧ I m s₅) (notedBy (model prog w) A env fun e s' => R (.error e) s') s₄) (notedBy (model prog w) A env fun e s' => R (.error e) s') s₃
            else ∃ m, m < n ∧ I m s₃) (notedBy (model prog w) A env fun e s' => R (.error e) s') s₂) (notedBy (model prog w) A env fun e s' => R (.error e) s') s₁) (notedBy (model prog w) A env fun e s' => R (.error e) s') s₁) (notedBy (model prog w) A env fun e s' => R (.error e) s') s)
    (n : Nat) (h : I n s) :
    codeAny (model prog w) A (.compLoop (.ListComp elt [⟨target, iter, ifs, 0⟩] scope pos) 0 it acc env) R s := by
  refine codeAny_loop rfl I (fun n s hI => ?_) n h
  show wpAny _ A ((compTurn (.ListComp elt [⟨target, iter, ifs, 0⟩] scope pos) 0 it acc env).onRaise (fun x => do noteFrame x env; theTreesLotGoes x)) _ _ s
  refine wpAny_noted ?_
  rw [compTurn_list]
  refine wpAny_bind (wpAny_standAt (wpAny_bind (wpAny_mono (turn n s hI) (fun r s₁ h₁ => ?_) fun _ _ h' => h')))
  cases r with
  | none => exact wpAny_pure h₁
  | some v =>
    refine wpAny_bind (wpAny_mono h₁ (fun _ s₁ h₁ => ?_) fun _ _ h' => h')
    refine wpAny_bind (wpAny_mono h₁ (fun _ s₂ h₂ => wpAny_bind (wpAny_mono h₂ (fun ok s₃ h₃ => ?_) fun _ _ h' => h')) fun _ _ h' => h')
    cases ok with
    | false => exact wpAny_pure ⟨rfl, h₃⟩
    | true =>
      exact wpAny_bind (wpAny_bind (wpAny_mono h₃ (fun x s₄ h₄ => wpAny_bind (wpAny_mono h₄ (fun _ s₅ h₅ => wpAny_pure (wpAny_pure ⟨rfl, h₅⟩)) fun _ _ h' => h')) fun _ _ h' => h'))
noncomputable def clOf (env : Env) : List (Str × NameKind) → List (Str × Addr) → List (Str × Addr)
  | [], cs => cs
  | (x, k) :: r, cs => if k == .free then clOf env r ((x, (env.cells.lookup x).getD 0) :: cs) else clOf env r cs
theorem clos_loop {env : Env} : ∀ (l : List (Str × NameKind)) (cs : List (Str × Addr)), (∀ p ∈ l, p.2 = .free → (env.cells.lookup p.1).isSome = true) →
    (forIn l cs fun (x : Str × NameKind) (r : List (Str × Addr)) => (match x with
      | (name, kind) => if (kind == .free) = true then (do let c ← cellOf env name; pure (ForInStep.yield ((name, c) :: r))) else pure (ForInStep.yield r) : Sem (ForInStep (List (Str × Addr))))) = pure (clOf env l cs)
  | [], cs, _ => rfl
  | (x, k) :: l, cs, h => by
    rw [List.forIn_cons]
    unfold clOf
    cases hk : (k == NameKind.free) with
    | false =>
      simp only [hk, Bool.false_eq_true, if_false, pure_bind]
      exact clos_loop l cs fun p hp => h p (.tail _ hp)
    | true =>
      obtain ⟨c, hc⟩ := Option.isSome_iff_exists.mp (h (x, k) (.head _) (beq_iff_eq.mp hk))
      have : cellOf env x = pure c := by unfold cellOf; dsimp only at hc; rw [hc]
      simp only [hk, if_true, this, pure_bind, hc, Option.getD_some]
      exact clos_loop l _ fun p hp => h p (.tail _ hp)
theorem clos_of {csc : Scope} (h : ∀ p ∈ csc.names, p.2 = .free → (env.cells.lookup p.1).isSome = true) : closureFor csc env = pure (clOf env csc.names []) := by
  unfold closureFor
  have h2 := congrArg (fun m => m >>= fun s => (pure s : Sem (List (Str × Addr)))) (clos_loop csc.names [] h)
  exact h2.trans (by rw [pure_bind])
theorem clOf_mem {env : Env} : ∀ {l : List (Str × NameKind)} {cs : List (Str × Addr)} {p : Str × Addr}, (∀ q ∈ l, q.2 = .free → (env.cells.lookup q.1).isSome = true) → p ∈ clOf env l cs → p ∈ cs ∨ (env.cells.lookup p.1 = some p.2 ∧ (p.1, NameKind.free) ∈ l)
  | [], cs, p, _, hp => .inl hp
  | (x, k) :: l, cs, p, h, hp => by
    unfold clOf at hp
    split at hp
    · rename_i hk
      have hk := beq_iff_eq.mp hk
      subst hk
      rcases clOf_mem (fun q hq => h q (.tail _ hq)) hp with hp | ⟨h1, h2⟩
      · rcases List.mem_cons.mp hp with rfl | hp
        · obtain ⟨c, hc⟩ := Option.isSome_iff_exists.mp (h (x, .free) (.head _) rfl)
          exact .inr ⟨by dsimp only at hc ⊢; rw [hc]; rfl, .head _⟩
        · exact .inl hp
      · exact .inr ⟨h1, .tail _ h2⟩
    · rcases clOf_mem (fun q hq => h q (.tail _ hq)) hp with hp | ⟨h1, h2⟩
      · exact .inl hp
      · exact .inr ⟨h1, .tail _ h2⟩
theorem clOf_has {env : Env} {x : Str} : ∀ {l : List (Str × NameKind)} {cs : List (Str × Addr)}, (x, NameKind.free) ∈ l ∨ (∃ c, (x, c) ∈ cs) → ∃ c, (x, c) ∈ clOf env l cs
  | [], cs, h => by
    rcases h with h | h
    · cases h
    · exact h
  | (y, k) :: l, cs, h => by
    unfold clOf
    split
    · rename_i hk
      refine clOf_has ?_
      rcases h with h | ⟨c, h⟩
      · rcases List.mem_cons.mp h with h | h
        · cases h; exact .inr ⟨_, .head _⟩
        · exact .inl h
      · exact .inr ⟨c, .tail _ h⟩
    · rename_i hk
      refine clOf_has ?_
      rcases h with h | h
      · rcases List.mem_cons.mp h with h | h
        · cases h; exact absurd rfl hk
        · exact .inl h
      · exact .inr h
theorem mem_lookup {β : Type} {x : Str} {b : β} : ∀ {l : List (Str × β)}, (l.map (·.1)).Nodup → (x, b) ∈ l → l.lookup x = some b
  | [], _, h => nomatch h
  | (y, c) :: l, hn, h => by
    simp only [List.map_cons, List.nodup_cons] at hn
    rw [List.lookup_cons]
    rcases List.mem_cons.mp h with h1 | h1
    · cases h1; simp
    · have : (x == y) = false := beq_eq_false_iff_ne.mpr fun e => hn.1 (by subst e; exact List.mem_map_of_mem (f := (·.1)) h1)
      rw [this]
      exact mem_lookup hn.2 h1
theorem lookup_mem' {β : Type} {x : Str} {b : β} {l : List (Str × β)} (h : l.lookup x = some b) : (x, b) ∈ l := by
  obtain ⟨l1, l2, e1, _⟩ := List.lookup_eq_some_iff.mp h
  rw [e1]; simp
theorem clOf_look {env : Env} {l : List (Str × NameKind)} {x : Str} (h : ∀ q ∈ l, q.2 = .free → (env.cells.lookup q.1).isSome = true) (hx : (x, NameKind.free) ∈ l) : (clOf env l []).lookup x = env.cells.lookup x := by
  have agree : ∀ p ∈ clOf env l [], env.cells.lookup p.1 = some p.2 := fun p hp => by
    rcases clOf_mem h hp with hp | hp
    · cases hp
    · exact hp.1
  obtain ⟨c, hc⟩ := clOf_has (env := env) (cs := []) (.inl hx)
  have e := agree _ hc
  cases hl : (clOf env l []).lookup x with
  | none =>
    have := List.lookup_eq_none_iff.mp hl _ hc
    simp at this
  | some d => exact (agree _ (lookup_mem' hl)).symm
theorem relabel_look {x : Str} : ∀ {l : List (Str × NameKind)}, (l.map fun (n, k) => if (k == NameKind.free && env.scope.kind == .function && env.kindOf n == some .cell) then (n, NameKind.cell) else (n, k)).lookup x = (l.lookup x).map fun k => if (k == NameKind.free && env.scope.kind == .function && env.kindOf x == some .cell) = true then .cell else k
  | [] => rfl
  | (y, k) :: l => by
    have ih := relabel_look (x := x) (l := l)
    cases hc : (k == NameKind.free && env.scope.kind == .function && env.kindOf y == some .cell) with
    | true =>
      simp only [List.map_cons, hc, if_true, List.lookup_cons]
      cases hx : x == y with
      | true =>
        have := beq_iff_eq.mp hx
        subst this
        dsimp only
        rw [Option.map_some, if_pos hc]
      | false => exact ih
    | false =>
      simp only [List.map_cons, hc, Bool.false_eq_true, if_false, List.lookup_cons]
      cases hx : x == y with
      | true =>
        have := beq_iff_eq.mp hx
        subst this
        dsimp only
        rw [Option.map_some, if_neg (by rw [hc]; simp)]
      | false => exact ih
end
structure InSc (sc csc : Scope) : Prop where
  kd : csc.kind = .function
  nd : (csc.names.map (·.1)).Nodup
  ks : ∀ p ∈ csc.names, p.2 = .local ∨ p.2 = .free ∨ p.2 = .globalImplicit
  fr : ∀ p ∈ csc.names, p.2 = .free → sc.names.lookup p.1 = some .cell ∨ sc.names.lookup p.1 = some .free
inductive Tests (c : Cx) (n : Nat) (sc : Scope) : List Expr → Sg → Bool → Sg → Prop
  | nil {σ} : Tests c n sc [] σ true σ
  | yes {e es σ σ1 b σ2} : EvT c n sc e σ true σ1 → Tests c n sc es σ1 b σ2 → Tests c n sc (e :: es) σ b σ2
  | no {e es σ σ1} : EvT c n sc e σ false σ1 → Tests c n sc (e :: es) σ false σ1
noncomputable def Sub (f g : Nat → Option V) : Prop := ∀ x v, f x = some v → g x = some v
inductive CompGo (c : Cx) (n : Nat) (sc : Scope) (tg : Expr) (ifs : List Expr) (elt : Expr) (S : Sc) (i : Nat) (vs0 : Nat → Option V) : Nat → Nat → List O → List O → Prop
  | done {m j l os} : Src os S l → l.length ≤ j → CompGo c n sc tg ifs elt S i vs0 m j os os
  | skip {m j l v os σ1 σ2 os'} : Src os S l → l[j]? = some v → BindT c sc tg v ⟨vs0, os⟩ σ1 → Tests c n sc ifs σ1 false σ2 → Sub vs0 σ2.vs → CompGo c n sc tg ifs elt S i vs0 m (j + 1) σ2.os os' → CompGo c n sc tg ifs elt S i vs0 (m + 1) j os os'
  | take {m j l v u ll os σ1 σ2 σ3 os'} : Src os S l → l[j]? = some v → BindT c sc tg v ⟨vs0, os⟩ σ1 → Tests c n sc ifs σ1 true σ2 → EvE c n sc elt σ2 u σ3 → Sub vs0 σ3.vs → σ3.os[i]? = some (.list ll) → ll.length < lim →
      CompGo c n sc tg ifs elt S i vs0 m (j + 1) (σ3.os.set i (.list (ll ++ [u]))) os' → CompGo c n sc tg ifs elt S i vs0 (m + 1) j os os'
section
variable {c : Cx} {A : Around} {E : Value → Shared → Prop} {n : Nat} {sc csc : Scope} {a b e tg it elt : Expr} {ifs : List Expr} {σ σ' σ'' : Sg} {v u : V} {l : List V} {t : Bool} {pos p1 : Pos} {ρ ρ' ρ'' : Rho} {s s' s'' : Shared} {fs : List Env} {os os' : List O} {x y : Value} {i j k m : Nat} {env cenv : Env} {fl : Fl} {bd : List Stmt} {W V' : List Addr} {S : Sc} {I L C D : Addr} {vs0 vs vs' : Nat → Option V}
theorem comp_kind {cl : List (Str × Addr)} (x : Str) : (compEnvC csc cl L env).kindOf x = (csc.names.lookup x).map fun k => if (k == NameKind.free && env.scope.kind == .function && env.kindOf x == some .cell) = true then .cell else k :=
  relabel_look
theorem in_look (h : InSc sc csc) {x : Str} {k : NameKind} (e : csc.names.lookup x = some k) : k = .local ∨ k = .free ∨ k = .globalImplicit := h.ks _ (lookup_mem' e)
theorem comp_envOk {cl : List (Str × Addr)} (h : InSc sc csc) (eo : EnvOk sc env) : EnvOk csc (compEnvC csc cl L env) := by
  refine ⟨eo.gl, eo.bu, h.kd, fun x e => ?_, fun x e => ?_, fun x e => ?_, fun x e => ?_, fun x e => ?_⟩
  · rw [comp_kind, e]; rfl
  · rw [comp_kind, e]; rfl
  · rcases in_look h e with q | q | q <;> cases q
  · rcases in_look h e with q | q | q <;> cases q
  · rw [comp_kind, e, Option.map_some]
    split
    · exact .inr rfl
    · exact .inl rfl
theorem FR.sub (F : FR c env vs ρ s) (h : Sub vs' vs) : FR c env vs' ρ s :=
  ⟨let ⟨m, hm, hv⟩ := F.ns; ⟨m, hm, fun x v hx => hv x v (h x v hx)⟩, fun x v hx => F.cel x v (h x v hx), F.all, F.cl, F.inj, F.lc, F.nof⟩
theorem comp_ownW {cl : List (Str × Addr)} : ownW (compEnvC csc cl L env) = [L] := by
  unfold ownW
  have : ((compEnvC csc cl L env).cells.filter fun p => (compEnvC csc cl L env).func.isSome && (compEnvC csc cl L env).kindOf p.1 == some .cell) = [] := List.filter_eq_nil_iff.mpr fun p _ => Bool.false_ne_true
  rw [this]; rfl
theorem comp_frOk {cl : List (Str × Addr)} (h : InSc sc csc) (hL : c.h0.objs.size ≤ L) : FrSt c (compEnvC csc cl L env) :=
  ⟨fun b hb => by rw [comp_ownW] at hb; rw [List.mem_singleton.mp hb]; exact hL, h.kd⟩
theorem comp_free (h : InSc sc csc) {cl : List (Str × Addr)} {x : Str} (hk : (compEnvC csc cl L env).kindOf x = some .cell ∨ (compEnvC csc cl L env).kindOf x = some .free) : (x, NameKind.free) ∈ csc.names := by
  rw [comp_kind] at hk
  cases hl : csc.names.lookup x with
  | none => rw [hl] at hk; exact hk.elim (fun h => nomatch h) fun h => nomatch h
  | some k =>
    rw [hl] at hk
    rcases in_look h hl with e | e | e
    · subst e; exact hk.elim (fun h => nomatch h) fun h => nomatch h
    · subst e; exact lookup_mem' hl
    · subst e; exact hk.elim (fun h => nomatch h) fun h => nomatch h
noncomputable def Seen (c : Cx) (csc : Scope) (vs0 vs : Nat → Option V) : Prop := ∀ x u, vs0 x = some u → csc.names.lookup (c.nm x) = some .free ∧ vs x = some u
theorem hfree (h : InSc sc csc) (eo : EnvOk sc env) : ∀ q ∈ csc.names, q.2 = .free → env.kindOf q.1 = some .cell ∨ env.kindOf q.1 = some .free := fun q hq e => (h.fr q hq e).elim (fun e => .inl (eo.c1 _ e)) fun e => (eo.f1 _ e).symm
theorem hall (h : InSc sc csc) (eo : EnvOk sc env) (F : FR c env vs ρ s) : ∀ q ∈ csc.names, q.2 = .free → (env.cells.lookup q.1).isSome = true := fun q hq e => by
  obtain ⟨b, hb⟩ := F.all _ (hfree h eo q hq e)
  rw [hb]; rfl
theorem comp_env (h : InSc sc csc) (eo : EnvOk sc env) (p : Pre c fs env σ ρ s) (hv : Seen c csc vs0 σ.vs) {Q : Env → Shared → Prop}
    (q : ∀ s1, Qu s s1 → s.heap.objs.size < s1.heap.objs.size → FR c (compEnvC csc (clOf env csc.names []) s.heap.objs.size env) vs0 ρ s1 → Q (newEnv csc s.heap.objs.size env.globals (clOf env csc.names []) env.qual none .none (some env) env.builtins) s1) {bu : Addr} :
    wpAny (model c.prog c.w) A (newFunctionEnv csc env.globals (clOf env csc.names []) [] env.qual none .none (some env) bu) Q E s := by
  have F := p.fr
  have ha := hall h eo F
  have agree : ∀ {x d}, (clOf env csc.names []).lookup x = some d → env.cells.lookup x = some d := fun {x d} e => (clOf_mem ha (lookup_mem' e)).elim (fun q => nomatch q) (·.1)
  refine wpAny_newFunctionEnv (fun x hx e => ?_) (fun _ hx => nomatch hx) (fun h' hn hs => ?_) h.kd
  · rcases h.ks x hx with q | q | q <;> rw [e] at q <;> cases q
  have hz : s.heap.objs.size < h'.objs.size := by rw [hs.1, Heap.size_push]; exact Nat.lt_succ_self _
  have u : Qu s { s with heap := h', toks := s.toks + ([] : List (Str × Value)).length } :=
    ⟨Nat.le_of_lt hz, fun b o hb => (hs.2 b (Nat.ne_of_lt (Heap.lt_size hb))).trans (Heap.get?_push_of_some _ hb), rfl, rfl⟩
  refine q _ u hz ⟨⟨_, hn, fun x v hx hk => ?_⟩, fun x v hx hk => ?_, fun x hk => ?_, fun pp hp => ?_, fun n m d e1 e2 => F.inj _ _ _ (agree e1) (agree e2), fun n d e => ?_, fun b hb => ?_⟩
  · rw [comp_kind, (hv x v hx).1, Option.map_some] at hk
    split at hk <;> cases hk
  · have hm := lookup_mem' (hv x v hx).1
    obtain ⟨d, y, h1, h2, h3⟩ := F.cel x v (hv x v hx).2 (hfree h eo _ hm rfl)
    exact ⟨d, y, (clOf_look ha hm).trans h1, h2.keeps u.keep, h3⟩
  · have hm := comp_free h hk
    obtain ⟨d, hd⟩ := F.all _ (hfree h eo _ hm rfl)
    exact ⟨d, (clOf_look ha hm).trans hd⟩
  · rcases clOf_mem ha hp with q | q
    · cases q
    · obtain ⟨y, hy⟩ := F.cl _ (lookup_mem' q.1)
      exact ⟨y, hy.keeps u.keep⟩
  · exact fun e' => absurd (F.nof d (cell_own (agree e))).2 (e' ▸ Nat.lt_irrefl _)
  · rcases List.mem_cons.mp hb with rfl | hb
    · exact ⟨p.sr.off_top (Nat.le_refl _), hz⟩
    · obtain ⟨pp, hp, rfl⟩ := List.mem_map.mp hb
      rcases clOf_mem ha hp with q | q
      · cases q
      · have := F.nof pp.2 (cell_own q.1)
        exact ⟨this.1, Nat.lt_of_lt_of_le this.2 u.sz⟩
theorem no_tests {Q : Bool → Shared → Prop} (h : Q false s) : wpAny (model c.prog c.w) A (forIn ifs false fun c r => if r = true then do let ok ← isTrue c env (eval c env); pure (ForInStep.yield ok) else pure (ForInStep.yield r)) Q E s := by
  induction ifs with
  | nil => rw [List.forIn_nil]; exact wpAny_pure h
  | cons e es ih =>
    rw [List.forIn_cons]
    refine wpAny_bind ?_
    rw [if_neg Bool.false_ne_true]
    exact wpAny_pure ih
theorem snd_tests (eo : EnvOk sc env) (cx : Ctx A fs n) (h : Tests c n sc ifs σ t σ') (p : Pre c fs env σ ρ s) {Q : Bool → Shared → Prop} (q : ∀ ρ' s', Aft c fs env ρ s σ' ρ' s' → Q t s') : wpAny (model c.prog c.w) A (forIn ifs true fun c r => if r = true then do let ok ← isTrue c env (eval c env); pure (ForInStep.yield ok) else pure (ForInStep.yield r)) Q E s := by
  induction h generalizing ρ s with
  | nil => rw [List.forIn_nil]; exact wpAny_pure (q _ _ p.aft0)
  | yes h1 _ ih =>
    rw [List.forIn_cons]
    refine wpAny_bind ?_
    rw [if_pos rfl]
    exact wpAny_bind (h1.r _ _ _ _ _ _ _ eo cx p fun ρ1 s1 a1 => wpAny_pure (ih (p.next a1) fun ρ2 s2 a2 => q _ _ (a1.trans a2)))
  | @no e es _ _ h1 =>
    rw [List.forIn_cons]
    refine wpAny_bind ?_
    rw [if_pos rfl]
    exact wpAny_bind (h1.r _ _ _ _ _ _ _ eo cx p fun ρ1 s1 a1 => wpAny_pure (no_tests (q _ _ a1)))
theorem At_.go {ρ0 : Rho} {s0 : Shared} (b : At_ c fs env I S W ρ0 s0 k σ ρ s) (a : Aft c fs env ρ s σ' ρ' s') : At_ c fs env I S W ρ0 s0 k σ' ρ' s' := At_.next b.p b.it b.oI b.le b.lI (V' := []) (fun _ h => nomatch h) List.not_mem_nil a
theorem turn_head (eo : EnvOk csc cenv) (F : FrSt c cenv) (ow : ownW cenv = [cenv.locals]) (cx : Ctx A fs n) {ρ0 : Rho} {s0 : Shared} {σ1 σ2 : Sg} (a : At_ c fs cenv I S [cenv.locals] ρ0 s0 j σ ρ s) (w : Up I s s') (ry : VR c ρ v y) (it1 : ItR c ρ s'.heap I S (j + 1)) (di : ρ[i]? = some (D, D)) (hb : BindT c csc tg v σ σ1) (ht : Tests c n csc ifs σ1 t σ2) {Φ : Bool → Shared → Prop}
    (q : ∀ ρ' s', At_ c fs cenv I S [cenv.locals] ρ0 s0 (j + 1) σ2 ρ' s' → ρ'[i]? = some (D, D) → Φ t s') : wpAny (model c.prog c.w) A (letOwnedTupleGo tg (.ref I) y) (fun _ s₁ => wpAny (model c.prog c.w) A (assign tg cenv y) (fun _ s₂ =>
          wpAny (model c.prog c.w) A (forIn ifs true fun c r => if r = true then do let ok ← isTrue c cenv (eval c cenv); pure (ForInStep.yield ok) else pure (ForInStep.yield r)) Φ E s₂) E s₁) E s' := by
  obtain ⟨o, vs, h1, h2, h3⟩ := a.it.tame
  have nI : I ∉ ownW cenv := fun h => a.p.fr.not_own h1 h2 (own_sub h)
  obtain ⟨p1, le1⟩ := a.up w
  refine letOwn it1 (snd_bind eo F cx hb p1 ry fun s2 a2 => ?_)
  exact snd_tests eo cx ht (p1.next a2) fun ρ3 s3 a3 => q _ _ ((At_.next p1 it1 a.oI le1 a.lI (fun x hx => ow ▸ hx) nI a2).go a3) (by obtain ⟨e, rfl, _⟩ := a3.le.pre; exact rho_pre di)
theorem At_.weak {ρ0 : Rho} {s0 : Shared} (h : Sub vs0 σ.vs) (a : At_ c fs env I S W ρ0 s0 k σ ρ s) : At_ c fs env I S W ρ0 s0 k ⟨vs0, σ.os⟩ ρ s := ⟨⟨a.p.sr, a.p.fr.sub h, a.p.nf⟩, a.it, a.oI, a.lI, a.le⟩
theorem snd_compGo (eo : EnvOk csc cenv) (F : FrSt c cenv) (ow : ownW cenv = [cenv.locals]) (cx : Ctx A fs n) {ρ0 : Rho} {s0 : Shared} {R : Result → Shared → Prop} (g : CompGo c n csc tg ifs elt S i vs0 m j os os') (at0 : At_ c fs cenv I S [cenv.locals] ρ0 s0 j ⟨vs0, os⟩ ρ s) (di : ρ[i]? = some (D, D))
    (q : ∀ ρ' s', SR c fs ρ' os' s' → ρ'[i]? = some (D, D) → Le c [I, cenv.locals] fs ρ0 s0 ρ' s' → (∃ mm, s'.heap.Ns cenv.locals mm) → R (.ok .next) s') :
    codeAny (model c.prog c.w) A (.compLoop (.ListComp elt [⟨tg, it, ifs, 0⟩] csc pos) 0 (.ref I) (.ref D) cenv) R s := by
  refine raw_compLoop (fun m s => ∃ j os ρ, CompGo c n csc tg ifs elt S i vs0 m j os os' ∧ At_ c fs cenv I S [cenv.locals] ρ0 s0 j ⟨vs0, os⟩ ρ s ∧ ρ[i]? = some (D, D)) (fun m s hI => ?_) m ⟨j, os, ρ, g, at0, di⟩
  obtain ⟨j, os, ρ, g, a, di⟩ := hI
  cases g with
  | done hs hj =>
    refine snd_end cx.hd a.p.sr hs hj a.it fun s1 u => ?_
    obtain ⟨p1, le1⟩ := a.up u
    obtain ⟨mm, hm, _⟩ := p1.fr.ns
    exact q _ _ p1.sr di le1 ⟨mm, hm⟩
  | skip hs hj hb ht hsub g =>
    refine snd_item a.p.sr hs hj a.it fun s1 y u ry it1 => turn_head eo F ow cx a u ry it1 di hb ht fun ρ' s' a' di' => ?_
    rw [if_neg Bool.false_ne_true]
    exact ⟨_, Nat.lt_succ_self _, _, _, _, g, a'.weak hsub, di'⟩
  | @take _ _ _ _ u' ll _ _ _ σ3 _ hs hj hb ht he hsub hl hll g =>
    refine snd_item a.p.sr hs hj a.it fun s1 y u ry it1 => turn_head eo F ow cx a u ry it1 di hb ht fun ρ' s' a' di' => ?_
    rw [if_pos rfl]
    refine he.r _ _ _ _ _ _ _ eo cx a'.p fun ρ4 s4 y4 a4 r4 => ?_
    have b4 := a'.go a4
    have di4 : ρ4[i]? = some (D, D) := by obtain ⟨e, rfl, _⟩ := a4.le.pre; exact rho_pre di'
    obtain ⟨D', its, k', hD, hp, hg, hr⟩ := list_of b4.p.sr hl ⟨_, di4, rfl⟩
    cases hD
    refine append_at hg (fun h' hs hn => ?_) (size_lim (by rw [hr.size]; exact hll))
    have w : Up (D, D).2 s4 { s4 with heap := h' } := up_of hs
    have b5 : At_ c fs cenv I S [cenv.locals] ρ0 s0 _ ⟨σ3.vs, σ3.os.set i (.list (ll ++ [u']))⟩ ρ4 { s4 with heap := h' } := b4.go (b4.p.set (w.le (mem2 hp)) (b4.p.sr.set hl hp w (.list hn (by rw [Array.toList_push]; exact hr.append (.cons r4 .nil)))))
    exact ⟨_, Nat.lt_succ_self _, _, _, _, g, At_.weak (σ := ⟨σ3.vs, σ3.os.set i (.list (ll ++ [u']))⟩) hsub b5, di4⟩
theorem iter_self (it : ItR c ρ s.heap I S j) {Q : Value → Shared → Prop} (q : Q (.ref I) s) : wpAny (model c.prog c.w) A (pyIter (.ref I)) Q E s := by
  cases it with
  | live h1 h2 => exact wpAny_pyIter_listiter h1 q
  | rng h1 => exact wpAny_pyIter_rangeiter h1 q
theorem snd_comp (hin : InSc sc csc) (h : EvE c n sc it σ v σ') (hs : ItS σ'.os v S) (hv : Seen c csc vs0 σ'.vs) (g : CompGo c n csc tg ifs elt S σ'.os.length vs0 m 0 (σ'.os ++ [.list []]) os') (hf : ∀ env x, foldedSetIterable it env x = pure x)
    (eo : EnvOk sc env) (cx : Ctx A fs n) (p : Pre c fs env σ ρ s) {use : Option (Value → Sem Unit)} {pos' : Pos} {Q : Value → Shared → Prop}
    (q : ∀ ρ' s' y C, Aft c fs env ρ s ⟨σ'.vs, os'⟩ ρ' s' → VR c ρ' (.obj σ'.os.length) y → s.heap.objs.size ≤ C → off c ρ' C → (∃ mm, s'.heap.Ns C mm) → compPost (model c.prog c.w) A E use Q y C (.ok .next) s') :
    wpAny (model c.prog c.w) A (comprehension (.ListComp elt [⟨tg, it, ifs, 0⟩] csc pos) csc env pos' (newList []) false (eval it env) use) Q E s := by
  refine wpAny_comprehension_free rfl (hf _) (clos_of (hall hin eo p.fr)) hin.kd (fun x hx e => (mem_lookup hin.nd hx).trans (congrArg some e)) ?_
  refine h.r _ _ _ _ _ _ _ eo cx p fun ρ1 s1 y1 a1 r1 => snd_iter a1.sr hs r1 fun s2 u2 hz2 it2 => wpAny_newList ?_
  have p1 := p.next a1
  have p2 := p1.qu u2
  obtain ⟨a3, r3⟩ := new_obj p2 (o := { cls := .type "list", data := .seq ([] : List Value).toArray }) (t := s2.toks) (.newL .nil)
  have p3 := p2.next a3
  refine comp_env hin eo p3 hv fun s4 u4 hz4 fr4 => ?_
  have oI := a1.sr.off_top (Nat.le_refl s1.heap.objs.size)
  have it4 : ItR c _ s4.heap s1.heap.objs.size S 0 := (it2.le a3.le oI List.not_mem_nil (a1.sr.nofr (Nat.le_refl _))).le (u4.le (W := []) (fs := [])) (off_le a3.le oI hz2) List.not_mem_nil List.not_mem_nil
  have di : (ρ1 ++ [(s2.heap.objs.size, s2.heap.objs.size)])[σ'.os.length]? = some (s2.heap.objs.size, s2.heap.objs.size) := by rw [← a1.sr.len, List.getElem?_concat_length]
  have loop : codeAny (model c.prog c.w) A (.compLoop (.ListComp elt [⟨tg, it, ifs, 0⟩] csc pos) 0 (.ref s1.heap.objs.size) (.ref s2.heap.objs.size) (compEnvC csc (clOf env csc.names []) (s2.heap.push { cls := .type "list", data := .seq ([] : List Value).toArray }).objs.size env))
      (compPost (model c.prog c.w) A E use Q (.ref s2.heap.objs.size) (s2.heap.push { cls := .type "list", data := .seq ([] : List Value).toArray }).objs.size) s4 := by
    have hC : s1.heap.objs.size ≤ (s2.heap.push { cls := .type "list", data := .seq ([] : List Value).toArray }).objs.size := Nat.le_trans u2.sz a3.le.sz
    refine snd_compGo (comp_envOk hin eo) (comp_frOk hin (Nat.le_trans a1.sr.osz hC)) comp_ownW cx g ⟨⟨a3.sr.qu u4, fr4, p.nf⟩, it4, off_le a3.le oI hz2, a1.sr.osz, .refl⟩ di fun ρ' s' sr' di' le' mC => ?_
    have l3 : Le c [] fs ρ1 s1 ρ' s' := ((u2.le.trans a3.le).trans u4.le).fresh le' fun x hx => by
      rcases List.mem_cons.mp hx with rfl | hx
      · exact Nat.le_refl _
      · rw [List.mem_singleton.mp hx]; exact hC
    exact q _ _ _ _ (a1.trans ⟨l3, sr', a1.fr.mono l3⟩) ⟨_, di', rfl⟩ (Nat.le_trans a1.le.sz hC) (off_le le' (a3.sr.off_top (Nat.le_refl _)) hz4) mC
  exact codeAny_compStart_list loop (iter_self it4 loop)
theorem let_C {h' : Heap} (p : Pre c fs env σ ρ s) (hW : ∀ b ∈ W, b ∈ ownA env) (a : AftW c W fs env ρ s σ' ρ' s') (hC : s.heap.objs.size ≤ C) (oC : off c ρ' C) (mC : ∃ mm, s'.heap.Ns C mm) (hs : Heap.SameBut C s'.heap h') : AftW c W fs env ρ s σ' ρ' { s' with heap := h' } := by
  obtain ⟨mm, o, es, ep, g1, g2, g3⟩ := mC
  have w : Up C s' { s' with heap := h' } := up_of hs
  have sr := a.sr.upd w g1 (tame_dict g2) (Nat.le_trans p.sr.osz hC) (fun hf => absurd hf (p.sr.nofr hC)) rfl fun i o hi => .inl ⟨hi, fun q hq => oC.1 q (mem2 hq)⟩
  refine ⟨a.le.freshW (V' := [C]) (w.leW.sup fun x hx => List.mem_append_left _ hx) fun x hx => by rw [List.mem_singleton.mp hx]; exact hC, sr, a.fr.monoW (fs := fs) w.leW fun b hb hm => ?_⟩
  rw [List.mem_singleton.mp hm] at hb
  exact absurd (p.fr.nof _ hb).2 (Nat.not_lt.mpr hC)
theorem e_comp (hin : InSc sc csc) (h : EvE c n sc it σ v σ') (hs : ItS σ'.os v S) (hv : Seen c csc vs0 σ'.vs) (g : CompGo c n csc tg ifs elt S σ'.os.length vs0 m 0 (σ'.os ++ [.list []]) os') (hf : ∀ env x, foldedSetIterable it env x = pure x := by exact fun _ _ => rfl) :
    EvE c n sc (.ListComp elt [⟨tg, it, ifs, 0⟩] csc pos) σ (.obj σ'.os.length) ⟨σ'.vs, os'⟩ := by
  refine ⟨?_⟩; intro A env fs ρ s Q E eo cx p q
  rw [eval_ListComp]
  exact snd_comp hin h hs hv g hf eo cx p fun ρ' s' y C a ry hC oC ⟨mm, hm⟩ => ⟨mm, hm, fun h' hs => q _ _ _ (let_C p (fun _ h => nomatch h) a hC oC ⟨mm, hm⟩ hs) ry⟩
theorem s_comp (k : Nat) {x : Str} (hn : c.nm k = x) (hb : bndB sc x = true) (hin : InSc sc csc) (h : EvE c n sc it σ v σ') (hs : ItS σ'.os v S) (hv : Seen c csc vs0 σ'.vs) (g : CompGo c n csc tg ifs elt S σ'.os.length vs0 m 0 (σ'.os ++ [.list []]) os') {p2 : Pos} (hf : ∀ env x, foldedSetIterable it env x = pure x := by exact fun _ _ => rfl) :
    EvS c n sc (.Assign [.Name x p1] (.ListComp elt [⟨tg, it, ifs, 0⟩] csc pos) p2) σ .nxt ⟨upd σ'.vs k (.obj σ'.os.length), os'⟩ := by
  subst hn
  refine ⟨?_⟩; intro A env fs ρ s Q E eo F cx p q
  obtain ⟨bb, hbb⟩ : ∃ bb, swapsWith (.ListComp elt [⟨tg, it, ifs, 0⟩] csc pos) (some (.Name (c.nm k) p1)) p2.line env = pure bb := ⟨_, rfl⟩
  cases bb with
  | false => exact wpAny_Assign_Name ((e_comp hin h hs hv g hf).r _ _ _ _ _ _ _ eo cx p fun ρ1 s1 z a1 r1 => snd_store F.toFrSt (p.next a1) (bnd_of eo hb) r1 fun s2 a2 => q _ _ _ (a1.toS.trans a2) .nxt) hbb
  | true =>
    rw [exec_Assign_Name_used _ _ _ _ hbb]
    refine wpAny_bind (wpAny_standAt (wpAny_bind ?_))
    show wpAny _ A (do let _ ← comprehension (.ListComp elt [⟨tg, it, ifs, 0⟩] csc pos) csc env _ (newList []) false (eval it env) (some (assign (.Name (c.nm k) p1) env))) _ _ s
    refine wpAny_bind (wpAny_mono (Q := fun _ s' => Q .next s') (snd_comp hin h hs hv g hf eo cx p (use := some (assign (.Name (c.nm k) p1) env)) fun ρ' s' y C a ry hC oC ⟨mm, hm⟩ => ?_) (fun _ s' hq => wpAny_pure (wpAny_pure hq)) fun _ _ e => e)
    show wpAny _ A (assign (.Name (c.nm k) p1) env y) _ _ _
    refine assign_Name (snd_store F.toFrSt (p.next a) (bnd_of eo hb) ry fun s2 a2 => ?_)
    have mC2 := Ns_of_data hm fun o ho => a2.le.frm C o ho oC fun hm => absurd (p.fr.nof C (own_sub hm)).2 (Nat.not_lt.mpr hC)
    exact ⟨mm, mC2, fun h' hs => q _ _ _ (let_C p (fun _ h => own_sub h) (a.toS.trans a2) hC oC ⟨mm, mC2⟩ hs) .nxt⟩
end
end Rw
namespace Rw
open PySem PySem.W PySem.Calls PyProof.Rows
theorem cells_names : ∀ (names : List (Str × NameKind)) (n : Nat) (acc : List (Str × Addr)), (cellsFrom n names acc).map (·.1) = ((names.filter fun p => p.2 == .cell).map (·.1)).reverse ++ acc.map (·.1)
  | [], n, acc => by simp [cellsFrom]
  | (x, k) :: r, n, acc => by
    unfold cellsFrom
    cases hk : k == NameKind.cell with
    | true =>
      rw [if_pos rfl, cells_names, List.filter_cons_of_pos (by simpa using hk)]
      simp
    | false =>
      rw [if_neg (by simp), cells_names, List.filter_cons_of_neg (by simpa using hk)]
theorem cells_has {names : List (Str × NameKind)} {n : Nat} {x : Str} (h : (x, NameKind.cell) ∈ names) : ∃ c, (cellsFrom n names []).lookup x = some c := by
  have h1 : x ∈ (cellsFrom n names []).map (·.1) := by
    rw [cells_names]
    simp only [List.map_nil, List.append_nil, List.mem_reverse]
    exact List.mem_map.mpr ⟨(x, .cell), List.mem_filter.mpr ⟨h, rfl⟩, rfl⟩
  obtain ⟨p, hp, rfl⟩ := List.mem_map.mp h1
  cases hl : (cellsFrom n names []).lookup p.1 with
  | some c => exact ⟨c, rfl⟩
  | none =>
    have := List.lookup_eq_none_iff.mp hl p hp
    simp at this
theorem cells_nd {names : List (Str × NameKind)} {n : Nat} (h : (names.map (·.1)).Nodup) : ((cellsFrom n names []).map (·.1)).Nodup := by
  rw [cells_names]
  simp only [List.map_nil, List.append_nil]
  exact (List.reverse_perm _).nodup_iff.mpr (List.Nodup.sublist (List.Sublist.map _ List.filter_sublist) h)
theorem bindL_at {k : Str → Option NameKind} {x : Str} (hk : k x = some .local) : ∀ {b : List (Str × Value)} {m : Str → Option Value}, (b.map (·.1)).Nodup → (∀ y, b.lookup x = some y → bindL k b m x = some y) ∧ (b.lookup x = none → bindL k b m x = m x)
  | [], m, _ => ⟨fun y h => by simp at h, fun _ => rfl⟩
  | (n, v) :: b, m, hn => by
    simp only [List.map_cons, List.nodup_cons] at hn
    have ih := fun m => bindL_at hk (m := m) hn.2
    unfold bindL
    by_cases e : x = n
    · subst e
      have hb : b.lookup x = none := by
        rw [List.lookup_eq_none_iff]
        intro p hp
        have : x ≠ p.1 := fun e => hn.1 (e ▸ List.mem_map_of_mem hp)
        simpa using this
      rw [if_pos hk]
      refine ⟨fun y h => ?_, fun h => by simp at h⟩
      simp at h
      subst h
      rw [(ih _).2 hb]; simp
    · have e1 : (x == n) = false := beq_eq_false_iff_ne.mpr e
      simp only [List.lookup_cons, e1]
      refine ⟨fun y h => (ih _).1 y h, fun h => ?_⟩
      rw [(ih _).2 h]
      split
      · exact if_neg e
      · rfl
theorem bindC_at {k : Str → Option NameKind} {x : Str} (hk : k x ≠ some .local) : ∀ {b : List (Str × Value)} {m : Str → Option Value}, (b.map (·.1)).Nodup → (∀ y, b.lookup x = some y → bindC k b m x = some y) ∧ (b.lookup x = none → bindC k b m x = m x)
  | [], m, _ => ⟨fun y h => by simp at h, fun _ => rfl⟩
  | (n, v) :: b, m, hn => by
    simp only [List.map_cons, List.nodup_cons] at hn
    have ih := fun m => bindC_at hk (m := m) hn.2
    unfold bindC
    by_cases e : x = n
    · subst e
      have hb : b.lookup x = none := by
        rw [List.lookup_eq_none_iff]
        intro p hp
        have : x ≠ p.1 := fun e => hn.1 (e ▸ List.mem_map_of_mem hp)
        simpa using this
      rw [if_neg hk]
      refine ⟨fun y h => ?_, fun h => by simp at h⟩
      simp at h
      subst h
      rw [(ih _).2 hb]; simp
    · have e1 : (x == n) = false := beq_eq_false_iff_ne.mpr e
      simp only [List.lookup_cons, e1]
      refine ⟨fun y h => (ih _).1 y h, fun h => ?_⟩
      rw [(ih _).2 h]
      split
      · rfl
      · exact if_neg e
noncomputable def varsOf (b : List (Nat × V)) : Nat → Option V := fun x => b.lookup x
noncomputable def CloIs (K : Frag) (sc : Scope) (cl : List (Str × Addr)) : Prop := (cl = [] ∧ ∀ p ∈ sc.names, p.2 ≠ .free) ∨ ∃ x c o v, cl = [(x, c)] ∧ (∀ p ∈ sc.names, p.2 ≠ .cell ∧ (p.2 = .free → p.1 = x)) ∧ K.lookup c = some o ∧ o.data = .cell v
noncomputable def BindJ (c : Cx) (fd : FuncData) (vs : List V) (kv : List (Nat × V)) (os : List O) (bl : List (Nat × V)) (os' : List O) : Prop := ∀ A fs ρ s vs' ks' (Q : List (Str × Value) → Shared → Prop) E, SR c fs ρ os s → VRs c ρ vs vs' → KR c ρ kv ks' →
  (∀ ρ' s' bs, Qu s s' → Le c [] fs ρ s ρ' s' → SR c fs ρ' os' s' → KR c ρ' bl bs → Q bs s') → wpAny (model c.prog c.w) A (bindArgs fd ⟨vs', ks'⟩) Q E s
structure FnAt (c : Cx) (f : Nat) (ps : List Nat) (b : List Stmt) (fd : FuncData) : Prop where
  ho : ∃ fo, c.K.lookup f = some fo ∧ fo.data = .func fd
  bd : fd.body = .stmts b
  gl : fd.globals = mainGlobals
  bu : fd.builtins = builtinsNs
  kd : fd.scope.kind = .function
  ge : fd.scope.isGenerator = false
  co : fd.scope.isCoroutine = false
  own : ∀ k ∈ ps, fd.scope.names.lookup (c.nm k) = some .local ∨ fd.scope.names.lookup (c.nm k) = some .cell
  ci : codeIn c.K fd.code fd.qualname = true
  ct : CodeAt c.txs c.h0 fd.code
  nd : (fd.scope.names.map (·.1)).Nodup
  cl : CloIs c.K fd.scope fd.closure
  pn : ps.Nodup
section
variable {c : Cx} {A : Around} {E : Value → Shared → Prop} {n : Nat} {sc : Scope} {σ σ' σ'' : Sg} {v u : V} {vs : List V} {kv b : List (Nat × V)} {ρ ρ' ρ'' : Rho} {s s' s'' : Shared} {fs : List Env} {os os' : List O} {x y : Value} {env : Env} {fl : Fl} {bd : List Stmt} {W V' : List Addr} {L : Addr} {bS : List (Str × Value)} {scope : Scope}
theorem KR.look {xs : List (Str × Value)} (h : KR c ρ b xs) {z : Nat} (e : b.lookup z = some v) : ∃ y, xs.lookup (c.nm z) = some y ∧ VR c ρ v y := by
  induction h with
  | nil => cases e
  | @cons m w x l xs a _ ih =>
    rw [List.lookup_cons] at e
    rw [List.lookup_cons]
    by_cases q : z = m
    · subst q
      rw [beq_self_eq_true] at e ⊢
      exact ⟨_, rfl, Option.some.inj e ▸ a⟩
    · rw [beq_eq_false_iff_ne.mpr q] at e
      rw [beq_eq_false_iff_ne.mpr fun h => q (c.inj _ _ h)]
      exact ih e
theorem KR.names {xs : List (Str × Value)} (h : KR c ρ b xs) : xs.map (·.1) = (b.map (·.1)).map c.nm := by
  induction h with
  | nil => rfl
  | cons _ _ ih => rw [List.map_cons, List.map_cons, List.map_cons, ih]
theorem nodup_nm {l : List Nat} (h : l.Nodup) : (l.map c.nm).Nodup := by
  induction h with
  | nil => exact .nil
  | cons h1 _ ih => exact List.nodup_cons.mpr ⟨fun hm => let ⟨_, hy, e⟩ := List.mem_map.mp hm; h1 _ hy (c.inj _ _ e).symm, ih⟩
theorem Qu.call {m : Str → Option Value} (x : InCall s L m s') : Qu s s' := by
  obtain ⟨h', tk, rfl⟩ := x.same
  exact ⟨Nat.le_trans x.fresh (Nat.le_of_lt x.ns.lt), x.keep, rfl, rfl⟩
theorem frA_cons (hf : env.frame = some L) : frA (env :: fs) = L :: frA fs := by unfold frA; rw [List.filterMap_cons, hf]
theorem SR.enter (sr : SR c fs ρ os s) (u : Qu s s') (hf : env.frame = some L) (hL : s.heap.objs.size ≤ L) (hm : env.scope.kind ≠ .module) (hn : ∃ m, s'.heap.Ns L m) : SR c (env :: fs) ρ os s' := by
  have sr' := sr.qu u
  refine ⟨sr'.len, sr'.nd, sr'.nd1, sr'.lo, sr'.inn, fun p hp hm => ?_, sr'.ob, sr'.bare, sr'.old, sr'.osz, fun e he => ?_, sr'.tx, sr'.txz⟩
  · rw [frA_cons hf] at hm
    rcases List.mem_cons.mp hm with e | hm
    · exact absurd (sr.inn p hp).2 (by rw [e]; exact Nat.not_lt.mpr hL)
    · exact sr.nfr p hp hm
  · rcases List.mem_cons.mp he with rfl | he
    · obtain ⟨m, o, es, ep, h1, h2, _⟩ := hn
      exact ⟨hm, L, o, hf, Nat.le_trans sr.osz hL, h1, es, ep, h2⟩
    · exact sr'.ff e he
theorem SR.leave (sr : SR c (env :: fs) ρ os s) (hf : env.frame = some L) : SR c fs ρ os s :=
  ⟨sr.len, sr.nd, sr.nd1, sr.lo, sr.inn, fun p hp hm => sr.nfr p hp (by rw [frA_cons hf]; exact .tail _ hm), sr.ob, sr.bare, sr.old, sr.osz, fun e he => sr.ff e (.tail _ he), sr.tx, sr.txz⟩
theorem Le.leave (a : Le c W (env :: fs) ρ s ρ' s') (hf : env.frame = some L) : Le c (L :: W) fs ρ s ρ' s' :=
  ⟨a.pre, a.sz, fun b o hb ho hw hn => a.keep b o hb ho (fun h => hw (.tail _ h)) (by rw [frA_cons hf]; exact fun hm => (List.mem_cons.mp hm).elim (fun e => hw (e ▸ .head _)) hn), fun b o hb ho hw => a.frm b o hb ho fun h => hw (.tail _ h), a.os, a.gl, a.gsz⟩
theorem Ctx.deeper (x : Ctx A fs (n + 1)) : Ctx (A.deeper env) (env :: fs) n :=
  ⟨x.hd, by have := x.dp; show A.depth + 1 + _ + _ < _; omega, by have := x.un; show A.units + 3 + _ + _ < _; omega, by show A.frames.map (env :: ·) = _; rw [x.fr]; rfl⟩
theorem fr_call {gA : Addr} {ql : Str} {fA : Option Addr} {cd : Value} {bu : Addr} (sr : SR c fs ρ os s)
    (he : env = newEnv scope s.heap.objs.size gA (cellsFrom (s.heap.objs.size + 1) scope.names []) ql fA cd none bu) (hnd : (scope.names.map (·.1)).Nodup) (hfree : ∀ p ∈ scope.names, p.2 ≠ .free)
    (x : InCallC s env.locals (bindL env.kindOf bS fun _ => none) env.cells (bindC env.kindOf bS fun _ => none) s') (r : KR c ρ b bS) (hb : (b.map (·.1)).Nodup) : FR c env (varsOf b) ρ s' := by
  have u := Qu.call x.toInCall
  have hbS : (bS.map (·.1)).Nodup := by rw [r.names]; exact nodup_nm hb
  subst he
  have kfree : ∀ n, scope.names.lookup n ≠ some .free := fun n h => hfree _ (lookup_mem' h) rfl
  have hc : ∀ n, scope.names.lookup n = some .cell → ∃ d, (cellsFrom (s.heap.objs.size + 1) scope.names []).lookup n = some d := fun n h => cells_has (lookup_mem' h)
  refine ⟨⟨_, x.toInCall.ns, fun z v hz hk => ?_⟩, fun z v hz hk => ?_, fun n hk => hk.elim (hc n) fun hk => absurd hk (kfree _), fun p hp => ⟨_, x.cell p.1 p.2 (mem_lookup (cells_nd hnd) hp)⟩, fun n m d h1 h2 => name_of_addr x.apart (lookup_mem' h1) (lookup_mem' h2), fun n d h => Nat.ne_of_gt (x.above n d (lookup_mem' h)), fun a ha => ?_⟩
  · obtain ⟨y, h1, h2⟩ := r.look hz
    exact ⟨y, (bindL_at hk hbS).1 y h1, h2⟩
  · obtain ⟨y, h1, h2⟩ := r.look hz
    rcases hk with hk | hk
    · obtain ⟨d, hcc⟩ := hc _ hk
      refine ⟨d, y, hcc, ?_, h2⟩
      have := x.cell _ d hcc
      rwa [(bindC_at (by rw [hk]; decide) hbS).1 y h1] at this
    · exact absurd hk (kfree _)
  · rcases List.mem_cons.mp ha with rfl | ha
    · exact ⟨sr.off_top (Nat.le_refl _), x.toInCall.ns.lt⟩
    · obtain ⟨p, hp, rfl⟩ := List.mem_map.mp ha
      have h1 := x.above p.1 p.2 hp
      exact ⟨sr.off_top (Nat.le_of_lt h1), (x.cell p.1 p.2 (mem_lookup (cells_nd hnd) hp)).lt⟩
theorem rev_look {l : List (Str × Value)} (h : (l.map (·.1)).Nodup) {x : Str} {y : Value} (e : l.lookup x = some y) : l.reverse.lookup x = some y := by
  refine mem_lookup ?_ (List.mem_reverse.mpr (lookup_mem' e))
  rw [List.map_reverse]
  exact (List.reverse_perm _).nodup_iff.mpr h
theorem fr_callF {gA : Addr} {ql : Str} {fA : Option Addr} {cd : Value} {bu : Addr} (G : Gd c) (sr : SR c fs ρ os s) {x : Str} {d : Addr} {o : Obj} {v : Option Value}
    (hnames : ∀ p ∈ scope.names, p.2 ≠ .cell ∧ (p.2 = .free → p.1 = x)) (hc : c.K.lookup d = some o) (hd : o.data = .cell v) (u : Qu s s') (hl : ∀ x ∈ bS, scope.names.lookup x.1 = some .local)
    (hn : s'.heap.Ns s.heap.objs.size (fun x => bS.reverse.lookup x)) (r : KR c ρ b bS) (hb : (b.map (·.1)).Nodup) : FR c (newEnv scope s.heap.objs.size gA [(x, d)] ql fA cd none bu) (varsOf b) ρ s' := by
  have hbS : (bS.map (·.1)).Nodup := by rw [r.names]; exact nodup_nm hb
  have kcell : ∀ n, scope.names.lookup n ≠ some .cell := fun n h => (hnames _ (lookup_mem' h)).1 rfl
  have hc0 : c.h0.get? d = some o := G.k _ _ hc
  have hcs : s.heap.get? d = some o := sr.old _ _ hc0
  have hoff : off c ρ d := ⟨fun p hp e => absurd (Heap.lt_size hc0) (Nat.not_lt.mpr (e ▸ sr.lo p hp)), fun hm => by have := G.tn d hm; rw [hc0] at this; cases this⟩
  have one : ∀ {n d'}, List.lookup n [(x, d)] = some d' → n = x ∧ d' = d := fun h => by
    have := List.mem_singleton.mp (lookup_mem' h)
    cases this; exact ⟨rfl, rfl⟩
  refine ⟨⟨_, hn, fun z v hz hk => ?_⟩, fun z v hz hk => ?_, fun n hk => ?_, fun p hp => ?_, fun n m d' h1 h2 => (one h1).1.trans (one h2).1.symm, fun n d' h => by rw [(one h).2]; exact Nat.ne_of_lt (Heap.lt_size hcs), fun a ha => ?_⟩
  · obtain ⟨y, h1, h2⟩ := r.look hz
    exact ⟨y, rev_look hbS h1, h2⟩
  · obtain ⟨y, h1, h2⟩ := r.look hz
    have := hl _ (lookup_mem' h1)
    dsimp only at this
    rcases hk with hk | hk
    · exact absurd hk (kcell _)
    · have hk' : scope.names.lookup (c.nm z) = some .free := hk
      rw [this] at hk'; cases hk'
  · rcases hk with hk | hk
    · exact absurd hk (kcell _)
    · have := (hnames _ (lookup_mem' (show scope.names.lookup n = some .free from hk))).2 rfl
      dsimp only at this
      subst this
      exact ⟨d, by show List.lookup n [(n, d)] = _; rw [List.lookup_cons, beq_self_eq_true]⟩
  · cases List.mem_singleton.mp (show p ∈ [(x, d)] from hp)
    exact ⟨v, o, u.keep _ _ hcs, hd⟩
  · rcases List.mem_cons.mp (show a ∈ s.heap.objs.size :: [d] from ha) with rfl | ha
    · exact ⟨sr.off_top (Nat.le_refl _), hn.lt⟩
    · cases List.mem_singleton.mp ha
      exact ⟨hoff, Nat.lt_of_lt_of_le (Heap.lt_size hcs) u.sz⟩
theorem snd_env {cl : List (Str × Addr)} {ql : Str} {fA : Addr} {cd : Value} (G : Gd c) (sr : SR c fs ρ os s) (hk : scope.kind = .function) (hcl : CloIs c.K scope cl) (hnd : (scope.names.map (·.1)).Nodup)
    (kd : ∀ x ∈ bS, scope.names.lookup x.1 = some .local ∨ scope.names.lookup x.1 = some .cell) (r : KR c ρ b bS) (hb : (b.map (·.1)).Nodup) {Q : Env → Shared → Prop}
    (q : ∀ cells s', Qu s s' → FR c (newEnv scope s.heap.objs.size mainGlobals cells ql (some fA) cd none builtinsNs) (varsOf b) ρ s' → (∃ m, s'.heap.Ns s.heap.objs.size m) → (∀ a ∈ ownW (newEnv scope s.heap.objs.size mainGlobals cells ql (some fA) cd none builtinsNs), s.heap.objs.size ≤ a) → Q (newEnv scope s.heap.objs.size mainGlobals cells ql (some fA) cd none builtinsNs) s') :
    wpAny (model c.prog c.w) A (newFunctionEnv scope mainGlobals cl bS ql (some fA) cd none builtinsNs) Q E s := by
  rcases hcl with ⟨rfl, hnf⟩ | ⟨x, d, o, v, rfl, hnames, hc, hd⟩
  · refine wpAny_newFunctionEnv_cells hk (fun x hx => (kd x hx).imp id fun h => ⟨h, ?_⟩) fun env he s2 x => ?_
    · obtain ⟨d, hc⟩ := cells_has (n := s.heap.objs.size + 1) (lookup_mem' h)
      rw [hc]; rfl
    · have fr := fr_call sr he hnd hnf x r hb
      subst he
      refine q _ s2 (Qu.call x.toInCall) fr ⟨_, x.toInCall.ns⟩ fun a ha => ?_
      rcases List.mem_cons.mp (own_sub ha) with rfl | ha
      · exact Nat.le_refl _
      · obtain ⟨p, hp, rfl⟩ := List.mem_map.mp ha
        exact Nat.le_of_lt (x.above p.1 p.2 hp)
  · have hl : ∀ x ∈ bS, scope.names.lookup x.1 = some .local := fun x hx => (kd x hx).resolve_right fun h => (hnames _ (lookup_mem' h)).1 rfl
    refine with_size (wpAny_newFunctionEnv (fun p hp => (hnames p hp).1) hl (fun h' hns hsb hz => ?_) hk)
    have u : Qu s { s with heap := h', toks := s.toks + bS.length } := ⟨hz, fun b o e => (hsb.extBut) b o (Nat.ne_of_lt (Heap.lt_size e)) (Heap.get?_push_of_some _ e), rfl, rfl⟩
    refine q _ _ u (fr_callF G sr hnames hc hd u hl hns r hb) ⟨_, hns⟩ fun a ha => ?_
    rcases List.mem_cons.mp ha with rfl | ha
    · exact Nat.le_refl _
    · obtain ⟨p, hp, rfl⟩ := List.mem_map.mp ha
      obtain ⟨hp1, hp2⟩ := List.mem_filter.mp hp
      have hp2 := (Bool.and_eq_true _ _).mp hp2
      have : scope.names.lookup p.1 = some .cell := eq_of_beq hp2.2
      exact absurd rfl (hnames _ (lookup_mem' this)).1
theorem c_fn (G : Gd c) {f : Nat} {ps : List Nat} {fd : FuncData} (F : FnAt c f ps bd fd) (hps : b.map (·.1) = ps) (hb : BindJ c fd vs kv os b os') (h : EvB c n fd.scope bd ⟨varsOf b, os'⟩ fl σ') (hv : fl = .ret v ∨ (fl = .nxt ∧ v = .none)) : EvC c (n + 1) f vs kv os v σ'.os := by
  intro A fs ρ s vs' ks' R cx sr nf rv rk q
  have X := kin G sr
  obtain ⟨fo, ho, hd⟩ := F.ho
  refine codeAny_call_function (by have := cx.dp; omega) (X _ _ ho) hd F.co F.ge F.bd (codeRec_of X F.ci) ?_
  rw [F.gl, F.bu]
  refine hb _ _ _ _ _ _ _ _ sr rv rk fun ρ1 s1 bS u1 l1 sr1 r1 => ?_
  have kd : ∀ x ∈ bS, fd.scope.names.lookup x.1 = some .local ∨ fd.scope.names.lookup x.1 = some .cell := fun x hx => by
    have hm : x.1 ∈ bS.map (·.1) := List.mem_map_of_mem hx
    rw [r1.names, hps] at hm
    obtain ⟨k, hk, e⟩ := List.mem_map.mp hm
    rw [← e]; exact F.own k hk
  refine snd_env G sr1 F.kd F.cl F.nd kd r1 (hps ▸ F.pn) fun cells s2 u2 fr hns2 above => ?_
  refine ⟨G.lim.keeps fun b o e => (u1.trans u2).keep b o (sr.old b o e), codeAny_func ?_⟩
  have sr2 : SR c (newEnv fd.scope s1.heap.objs.size mainGlobals cells (fd.qualname ++ ".<locals>.") (some f) fd.code none builtinsNs :: fs) ρ1 os' s2 :=
    sr1.enter u2 rfl (Nat.le_refl _) (by show fd.scope.kind ≠ _; rw [F.kd]; decide) hns2
  have h01 := sr1.osz
  refine h.r _ _ _ _ _ _ _ ⟨rfl, rfl, F.kd, fun _ h => h, fun _ h => h, fun _ h => h, fun _ _ => rfl, fun _ h => .inl h⟩ ⟨⟨fun a ha => Nat.le_trans h01 (above a ha), F.kd⟩, F.ct, ⟨_, rfl⟩, rfl⟩ cx.deeper ⟨sr2, fr, fun a ha => ?_⟩ fun ρ3 s3 g a3 gr => ?_
  · rw [frA_cons rfl] at ha
    rcases List.mem_cons.mp ha with rfl | ha
    · exact h01
    · exact nf a ha
  have l13 : Le c [] fs ρ1 s1 ρ3 s3 := (u2.le (W := []) (fs := fs)).fresh (a3.le.leave rfl) fun a ha => (List.mem_cons.mp ha).elim (fun e => Nat.le_of_eq e.symm) (above a)
  rcases hv with rfl | ⟨rfl, rfl⟩
  · cases gr with
    | ret ry => exact q _ _ _ (l1.trans l13) (a3.sr.leave rfl) ry
  · cases gr with
    | nxt => exact q _ _ _ (l1.trans l13) (a3.sr.leave rfl) rfl
end
end Rw
namespace Rw
open PySem PySem.W PySem.Calls PyProof.Rows
section
variable {prog : Program} {w : World} {K : Frag} {A : Around} {E : Value → Shared → Prop} {s s' s'' : Shared} {env : Env}
theorem raw_callWithK {pos : Pos} {f : Value} {first : List Value} {args : List (Bool × Sem Value)} {keywords : List (Option Str × Sem Value)} {Q : Value → Shared → Prop}
    (h : wpAny (model prog w) A (evalArgs f true args keywords) (fun a s₁ => (∃ k, Looks (model prog w) s₁.heap (keeperOf f) k) ∧ wpAny (model prog w) A (call f (first ++ a.pos) a.kw) Q E s₁) E s) :
    wpAny (model prog w) A (callWith pos f first args keywords) Q E s := by
  unfold callWith
  refine wpAny_bind (wpAny_holding (wpAny_mono h (fun a s₁ h₁ => wpAny_bind (wpAny_standAt ?_)) fun _ _ x => x))
  obtain ⟨⟨k, L⟩, h₁⟩ := h₁
  refine wpAny_bind (L.here ?_)
  have tail : ∀ {t : Sem Value}, wpAny (model prog w) A t Q E s₁ → wpAny (model prog w) A (t >>= fun r => holding [r] point >>= fun _ => pure r) Q E s₁ :=
    fun ht => wpAny_bind (wpAny_mono ht (fun r s₂ hr => wpAny_bind (wpAny_holding (wpAny_point (wpAny_pure hr)))) fun _ _ x => x)
  have marked (mk : Value) : wpAny (model prog w) A (callMarked mk f (first ++ a.pos) a.kw) Q E s₁ := by unfold callMarked; exact Calls.wpAny_keep h₁
  generalize (args.any (·.1) || keywords.any (·.1.isNone)) = st
  cases k <;> cases st <;> dsimp only
  all_goals first
    | (split
       · exact tail h₁
       · exact tail (marked _))
    | exact tail (marked _)
    | exact tail h₁
    | exact tail (wpAny_operating h₁)
theorem raw_getAttr_super {so D x C f : Addr} {of : Obj} {l₀ l : List Value} {name : Str} {Q : Value → Shared → Prop}
    (hso : s.heap.get? so = some { cls := .type "super", dict := none, data := .fields #[.ref D, .ref x, .ref C], slots := #[] }) (hno : Looks (model prog w) s.heap (opaqueClassAbove (.ref C)) none)
    (hC : Looks (model prog w) s.heap (mroOf (.ref C)) l₀) (hl : (l₀.dropWhile (· != .ref D)).drop 1 = l) (X : K.In s.heap)
    (hf : alongIn K name l = some (some (.ref f))) (hfo : s.heap.get? f = some of) (hfc : of.cls = .type "function") (hxC : x ≠ C) (hn : (name == ("__class__" : Str)) = false)
    (hq : Q (.ref s.heap.objs.size) { s with heap := s.heap.push { cls := .type "method", data := .fields #[.ref f, .ref x] }, toks := s.toks + 1 }) :
    wpAny (model prog w) A (getAttr (.ref so) name true) Q E s := by
  obtain ⟨h, g, d, t, os⟩ := s
  have hlk := PySem.F.ks_slot_super_ga.lookup
  have hT : ∀ t', (⟨h, g, d, t', os⟩ : Shared).TypeIs (.ref so) "super" := fun _ => ⟨_, hso, rfl⟩
  unfold getAttr getAttrBy
  refine wpAny_bind (wpAny_mkText (wpAny_holding (wpAny_bind (wpAny_typeOf (hT _) (wpAny_bind (wpAny_of_eq hlk ?_))))))
  show wpAny _ _ (getAttrByItsOwn (.ref so) (.str name t) (.type "super") (.builtin "super.__getattribute__") true true) _ _ _
  unfold getAttrByItsOwn hookBefore callGetattribute boundAndCalled
  refine wpAny_bind (wpAny_of_eq (show (if onTheHeap (.type "super") then typeLookup (.type "super") "__getattr__" else pure none) = pure none from rfl) ?_)
  refine wpAny_bind (wpAny_attempt (wpAny_holding ?_))
  show wpAny _ _ (bindSpecial (.builtin "super.__getattribute__") (.ref so) >>= _) _ _ _
  refine wpAny_bind (wpAny_of_eq (PySem.F.ks_slot_super_ga.bind _) ?_)
  refine wpAny_mono (Q := fun v s' => v = .ref h.objs.size ∧ s' = ⟨h.push { cls := .type "method", data := .fields #[.ref f, .ref x] }, g, d, t + 1, os⟩) (E := fun _ _ => False)
    (wpAny_call_entry PySem.F.ks_slot_super_ga (hT _) PySem.F.ks_entry_super_ga (ks_wpAny_super_ga hso hno hC hl X hf hfo hfc hxC hn ⟨_, rfl, rfl, rfl⟩) (PySem.F.ks_gaArgs_super _ _)) (fun v s' hv => ?_) fun _ _ z => z.elim
  obtain ⟨rfl, rfl⟩ := hv
  exact wpAny_pure hq
end
section
variable {c : Cx} {A : Around} {E : Value → Shared → Prop} {n : Nat} {sc : Scope} {as : List Expr} {kws : List Keyword} {σ σ' σ'' : Sg} {v u : V} {vs : List V} {kv : List (Nat × V)} {pos ap : Pos} {ρ : Rho} {s s' : Shared} {fs : List Env} {os os' : List O} {x y : Value} {i : Nat} {env : Env}
theorem Ctx.make {C : Addr} {vals : List Value} {kw : List (Str × Value)} (x : Ctx A fs (n + 1)) : Ctx (A.under (.builtin "type.__call__" ⟨.ref C :: vals, kw⟩)) fs n := by
  refine ⟨x.hd, ?_, ?_, ?_⟩
  · have := x.dp
    rw [depth_under_kw]
    omega
  · have := x.un
    have e : (A.under (.builtin "type.__call__" ⟨.ref C :: vals, kw⟩)).units = A.units + 1 := rfl
    rw [e]
    omega
  · have e : (A.under (.builtin "type.__call__" ⟨.ref C :: vals, kw⟩)).frames = pushEnvs [] A.frames := rfl
    rw [e, x.fr]
    rfl
theorem c_make (G : Gd c) {a g : Nat} (hg : c.P.init a = some g) (h : EvC c n g (.obj os.length :: vs) kv (os ++ [.inst a []]) .none os') : EvC c (n + 1) a vs kv os (.obj os.length) os' := by
  intro A fs ρ s vs' ks' R cx sr nf rv rk q
  have X := kin G sr
  obtain ⟨h1, h2, h3⟩ := G.ini _ _ hg
  obtain ⟨hh, gg, d, t, ow⟩ := s
  refine make_core (makes_of X h1) (looks_findIn X h2) (fun self => bind_fn X self h3) (.inl rfl) ?_
  have g1 : ((hh.push emptyDict).push (instObj a hh.objs.size)).get? hh.objs.size = some (dictOf [] 0) := by heap_get
  have g2 : ((hh.push emptyDict).push (instObj a hh.objs.size)).get? (hh.objs.size + 1) = some (instObj a hh.objs.size) := by heap_get
  have w : Qu ⟨hh, gg, d, t, ow⟩ ⟨(hh.push emptyDict).push (instObj a hh.objs.size), gg, d, t, ow⟩ := (Qu.push (t := t)).trans (Qu.push (t := t))
  have ho : off c (ρ ++ [(hh.objs.size + 1, hh.objs.size)]) (hh.objs.size + 1) := ⟨fun p hp e => (List.mem_append.mp hp).elim (fun hp => (sr.off_top (Nat.le_succ _)).1 p hp e) fun hp => by
    cases List.mem_singleton.mp hp
    exact absurd e (Nat.ne_of_lt (Nat.lt_succ_self _)), (sr.off_top (Nat.le_succ _)).2⟩
  obtain ⟨sr1, le1⟩ := sr.add (W := []) (o := .inst a []) w (p := (hh.objs.size + 1, hh.objs.size)) ⟨Nat.le_succ _, Nat.le_refl _⟩ ⟨Heap.lt_size g2, Heap.lt_size g1⟩ (.inst g2 rfl rfl rfl ho g1 .nil)
  have di : (ρ ++ [(hh.objs.size + 1, hh.objs.size)])[os.length]? = some (hh.objs.size + 1, hh.objs.size) := by rw [← sr.len, List.getElem?_concat_length]
  refine h _ fs _ _ _ _ _ cx.make sr1 nf (.cons ⟨_, di, rfl⟩ (le1.vrs rv)) (le1.kr rk) fun ρ' s' y le sr' ry => ?_
  cases ry
  exact ⟨rfl, q _ s' _ (le1.trans le) sr' (le.vr (v := .obj os.length) ⟨_, di, rfl⟩)⟩
theorem mcp {few : Bool} {f : Expr} {as : List Expr} {ks : List Keyword} {p : Pos} {ap pos : Pos} : ∃ p', methodCallPos few (.Call f as ks p) env ap pos = pure p' := by
  unfold methodCallPos
  split
  · exact ⟨_, rfl⟩
  · exact ⟨_, rfl⟩
theorem clsIn_of {K : Frag} {C : Addr} {cd : ClassData} (h : clsIn K C = some cd) : ∃ o, K.lookup C = some o ∧ o.data = .cls cd := by
  unfold clsIn at h
  cases ho : K.lookup C with
  | none => rw [ho] at h; cases h
  | some o =>
    rw [ho] at h
    obtain ⟨c', d', da, sl'⟩ := o
    cases da <;> cases h
    exact ⟨_, rfl, rfl⟩
theorem super_of (G : Gd c) {kc ko cl d f : Nat} {cn on : Str} {ff : List (Nat × V)} {fp cp op opos : Pos} (lf : sc.names.lookup ("super" : Str) = some .globalImplicit) (hc : EvE c n sc (.Name cn cp) σ (.top cl) σ) (ho : EvE c n sc (.Name on op) σ (.obj i) σ) (hi : σ.os[i]? = some (.inst d ff)) {k : Nat} (hs : c.P.sup cl d k = some f)
    (eo : EnvOk sc env) (cx : Ctx A fs n) (p : Pre c fs env σ ρ s) : wpAny (model c.prog c.w) A (eval (.Call (.Name ("super" : Str) fp) [.Name cn cp, .Name on op] [] opos) env) (fun so s1 => ∃ ρ1 x so', Aft c fs env ρ s σ ρ1 s1 ∧ so = .ref so' ∧ VR c ρ1 (.obj i) (.ref x) ∧ s1.heap.get? so' = some { cls := .type "super", dict := none, data := .fields #[.ref cl, .ref x, .ref d], slots := #[] }) E s := by
  obtain ⟨cD, cC, s1, s2, s3, s4, s5, s6, fo, fd, s7, s8⟩ := G.sp _ _ _ _ hs
  obtain ⟨mg, hm⟩ := G.ns
  obtain ⟨mb, hb, hbb⟩ := G.nb
  have hm' : s.heap.Ns env.globals mg := by rw [eo.gl]; exact hm.keeps p.sr.old
  have hb' : s.heap.Ns env.builtins mb := by rw [eo.bu]; exact hb.keeps p.sr.old
  refine raw_Call (fun o a p => by simp) (Name_function_global eo.kd (eo.g1 _ lf) (loadGlobal_builtin hm' (mg_none_of G.k hm G.sg.1) hb' ((hbb _ (by decide +kernel)).trans G.sg.2) ?_) (by decide +kernel))
  refine raw_callWith (raw_args (fun x => lone_of rfl) ?_)
  refine args_cons (hc.r _ _ _ _ _ _ _ eo cx p fun ρ1 st1 y1 a1 r1 => args_cons (ho.r _ _ _ _ _ _ _ eo cx (p.next a1) fun ρ2 st2 y2 a2 r2 => args_nil (.inl ⟨rfl, wpAny_pure ⟨⟨.machine, .inr rfl, Looks.now⟩, ?_⟩⟩)) rfl) rfl
  cases r1
  have X := kin G a2.sr
  obtain ⟨xa, dd, ox, es, kk, rfl, _, J, _⟩ := inst_of a2.sr hi r2
  obtain ⟨oD, hD0, hD2⟩ := clsIn_of s1
  have hD1 := X _ _ hD0
  obtain ⟨hh, gg, ddd, tt, oo⟩ := st2
  refine ks_wpAny_call_super hD1 hD2 J.at_ J.cls (fun c e => ?_) (looks_mroIn X s2) (fun h' e k => ⟨ρ2, xa, hh.objs.size, (a1.trans a2).qu ⟨Nat.le_of_lt (Heap.lt_size e), k, rfl, rfl⟩, rfl, r2, e⟩)
  have := J.no
  unfold notCls at this
  rw [e] at this
  exact Bool.noConfusion this
theorem e_super (G : Gd c) (k : Nat) {cl d f : Nat} {cn on name : Str} {ff : List (Nat × V)} {fp cp op opos : Pos} (hn : c.nm k = name) (lf : sc.names.lookup ("super" : Str) = some .globalImplicit) (hc : EvE c n sc (.Name cn cp) σ (.top cl) σ) (ho : EvE c n sc (.Name on op) σ (.obj i) σ) (hi : σ.os[i]? = some (.inst d ff)) (hs : c.P.sup cl d k = some f)
    (ha : EvA c n sc as kws σ vs kv σ') (h : EvC c n f (.obj i :: vs) kv σ'.os v os') : EvE c n sc (.Call (.Attribute (.Call (.Name ("super" : Str) fp) [.Name cn cp, .Name on op] [] opos) name ap) as kws pos) σ v ⟨σ'.vs, os'⟩ := by
  subst hn
  refine ⟨?_⟩; intro A env fs ρ s Q E eo cx p q
  obtain ⟨cD, cC, s1, s2, s3, s4, s5, s6, fo, fd, s7, s8⟩ := G.sp _ _ _ _ hs
  rw [PySem.arm_eval_Call, attributeBase_of rfl]
  refine wpAny_bind (wpAny_mono (super_of (kc := 0) (ko := 0) G lf hc ho hi hs eo cx p) (fun so st hso => ?_) fun _ _ e => e)
  obtain ⟨ρ1, x, so', a1, rfl, rx, hsob⟩ := hso
  have p1 := p.next a1
  have X1 := kin G p1.sr
  obtain ⟨xa, dd, ox, es, kk, exa, _, J, _⟩ := inst_of p1.sr hi rx
  cases exa
  refine wpAny_bind (wpAny_standAt ?_)
  unfold methodCall
  obtain ⟨p', hp'⟩ := mcp (few := methodCallForm (as.length + kws.length) (backTo pos (starEach as env)) (backToKw pos (keywordEach kws env))) (f := .Name ("super" : Str) fp) (as := [.Name cn cp, .Name on op]) (ks := []) (p := opos) (env := env) (ap := ap) (pos := pos)
  rw [hp']
  have hof : st.heap.get? f = some fo := X1 _ _ s7
  have hofc : fo.cls = .type "function" := by
    have : (c.K.lookup f).map (·.cls) = some (.type "function") := s5
    rw [s7] at this
    exact Option.some.inj this
  have hmro : Looks (model c.prog c.w) st.heap (mroOf (.ref d)) cC.mro := fun A Q E s k q => wpAny_bind ((looks_clsIn X1 s3) A _ E s k (wpAny_pure q))
  have hop : Looks (model c.prog c.w) st.heap (opaqueClassAbove (.ref d)) none := looks_opaque X1 G.th
  have rest : ∀ {s2 : Shared}, Qu st s2 → s2.heap.get? st.heap.objs.size = some { cls := .type "method", data := .fields #[.ref f, .ref x] } →
      wpAny (model c.prog c.w) A (callWith p' (.ref st.heap.objs.size) [] (backTo pos (starEach as env)) (backToKw pos (keywordEach kws env))) Q E s2 := by
    intro s2 u2 hb
    have p2 := p1.qu u2
    refine raw_callWithK (ha.r _ _ _ _ _ _ _ _ _ eo cx p2 fun ρ3 s3 a3 A3 r3 k3 => ?_)
    have hb3 := A3.le.keep _ _ hb (p1.sr.off_top (Nat.le_refl _)) List.not_mem_nil (nofr p2.sr hb rfl)
    have X3 := kin G A3.sr
    refine ⟨⟨.boundFrame, (Looks.ld (part := none) hb3).andThen ((Looks.ld (part := none) (X3 _ _ s7)).andThen ?_)⟩, ?_⟩
    · rw [s8]; exact .now
    · exact wpAny_call (ks_codeAny_call_bound hb3 (h _ _ _ _ _ _ _ cx A3.sr p.nf (.cons (A3.le.vr rx) r3) k3 fun ρ4 s4 y4 le4 sr4 ry4 => q ρ4 s4 y4 (((a1.qu u2).trans A3).trans ⟨le4, sr4, A3.fr.mono le4⟩) ry4))
  have gM : (st.heap.push { cls := .type "method", data := .fields #[.ref f, .ref x] }).get? st.heap.objs.size = some { cls := .type "method", data := .fields #[.ref f, .ref x] } := Heap.get?_push_size _ rfl
  cases hfew : methodCallForm (as.length + kws.length) (backTo pos (starEach as env)) (backToKw pos (keywordEach kws env)) with
  | true =>
    unfold calleeOf
    rw [if_pos rfl]
    obtain ⟨hh, gg, ddd, tt, oo⟩ := st
    refine wpAny_bind (wpAny_holding (ks_wpAny_getMethod_super hsob hop hmro rfl X1 s4 hof hofc (ks_ne X1 J s3) s6 ?_))
    refine wpAny_bind (wpAny_pure ?_)
    exact rest (Qu.push (s := ⟨hh, gg, ddd, tt, oo⟩) (t := tt + 1)) gM
  | false =>
    unfold calleeOf
    rw [if_neg Bool.false_ne_true]
    refine wpAny_bind (wpAny_holding (wpAny_bind (raw_getAttr_super hsob hop hmro rfl X1 s4 hof hofc (ks_ne X1 J s3) s6 (wpAny_pure ?_))))
    refine wpAny_bind (wpAny_pure ?_)
    exact rest (Qu.push (t := st.toks + 1)) gM
end
end Rw
namespace Rw
open PySem PySem.W PySem.Calls PyProof.Rows
section
variable {c : Cx} {A : Around} {E : Value → Shared → Prop} {n : Nat} {sc : Scope} {σ σ' : Sg} {v u : V} {ρ ρ' ρ'' : Rho} {s s' s'' : Shared} {fs : List Env} {os os' : List O} {x y : Value} {env : Env} {W V' : List Addr} {P : Addr}
structure Tx (P : Addr) (s s' : Shared) : Prop where
  sz : s.heap.objs.size ≤ s'.heap.objs.size
  keep : ∀ b o, b ≠ P → s.heap.get? b = some o → s'.heap.get? b = some o
  os : s'.os = s.os
  gens : s'.gens = s.gens
  tx : TextAt s'.heap P
  nc : ∀ o vs, s.heap.get? P = some o → o.data = .fields vs → o.cls ≠ .type "code"
theorem Tx.le (hP : P ∈ c.txs) (u : Tx P s s') : Le c W fs ρ s ρ s' :=
  ⟨⟨[], (List.append_nil ρ).symm, fun _ h => nomatch h⟩, u.sz, fun b o h ho _ _ => u.keep b o (fun e => ho.2 (e ▸ hP)) h, fun b o h ho _ => ⟨o.slots, u.keep b o (fun e => ho.2 (e ▸ hP)) h⟩, u.os, fun _ _ => by rw [u.gens], Nat.le_of_eq (by rw [u.gens])⟩
theorem SR.txt (hP : P ∈ c.txs) (hn : c.h0.get? P = none) (sr : SR c fs ρ os s) (u : Tx P s s') : SR c fs ρ os s' := by
  have hz := sr.txz P hP
  have ne : ∀ {b}, c.h0.objs.size ≤ b → b ≠ P := fun h e => absurd hz (Nat.not_lt.mpr (e ▸ h))
  refine ⟨sr.len, sr.nd, sr.nd1, sr.lo, fun q hq => ⟨Nat.lt_of_lt_of_le (sr.inn q hq).1 u.sz, Nat.lt_of_lt_of_le (sr.inn q hq).2 u.sz⟩, sr.nfr, fun j o hj => ?_, by rw [u.gens]; exact sr.bare, fun b o hb => u.keep b o (fun e => by rw [e, hn] at hb; cases hb) (sr.old b o hb), Nat.le_trans sr.osz u.sz,
    fun e he => let ⟨kk, L, o, f, l, e', d⟩ := sr.ff e he; ⟨kk, L, o, f, l, u.keep _ _ (ne l) e', d⟩, fun b hb => ?_, sr.txz⟩
  · obtain ⟨q, hq, hr⟩ := sr.ob j o hj
    refine ⟨q, hq, hr.move0 (fun x => u.keep _ _ (ne (sr.lo q (mem2 hq)))) fun x hx e => u.keep _ _ (fun e' => ?_) e⟩
    obtain ⟨ps, h1, _⟩ := sr.tx P hP
    rw [e', h1] at e; cases e; cases hx
  · by_cases e : b = P
    · exact e ▸ u.tx
    · exact (sr.tx b hb).but u.keep e u.nc
theorem among_app {pos : Pos} {a b : Int} {d cv : Value} (l : List Value) (h : TriplesOk l) (e : codeAmong pos (l ++ [rawInt a, rawInt b, d]) = some cv) : codeAmong pos l = some cv ∨ cv = d := by
  fun_induction TriplesOk l with
  | case1 =>
    simp only [List.nil_append, codeAmong, rawInt] at e
    split at e
    · cases e; exact .inr rfl
    · cases e
  | case2 i t j u x rest ih =>
    simp only [List.cons_append, codeAmong] at e ⊢
    split at e
    · rename_i hh; rw [if_pos hh]; exact .inl e
    · rename_i hh; rw [if_neg hh]; exact ih h e
  | case3 => exact h.elim
theorem text_grow {h h' : Heap} {ps : Array Value} {a b : Int} {d : Value} (h3 : ∀ pos cv, codeAmong pos ps.toList = some cv → CodeRc h cv) (ht : TriplesOk ps.toList) (hP : h.get? P = some { cls := .none, data := .fields ps }) (hx : Heap.ExtBut P h h')
    (hP' : h'.get? P = some { cls := .none, data := .fields (ps ++ #[rawInt a, rawInt b, d]) }) (hc : CodeRc h' d) (ht' : TriplesOk (ps ++ #[rawInt a, rawInt b, d]).toList) : TextAt h' P := by
  refine ⟨_, hP', ht', fun pos cv e => ?_⟩
  rw [Array.toList_append] at e
  rcases among_app _ ht e with q | rfl
  · exact (h3 pos cv q).but (fun b o hb e => hx b o hb e) (fun o vs g1 _ => by rw [hP] at g1; cases g1; intro e; cases e)
  · exact hc
theorem getD_some {vs : Array Value} {i : Nat} (h : vs.getD i .none = .ref P) : vs[i]? = some (.ref P) := by
  unfold Array.getD at h
  split at h
  · rename_i hi
    rw [Array.getElem?_eq_getElem hi]
    exact congrArg some h
  · cases h
theorem codeRc_of {h : Heap} {d P : Addr} {q : Str} (h1 : h.CodeRec (.ref d) q) (h2 : h.TableAt d P #[]) : CodeRc h (.ref d) := by
  obtain ⟨c', o, vs, t, e, g1, g2, g3⟩ := h1
  cases e
  obtain ⟨⟨o', vs', k1, k2, _⟩, _⟩ := h2
  rw [g1] at k1; cases k1
  exact ⟨d, o, vs, q, t, rfl, g1, k2, g2, g3⟩
theorem snd_code {Q : Value → Shared → Prop} {pos : Pos} {mk : Sem Value} (co : CodeAt c.txs c.h0 env.code) (sr : SR c fs ρ os s)
    (miss : ∀ {d P : Addr} {ps : Array Value} {q : Str} {Q : Value → Shared → Prop}, env.code = .ref d → s.heap.IsCode d P ps → s.heap.TableAt d P ps → codeAmong pos ps.toList = none →
      (∀ c' h' tk, Heap.ExtBut P s.heap h' → s.heap.objs.size ≤ c' → c' < h'.objs.size → h'.IsCode d P (ps ++ #[rawInt pos.line, rawInt pos.col, .ref c']) → (∃ q, h'.CodeRec (.ref c') q) →
      h'.TableAt d P (ps ++ #[rawInt pos.line, rawInt pos.col, .ref c']) → (∃ P', s.heap.objs.size ≤ P' ∧ h'.IsCode c' P' #[] ∧ h'.TableAt c' P' #[]) → Q (.ref c') { s with heap := h', toks := tk }) → wpAny (model c.prog c.w) A mk Q E s)
    (hit : ∀ {d P : Addr} {ps : Array Value} {c' : Value} {Q : Value → Shared → Prop}, env.code = .ref d → s.heap.IsCode d P ps → codeAmong pos ps.toList = some c' → Q c' s → wpAny (model c.prog c.w) A mk Q E s)
    (q : ∀ code P' s', P' ∈ c.txs → Tx P' s s' → CodeRc s'.heap code → Q code s') : wpAny (model c.prog c.w) A mk Q E s := by
  obtain ⟨d, P', o, vs, file, tf, flags, tg, inF, text, tt, e1, e2, ec, e3, e4, e5, e6, e7, e8, e9, e10⟩ := co
  obtain ⟨ps, g1, g2, g3⟩ := sr.tx P' e9
  have hc := sr.old _ _ e2
  have ic : s.heap.IsCode d P' ps := ⟨o, vs, file, tf, flags, tg, inF, text, tt, _, hc, e3, e4, e5, e6, e7, e8, g1, rfl, g2, e10⟩
  have nc : ∀ o vs, s.heap.get? P' = some o → o.data = .fields vs → o.cls ≠ .type "code" := fun o vs k1 _ => by rw [g1] at k1; cases k1; intro e; cases e
  cases hf : codeAmong pos ps.toList with
  | some cv => exact hit e1 ic hf (q cv P' s e9 ⟨Nat.le_refl _, fun _ _ _ e => e, rfl, rfl, ⟨ps, g1, g2, g3⟩, nc⟩ (g3 pos cv hf))
  | none =>
    refine miss (q := "") e1 ic ⟨⟨o, vs, hc, ec, e3, getD_some e4⟩, g1⟩ hf fun c' h' tk hx hge hlt hic hrec htb hnew => ?_
    obtain ⟨q', hrec⟩ := hrec
    obtain ⟨P2, _, _, ht2⟩ := hnew
    have rc := codeRc_of hrec ht2
    have ht' : TriplesOk (ps ++ #[rawInt pos.line, rawInt pos.col, .ref c']).toList := by
      obtain ⟨_, _, _, _, _, _, _, _, _, op, _, _, _, _, _, _, _, d1, d2, d3, _⟩ := hic
      exact d3
    exact q _ P' _ e9 ⟨Nat.le_of_lt (Nat.lt_of_le_of_lt hge hlt), fun b o hb e => hx b o hb e, rfl, rfl, text_grow g3 g2 g1 hx htb.2 rc ht', nc⟩ rc
theorem snd_genCode {Q : Value → Shared → Prop} {pos : Pos} {qual : Str} {scope : Scope} (co : CodeAt c.txs c.h0 env.code) (sr : SR c fs ρ os s)
    (q : ∀ code P' s', P' ∈ c.txs → Tx P' s s' → Q code s') : wpAny (model c.prog c.w) A (genexprCode env pos qual scope) Q E s :=
  snd_code (pos := pos) co sr (fun h1 h2 h3 h4 h5 => wpAny_genexprCodeX h1 h2 h3 h4 fun c' h' tk a b c d e f g => h5 c' h' tk a b c d ⟨_, e⟩ f g) (fun h1 h2 h3 h4 => wpAny_genexprCode_hit h1 h2 h3 h4) fun code P' s' h1 h2 _ => q code P' s' h1 h2
end
end Rw
namespace Rw
open PySem PySem.W PySem.Calls PyProof.Rows
section
variable {prog : Program} {w : World} {K : Frag} {A : Around} {E : Value → Shared → Prop} {s s' s'' : Shared} {env : Env}
theorem raw_callExpr {a : Addr} {args : Args} {o : Obj} {fd : FuncData} {body : Expr} {R : Result → Shared → Prop} (hroom : A.depth < recursionLimit) (ho : s.heap.get? a = some o) (hd' : o.data = .func fd) (hco : fd.scope.isCoroutine = false) (hgen : fd.scope.isGenerator = false) (hbody : fd.body = .expr body) (hcd : CodeRc s.heap fd.code)
    (h : ∀ q : Str, wpAny (model prog w) A.in1 (bindArgs fd args) (fun binds s₁ =>
      wpAny (model prog w) A.in1 (newFunctionEnv fd.scope fd.globals fd.closure binds (q ++ ".<locals>.") (some a) fd.code none fd.builtins)
        (fun env s₂ => s₂.heap.NoLimit ∧ codeAny (model prog w) A (.expr body env) R s₂) (fun e s' => R (.error e) s') s₁) (fun e s' => R (.error e) s') s) :
    codeAny (model prog w) A (.call (.ref a) args) R s := by
  refine codeAny_of_tree ?_
  show wpAny _ A.in1 (callAny (.ref a) args) _ _ s
  simp only [callAny]
  refine wpAny_bind (wpAny_load ho ?_)
  obtain ⟨c, oc, vs, q, tq, hc, hoc, _, hdc, hq⟩ := hcd
  have h := h q
  simp only [hd', callFunction, hco, hgen, hbody, hc]
  rw [hc] at h
  refine wpAny_bind (m := field (.ref c) 1) (wpAny_field hoc hdc hq (wpAny_bind (wpAny_pure ?_)))
  exact wpAny_bind (wpAny_mono h (fun binds s₁ h₁ => wpAny_bind (wpAny_mono h₁ (fun env s₂ h₂ => wpAny_bind (wpAny_enterFrame h₂.1 hroom
    (wpAny_pure (And.intro rfl h₂.2)))) fun _ _ h' => h')) fun _ _ h' => h')
end
abbrev lamFd (qual : Str) (params : Arguments) (body : Expr) (scope : Scope) (pm cdv : Value) : FuncData :=
  { name := "<lambda>", qualname := qual, params, body := .expr body, scope, globals := mainGlobals, closure := [], defaults := .none, kwdefaults := .none, doc := .none, pyModule := pm, annotations := none, code := cdv, closureTuple := .none, builtins := builtinsNs }
noncomputable def stepB (b : Option (Int × V)) (a : Int) (v : V) : Int × V := match b with
  | none => (a, v)
  | some p => if a < p.1 then (a, v) else p
inductive MinGo (os : List O) (k : Nat) : List V → Option (Int × V) → V → Prop
  | nil {m v} : MinGo os k [] (some (m, v)) v
  | cons {i lt a l b u} : os[i]? = some (.tup lt) → lt.length < lim → lt[k]? = some (.int a) → MinGo os k l (some (stepB b a (.obj i))) u → MinGo os k (.obj i :: l) b u
section
variable {c : Cx} {A : Around} {E : Value → Shared → Prop} {n : Nat} {sc : Scope} {σ σ' : Sg} {v u : V} {ρ ρ' ρ'' : Rho} {s s' s'' : Shared} {fs : List Env} {os os' : List O} {x y : Value} {env : Env} {W V' : List Addr} {l : List V} {i k : Nat}
noncomputable def Tq (c : Cx) (s s' : Shared) : Prop := ∃ P s1, P ∈ c.txs ∧ Tx P s s1 ∧ Qu s1 s'
theorem Tq.le (t : Tq c s s') : Le c W fs ρ s ρ s' := let ⟨_, _, h, t, u⟩ := t; (t.le h).trans u.le
theorem SR.tq (G : Gd c) (sr : SR c fs ρ os s) (t : Tq c s s') : SR c fs ρ os s' := let ⟨P, _, h, t, u⟩ := t; (sr.txt h (G.tn _ h) t).qu u
theorem clos_nil {scope : Scope} (h : ∀ p ∈ scope.names, p.2 ≠ .free) : closureFor scope env = pure [] := by
  rw [clos_of (fun p hp e => absurd e (h p hp))]
  congr 1
  have : ∀ (l : List (Str × NameKind)), (∀ p ∈ l, p.2 ≠ .free) → clOf env l [] = [] := by
    intro l
    induction l with
    | nil => intro _; rfl
    | cons p l ih =>
      intro h
      obtain ⟨x, k⟩ := p
      unfold clOf
      rw [beq_eq_false_iff_ne.mpr (h (x, k) (List.mem_cons_self ..))]
      exact ih fun q hq => h q (List.mem_cons_of_mem _ hq)
  exact this _ h
theorem snd_lam (G : Gd c) (co : CodeAt c.txs c.h0 env.code) (eg : env.globals = mainGlobals) (sr : SR c fs ρ os s) {params : Arguments} {body : Expr} {scope : Scope} {pos : Pos} (hdef : defaultsOf params env = ([], [])) (hfree : ∀ p ∈ scope.names, p.2 ≠ .free) {Q : Value → Shared → Prop}
    (q : ∀ f s' pm cd, Tq c s s' → s'.heap.get? f = some { cls := .type "function", data := .func (lamFd (env.qual ++ "<lambda>") params body scope pm cd) } → CodeRc s'.heap cd → Q (.ref f) s') : wpAny (model c.prog c.w) A (eval (.Lambda params body scope pos) env) Q E s := by
  refine kla_eval hdef ?_
  rw [makeFunction_eq]
  simp only [List.zip_nil_right, List.filterMap_nil, List.isEmpty_nil, if_true, pure_bind]
  unfold makeTail
  rw [clos_nil hfree]
  refine wpAny_bind (wpAny_pure ?_)
  simp only [List.isEmpty_nil, if_true]
  refine wpAny_bind (wpAny_pure ?_)
  refine wpAny_bind (snd_code (pos := pos) co sr (fun h1 h2 h3 h4 h5 => wpAny_functionCodeX h1 h2 h3 h4 fun c' h' tk a b c d e f g => h5 c' h' tk a b c d ⟨_, e⟩ f g) (fun h1 h2 h3 h4 => wpAny_functionCode_hit h1 h2 h3 h4) fun code P' s1 hP tx rc => ?_)
  have sr1 := sr.txt hP (G.tn _ hP) tx
  obtain ⟨mg, hmg⟩ := G.ns
  obtain ⟨bm, bo, b1, b2, b3, b4, b5, b6⟩ := G.bf
  have hg1 : s1.heap.Ns env.globals mg := by rw [eg]; exact hmg.keeps sr1.old
  refine wpAny_bind (wpAny_builtinsFor hg1 (mg_of G.k hmg b1) b2 (sr1.old _ _ (G.k _ _ b3)) b4 b5 b6 ?_)
  refine wpAny_bind (wpAny_nsGet hg1 ?_)
  refine wpAny_bind (wpAny_pure (wpAny_newObj_type ?_ (by size_fits)))
  rw [eg]
  have w : Qu s1 { s1 with heap := s1.heap.push { cls := .type "function", data := .func (lamFd (env.qual ++ "<lambda>") params body scope ((mg "__name__").getD .none) code) } } := Qu.push (t := s1.toks)
  refine q _ _ ((mg "__name__").getD .none) code ⟨P', s1, hP, tx, w⟩ (Heap.get?_push_size _ rfl) ?_
  obtain ⟨d, o, vs, qq, t, e, g1, g2⟩ := rc
  exact ⟨d, o, vs, qq, t, e, w.keep _ _ g1, g2⟩
theorem lam_call (G : Gd c) (hroom : A.depth < recursionLimit) {qual p : Str} {ap np cp bp : Pos} {ck : Nat} {scope : Scope} {pm cd : Value} {f : Addr} {a : Int} (hn : scope.names = [(p, .local)]) (hk : scope.kind = .function) (hg : scope.isGenerator = false) (hc : scope.isCoroutine = false)
    (sr : SR c fs ρ os s) (ho : s.heap.get? f = some { cls := .type "function", data := .func (lamFd qual ⟨[], [⟨p, none, ap⟩], none, [], [], none, []⟩ (.Subscript (.Name p np) (.Constant (.int (k : Int)) ck cp) bp) scope pm cd) }) (hcd : CodeRc s.heap cd)
    (ht : os[i]? = some (.tup l)) (ry : VR c ρ (.obj i) y) (hl : l.length < lim) (ha : l[k]? = some (.int a)) (hpd : (p == ("__debug__" : Str)) = false) (hb : bindArgs (lamFd qual ⟨[], [⟨p, none, ap⟩], none, [], [], none, []⟩ (.Subscript (.Name p np) (.Constant (.int (k : Int)) ck cp) bp) scope pm cd) ⟨[y], []⟩ = pure [(p, y)]) {Q : Value → Shared → Prop} (q : ∀ s' t, Qu s s' → Q (.int a t) s') :
    wpAny (model c.prog c.w) A (call (.ref f) [y]) Q E s := by
  refine wpAny_call (raw_callExpr hroom ho rfl hc hg rfl hcd fun qn => ?_)
  rw [hb]
  refine wpAny_pure (wpAny_newFunctionEnv (fun x hx => by rw [hn] at hx; rw [List.mem_singleton.mp hx]; intro e; cases e) (fun x hx => by rw [List.mem_singleton.mp hx, hn, List.lookup_cons, beq_self_eq_true]) (fun h' hns hsb => ⟨(G.lim.keeps sr.old).fresh _ hsb, ?_⟩) hk)
  refine kla_codeExpr ?_
  have k1 : ∀ b o, s.heap.get? b = some o → h'.get? b = some o := fun b o e => hsb.extBut b o (Nat.ne_of_lt (Heap.lt_size e)) (Heap.get?_push_of_some _ e)
  have u1 : Qu s { s with heap := h', toks := s.toks + [(p, y)].length } := ⟨by show _ ≤ h'.objs.size; rw [hsb.1, Heap.size_push]; exact Nat.le_succ _, k1, rfl, rfl⟩
  refine Subscript_ (wpAny_Name (wpAny_loadName_local hk (by show scope.names.lookup p = _; rw [hn, List.lookup_cons, beq_self_eq_true]) hns (v := y) (by simp) (wpAny_Constant_int ?_)) hpd)
  have u2 := u1.trans (.tok (t := s.toks + [(p, y)].length + 1))
  obtain ⟨xa, its, kk, rfl, hg, hr⟩ := tup_of (sr.qu u2) ht ry
  obtain ⟨z, hz, t, rfl⟩ := hr.get ha
  have hj := (List.getElem?_eq_some_iff.mp ha).1
  refine tail_any (T := "tuple") ⟨_, hg, rfl⟩ slot_tuple_getitem.lookup (getItem_tuple (items := its) ⟨_, hg, rfl, _, rfl⟩ (Int.le_trans (by decide) (Int.natCast_nonneg _)) (lim63 hj hl) (j := k) ?_ (by rw [← Array.getElem?_toList]; exact hz) (q _ _ u2)) (sub_plain fun a d c p e => by cases e)
  unfold seqIndex?
  rw [hr.size]
  simp only [if_neg (Int.not_lt.mpr (Int.natCast_nonneg k))]
  rw [if_pos (by simpa using hj), Int.toNat_natCast]
end
end Rw
namespace Rw
open PySem PySem.W PySem.Calls PyProof.Rows
section
variable {c : Cx} {A : Around} {E : Value → Shared → Prop} {n : Nat} {σ σ' : Sg} {v u : V} {ρ ρ' ρ'' : Rho} {s s' s'' : Shared} {fs : List Env} {os os' : List O} {x y : Value} {env : Env} {l : List V} {i k : Nat}
theorem Qu.up {d : Addr} (a : Qu s s') (u : Up d s' s'') (h : s.heap.objs.size ≤ d) : Qu s s'' := ⟨Nat.le_trans a.sz u.sz, fun b o e => u.keep b o (Nat.ne_of_lt (Nat.lt_of_lt_of_le (Heap.lt_size e) h)) (a.keep b o e), u.os.trans a.os, u.gens.trans a.gens⟩
inductive BestR (c : Cx) (ρ : Rho) : Option (Int × V) → Array Value → Prop
  | none : BestR c ρ none #[]
  | some {m t v y} : VR c ρ v y → BestR c ρ (some (m, v)) #[y, .int m t]
noncomputable def KeyOk (c : Cx) (ρ : Rho) (os : List O) (k : Nat) (A : Around) (f : Addr) (s : Shared) : Prop := ∀ (s1 : Shared) {i : Nat} {l : List V} {y : Value} {a : Int} {Q : Value → Shared → Prop} {E : Value → Shared → Prop}, Qu s s1 → os[i]? = some (.tup l) → VR c ρ (.obj i) y → l.length < lim → l[k]? = some (.int a) → (∀ s' t, Qu s1 s' → Q (.int a t) s') → wpAny (model c.prog c.w) A (call (.ref f) [y]) Q E s1
theorem upS {S : Addr} {f : Obj → Obj} : Up S s { s with heap := s.heap.update S f } := up_of (Heap.SameBut.update ..)
theorem minN : (toString "min" ++ toString ".loop" : String) = "min.loop" := by decide
theorem min_loop (hh : A.handled = none) {its : Array Value} {ax J S f : Addr} (il : s.heap.IsList ax its) (hJ : s.heap.objs.size ≤ J) (hS : s.heap.objs.size ≤ S) (hSJ : S ≠ J) (turn : KeyOk c ρ os k A.in1 f s) {R : Result → Shared → Prop} {b : Option (Int × V)} (g : MinGo os k l b u)
    (q : ∀ y s', Qu s s' → VR c ρ u y → R (.ok (.ret y)) s') : ∀ (j : Nat) (arr : Array Value) (cc : Nat) (s1 : Shared), VRs c ρ l (its.toList.drop j) → Qu s s1 → s1.heap.IsListIter J ax j → s1.heap.get? S = some (listOf arr cc) → BestR c ρ b arr →
      codeAny (model c.prog c.w) A (.builtin "min.loop" ⟨[.ref J, .ref f, .ref S], []⟩) R s1 := by
  induction g with
  | @nil m v =>
    intro j arr cc s1 rl u1 hit gS br
    have il1 : s1.heap.IsList ax its := let ⟨o, ho, r⟩ := il; ⟨o, u1.keep _ _ ho, r⟩
    have hjn : its[j]? = none := by
      rw [← Array.getElem?_toList, List.getElem?_eq_none_iff]
      exact Nat.le_of_sub_eq_zero (by rw [← List.length_drop, ← rl.len]; rfl)
    cases br with
    | @some _ t _ y ry =>
    refine codeAny_builtin PySem.F.entry_min_loop ?_
    rw [Around.under_plainId PySem.F.plain_min_loop _]
    show wpAny _ A.in1 (seqItems? (.ref S) >>= _) _ _ _
    refine wpAny_bind (wpAny_seqItems gS rfl ?_)
    show wpAny _ A.in1 (tryCatch (pyNext (.ref J)) _ >>= _) _ _ _
    refine wpAny_bind (wpAny_tryCatch (with_size (wpAny_pyNext_list_end hh hit il1 hjn fun h' he hz => ?_)))
    have gS' : h'.get? S = some (listOf #[y, .int m t] cc) := he S _ hSJ gS
    have u2 : Qu s { s1 with heap := h' } := u1.up (d := J) ⟨hz, fun b o hb e => he b o hb e, rfl, rfl⟩ hJ
    show wpAny _ A.in1 (updateSeq S (fun _ => #[]) >>= _) _ _ _
    refine wpAny_bind ?_
    exact wpAny_updateSeq gS' rfl (wpAny_bind (wpAny_letGo (wpAny_pure (q y _ (u2.up (d := S) upS hS) ry))))
  | @cons i lt a l b u ht hlm hla g ih =>
    intro j arr cc s1 rl u1 hit gS br
    have il1 : s1.heap.IsList ax its := let ⟨o, ho, r⟩ := il; ⟨o, u1.keep _ _ ho, r⟩
    obtain ⟨y, hy, ry⟩ := rl.get (i := 0) rfl
    have hy : its[j]? = some y := by rw [List.getElem?_drop] at hy; rw [← Array.getElem?_toList]; exact hy
    have rl2 : VRs c ρ l (its.toList.drop (j + 1)) := by have := rl.drop (k := 1); rwa [List.drop_drop] at this
    refine codeAny_builtin PySem.F.entry_min_loop ?_
    rw [Around.under_plainId PySem.F.plain_min_loop _]
    show wpAny _ A.in1 (seqItems? (.ref S) >>= _) _ _ _
    refine wpAny_bind (wpAny_seqItems gS rfl ?_)
    show wpAny _ A.in1 (tryCatch (pyNext (.ref J)) _ >>= _) _ _ _
    refine wpAny_bind (wpAny_tryCatch (wpAny_pyNext_list_item hit il1 hy fun h' hit' hs => ?_))
    have gS' : h'.get? S = some (listOf arr cc) := (hs.2 S hSJ).trans gS
    have u2 : Qu s { s1 with heap := h' } := u1.up (d := J) (up_of hs) hJ
    show wpAny _ A.in1 (tryCatch (holding [y] (call (.ref f) [y])) _ >>= _) _ _ _
    refine wpAny_bind (wpAny_tryCatch (wpAny_holding (turn _ u2 ht ry hlm hla fun s3 t u3 => ?_)))
    have u3' := u2.trans u3
    have gS3 := u3.keep _ _ gS'
    have hit3 : s3.heap.IsListIter J ax (j + 1) := let ⟨o, ho, r⟩ := hit'; ⟨o, u3.keep _ _ ho, r⟩
    have hitS : ∀ {f : Obj → Obj}, (s3.heap.update S f).IsListIter J ax (j + 1) := let ⟨o, ho, r⟩ := hit3; ⟨o, (upS (s := s3)).keep _ _ (Ne.symm hSJ) ho, r⟩
    cases br with
    | none =>
      show wpAny _ A.in1 (updateSeq S (fun _ => #[y, .int a t]) >>= _) _ _ _
      refine wpAny_bind ?_
      refine wpAny_updateSeq gS3 rfl ?_
      rw [minN]
      exact wpAny_pure ⟨plainId_quiet PySem.F.plain_min_loop _, ih q (j + 1) _ _ _ rl2 (u3'.up upS hS) hitS (Heap.get?_update_self (Obj.mapSeq fun _ => #[y, .int a t]) gS3 rfl) (.some ry)⟩
    | @some m tm v yb rb =>
      show wpAny _ A.in1 (tryCatch (holding [y, .int a t] (richCompare .Lt (.int a t) (.int m tm) >>= _)) _ >>= _) _ _ _
      refine wpAny_bind (wpAny_tryCatch (wpAny_holding (wpAny_bind (CmpOf.ints_lt (prog := c.prog) (w := c.w) (A := A.in1) (P := fun i v => ∃ t, v = .int (if i = 0 then a else m) t) (fun i => if i = 0 then a else m) (fun i v h => h) 0 1 _ _ _ _ _ ⟨t, rfl⟩ ⟨tm, rfl⟩ ?_))))
      refine wpAny_bind (wpAny_holding (wpAny_truthy_bool ?_))
      refine wpAny_bind (wpAny_letGo (wpAny_pure ?_))
      show wpAny _ A.in1 (if decide (a < m) = true then _ else _) _ _ _
      by_cases hb : a < m
      · have e : stepB (some (m, v)) a (.obj i) = (a, .obj i) := if_pos hb
        rw [e] at ih
        rw [if_pos (decide_eq_true hb)]
        refine wpAny_bind ?_
        refine wpAny_updateSeq gS3 rfl (wpAny_bind (wpAny_letGo ?_))
        rw [minN]
        exact wpAny_pure ⟨plainId_quiet PySem.F.plain_min_loop _, ih q (j + 1) _ _ _ rl2 (u3'.up upS hS) hitS (Heap.get?_update_self (Obj.mapSeq fun _ => #[y, .int a t]) gS3 rfl) (.some ry)⟩
      · have e : stepB (some (m, v)) a (.obj i) = (m, v) := if_neg hb
        rw [e] at ih
        rw [if_neg (by rw [decide_eq_false hb]; exact Bool.false_ne_true)]
        refine wpAny_bind (wpAny_letGo ?_)
        rw [minN]
        exact wpAny_pure ⟨plainId_quiet PySem.F.plain_min_loop _, ih q (j + 1) _ _ _ rl2 u3' hit3 gS3 (.some rb)⟩
end
end Rw
namespace Rw
open PySem PySem.W PySem.Calls PyProof.Rows
section
variable {c : Cx} {A : Around} {E : Value → Shared → Prop} {n : Nat} {sc : Scope} {σ σ' : Sg} {v u : V} {ρ ρ' ρ'' : Rho} {s s' s'' : Shared} {fs : List Env} {os os' : List O} {x y : Value} {env : Env} {l : List V} {i k : Nat} {W : List Addr}
theorem min_open {its : Array Value} {ax f : Addr} (il : s.heap.IsList ax its) {R : Value → Shared → Prop}
    (h : ∀ s1, Qu s s1 → s1.heap.IsListIter s.heap.objs.size ax 0 → s1.heap.get? (s.heap.objs.size + 1) = some (listOf #[] 0) → codeAny (model c.prog c.w) A (.builtin "min.loop" ⟨[.ref s.heap.objs.size, .ref f, .ref (s.heap.objs.size + 1)], []⟩) (fun r s' => match r with | .ok (.ret v) => R v s' | .ok _ => False | .error e => E e s') s1) :
    wpAny (model c.prog c.w) A (call (.builtin "min") [.ref ax] [(Str.ofString "key", .ref f)]) R E s := by
  refine kmk_tree PySem.F.kind_min PySem.F.plain_min PySem.F.entry_min (kmk_min_key _ _) ?_
  show wpAny _ A.in1 (Builtin.Builtins.bindParams "min" ["key", "default"] 0 ⟨[], [(Str.ofString "key", .ref f)]⟩ >>= _) _ _ s
  refine wpAny_bind (wpAny_of_eq (show Builtin.Builtins.bindParams "min" ["key", "default"] 0 ⟨[], [(Str.ofString "key", .ref f)]⟩ = pure [some (.ref f), none] from rfl) ?_)
  refine wpAny_bind (wpAny_pure ?_)
  refine wpAny_bind (wpAny_pyIter_list il ?_)
  refine wpAny_bind (wpAny_newList ?_ (Nat.zero_le _))
  rw [minN]
  refine wpAny_pure ⟨plainId_quiet PySem.F.plain_min_loop _, ?_⟩
  have := h { s with heap := (s.heap.push { cls := .type "list_iterator", data := .fields #[.ref ax, .int 0 0] }).push { cls := .type "list", data := .seq ([] : List Value).toArray } } ((Qu.push (t := s.toks)).trans (Qu.push (t := s.toks))) ⟨_, Heap.get?_push_of_some _ (Heap.get?_push_size _ rfl), rfl, rfl⟩ (by have := Heap.get?_push_size (s.heap.push { cls := .type "list_iterator", data := .fields #[.ref ax, .int 0 0] }) (o := { cls := .type "list", data := .seq ([] : List Value).toArray }) rfl; rw [Heap.size_push] at this; exact this)
  rw [Heap.size_push]
  exact codeAny_mono this fun _ _ hr => hr
theorem snd_minKey (hh : A.handled = none) {its : Array Value} {ax f : Addr} (il : s.heap.IsList ax its) (rl : VRs c ρ l its.toList) (g : MinGo os k l none u) (turn : KeyOk c ρ os k A.in1 f s) {Q : Value → Shared → Prop}
    (q : ∀ y s', Qu s s' → VR c ρ u y → Q y s') : wpAny (model c.prog c.w) A (call (.builtin "min") [.ref ax] [(Str.ofString "key", .ref f)]) Q E s :=
  min_open il fun s1 w hit gS => min_loop hh il (Nat.le_refl _) (Nat.le_succ _) (Nat.succ_ne_self _) turn g q 0 #[] 0 s1 rl w hit gS .none
structure Raised (cls : String) (s : Shared) (e : Addr) (s' : Shared) : Prop where
  u : Qu s s'
  lo : s.heap.objs.size ≤ e
  ob : ∃ o vs a0, s'.heap.get? e = some o ∧ o.cls = .type cls ∧ o.data = .fields vs ∧ vs[0]? = some a0 ∧ vs[1]? = some .none
theorem first_ve (x : Value) : firstArgMember (.type "ValueError") [x] = pure .none := by
  kernel_rfl
theorem raw_raiseMade {α : Type} {msg : String} {Q : α → Shared → Prop} (hh : A.handled = none) (hz : (Str.ofString msg).length ≤ sizeLine) (q : ∀ e s', Raised "ValueError" s e s' → E (.ref e) s') : wpAny (model c.prog c.w) A (raiseErrorMade "ValueError" msg : Sem α) Q E s := by
  unfold raiseErrorMade
  refine wpAny_bind (wpAny_mkStr ?_ hz)
  refine wpAny_bind ?_
  simp only [newExc, newTuple]
  refine wpAny_bind (wpAny_newObj_type ?_ (by size_fits))
  refine wpAny_bind (wpAny_of_eq (first_ve _) ?_)
  refine wpAny_newObj_type ?_ (by size_fits)
  simp only [raiseNew]
  refine wpAny_bind (wpAny_bind (wpAny_handled ?_))
  rw [hh]
  refine wpAny_pure ?_
  refine wpAny_throw ?_
  refine q _ _ ?_
  refine ⟨⟨?_, fun b o e => Heap.get?_push_of_some _ (Heap.get?_push_of_some _ e), rfl, rfl⟩, ?_, ?_⟩
  · simp [Heap.size_push]; omega
  · simp [Heap.size_push]
  · have e0 : ownMembersOf (.type "ValueError") [Value.str (Str.ofString msg) s.toks] = #[] := rfl
    exact ⟨_, _, Value.ref s.heap.objs.size, Heap.get?_push_size _ rfl, rfl, rfl, by rw [e0]; rfl, by rw [e0]; rfl⟩
theorem snd_minEmpty (hh : A.handled = none) {its : Array Value} {ax f : Addr} (il : s.heap.IsList ax its) (hz : its.size = 0) {Q : Value → Shared → Prop}
    (q : ∀ e s', Raised "ValueError" s e s' → E (.ref e) s') : wpAny (model c.prog c.w) A (call (.builtin "min") [.ref ax] [(Str.ofString "key", .ref f)]) Q E s := by
  refine min_open il fun s1 w hit gS => ?_
  have il1 : s1.heap.IsList ax its := let ⟨o, ho, r⟩ := il; ⟨o, w.keep _ _ ho, r⟩
  refine codeAny_builtin PySem.F.entry_min_loop ?_
  rw [Around.under_plainId PySem.F.plain_min_loop _]
  show wpAny _ A.in1 (seqItems? (.ref _) >>= _) _ _ _
  refine wpAny_bind (wpAny_seqItems gS rfl ?_)
  show wpAny _ A.in1 (tryCatch (pyNext (.ref s.heap.objs.size)) _ >>= _) _ _ _
  refine wpAny_bind (wpAny_tryCatch (with_size (wpAny_pyNext_list_end hh hit il1 (by rw [Array.getElem?_eq_none_iff, hz]; exact Nat.zero_le _) fun h' he hzz => ?_)))
  have u3 : Qu s { s1 with heap := h' } := w.up (d := s.heap.objs.size) ⟨hzz, fun b o hb e => he b o hb e, rfl, rfl⟩ (Nat.le_refl _)
  show wpAny _ A.in1 (rule _ >>= fun _ => raiseErrorMade "ValueError" _) _ _ _
  refine wpAny_bind (wpAny_rule ?_)
  exact raw_raiseMade hh (by decide +kernel) fun e s' r => q e s' ⟨u3.trans r.u, Nat.le_trans u3.sz r.lo, r.ob⟩
end
end Rw
namespace Rw
open PySem PySem.W PySem.Calls PyProof.Rows
structure Fly (fs : List Env) (s s' : Shared) : Prop where
  keep : ∀ b o, b ∉ frA fs → s.heap.get? b = some o → s'.heap.get? b = some o
  slots : ∀ b o, b ∈ frA fs → s.heap.get? b = some o → ∃ sl, s'.heap.get? b = some { o with slots := sl }
  sz : s.heap.objs.size ≤ s'.heap.objs.size
  os : s'.os = s.os
  gens : s'.gens = s.gens
section
variable {c : Cx} {A : Around} {E : Value → Shared → Prop} {n : Nat} {sc : Scope} {σ σ' : Sg} {v u : V} {ρ ρ' ρ'' : Rho} {s s' s'' : Shared} {fs : List Env} {os os' : List O} {x y : Value} {env : Env} {W : List Addr} {b : Addr} {o : Obj}
theorem frm_dict (sr : SR c fs ρ os s) (hb : b ∈ frA fs) (ho : s.heap.get? b = some o) : (∃ es k, o.data = .dict es k) ∧ c.h0.objs.size ≤ b := by
  obtain ⟨env', he, hf⟩ := List.mem_filterMap.mp hb
  obtain ⟨_, L, o', f, l, e, d⟩ := sr.ff env' he
  rw [f] at hf; cases hf
  rw [ho] at e; cases e
  exact ⟨d, l⟩
theorem Fly.le (a : Fly fs s s') : Le c W fs ρ s ρ s' := by
  refine ⟨⟨[], (List.append_nil ρ).symm, fun _ h => nomatch h⟩, a.sz, fun b o h _ _ hn => a.keep b o hn h, fun b o h _ _ => ?_, a.os, fun _ _ => by rw [a.gens], Nat.le_of_eq (by rw [a.gens])⟩
  by_cases hb : b ∈ frA fs
  · exact a.slots b o hb h
  · exact ⟨o.slots, a.keep b o hb h⟩
theorem SR.fly (sr : SR c fs ρ os s) (a : Fly fs s s') : SR c fs ρ os s' := by
  have nd : ∀ {b o}, s.heap.get? b = some o → (∀ es k, o.data ≠ .dict es k) → b ∉ frA fs := fun {b o} h hn hm => by
    obtain ⟨⟨es, k, e⟩, _⟩ := frm_dict sr hm h
    exact hn _ _ e
  refine ⟨sr.len, sr.nd, sr.nd1, sr.lo, fun p hp => ⟨Nat.lt_of_lt_of_le (sr.inn p hp).1 a.sz, Nat.lt_of_lt_of_le (sr.inn p hp).2 a.sz⟩, sr.nfr, fun i o hi => ?_, by rw [a.gens]; exact sr.bare, fun b o e => ?_, Nat.le_trans sr.osz a.sz, fun env he => ?_, fun b hb => ?_, sr.txz⟩
  · obtain ⟨p, hp, hr⟩ := sr.ob i o hi
    exact ⟨p, hp, hr.move0 (fun _ => a.keep _ _ (sr.nfr p (mem2 hp))) fun x hx e => a.keep _ _ (nd e fun es k e' => by rw [hx] at e'; cases e') e⟩
  · exact a.keep b o (fun hm => absurd (Heap.lt_size e) (Nat.not_lt.mpr (frm_dict sr hm (sr.old b o e)).2)) (sr.old b o e)
  · obtain ⟨kk, L, o, f, l, e, d⟩ := sr.ff env he
    obtain ⟨sl, q⟩ := a.slots L o (List.mem_filterMap.mpr ⟨env, he, f⟩) e
    exact ⟨kk, L, _, f, l, q, d⟩
  · obtain ⟨ps, h1, h2, h3⟩ := sr.tx b hb
    refine ⟨ps, a.keep _ _ (nd h1 fun es k e => by cases e) h1, h2, fun pos cv e => ?_⟩
    obtain ⟨d, o, vs, q, t, e1, g1, g2, g3, g4⟩ := h3 pos cv e
    exact ⟨d, o, vs, q, t, e1, a.keep _ _ (nd g1 fun es k e => by rw [g3] at e; cases e) g1, g2, g3, g4⟩
theorem funFrames (hf : ∀ env ∈ fs, env.scope.kind ≠ .module ∧ ∃ L o, env.frame = some L ∧ c.h0.objs.size ≤ L ∧ s.heap.get? L = some o ∧ ∃ es ep, o.data = .dict es ep) {base : Heap} (hb : ∀ a ∈ frA fs, base.get? a = none) : s.heap.FunFrames base fs := by
  induction fs with
  | nil => trivial
  | cons env fs ih =>
    obtain ⟨hm, L, o, f, l, e, es, ep, d⟩ := hf env (List.mem_cons_self ..)
    have ef : frA (env :: fs) = L :: frA fs := by unfold frA; rw [List.filterMap_cons, f]
    rw [ef] at hb
    exact ⟨hm, ⟨L, o, f, hb L (List.mem_cons_self ..), e, fun vs q => by rw [d] at q; cases q⟩, ih (fun env he => hf env (List.mem_cons_of_mem _ he)) fun a ha => hb a (List.mem_cons_of_mem _ ha)⟩
theorem ve_exc : isSubtype (.type "ValueError") (.type "BaseException") = pure true := by rw [isSubtype_type]; kernel_rfl
theorem ve_self : isSubtype (.type "ValueError") (.type "ValueError") = pure true := by rw [isSubtype_type]; kernel_rfl
theorem snd_caught (G : Gd c) (eo : EnvOk sc env) (cx : Ctx A fs n) (fe : ∃ outer, fs = env :: outer) (fL : env.frame = some env.locals) (sr : SR c fs ρ os s) {e : Addr} (rs : Raised "ValueError" s e s') {x : Str} {np pos : Pos} {b0 : Stmt} {suite : List Stmt} {rest : List ExceptHandler} (hx : x = ("ValueError" : Str)) (hk : sc.names.lookup x = some .globalImplicit) {Q : Flow → Shared → Prop}
    (q : ∀ s2 E, Fly fs s s2 → wpAny (model c.prog c.w) (A.mark (some (.ref e))) (execs (b0 :: suite) env) Q E s2) :
    wpAny (model c.prog c.w) A (noteFrame (.ref e) env) (fun _ s₂ => wpAny (model c.prog c.w) A (setFlight (.ref e) none) (fun _ s₃ => wpAny (model c.prog c.w) A (handleBy (.ref e) env (.ExceptHandler (some (.Name x np)) none (b0 :: suite) pos :: rest)) Q E s₃) E s₂) E s' := by
  obtain ⟨outer, rfl⟩ := fe
  obtain ⟨o, vs, a0, ho, hc, hd, h0', h1⟩ := rs.ob
  have sr' := sr.qu rs.u
  generalize hB : hideAll s'.heap (e :: frA (env :: outer)) = B
  have bn : ∀ b ∈ e :: frA (env :: outer), B.get? b = none := fun b hb => by subst hB; exact hideAll_none _ hb
  have bs : B.StaysIn s'.heap := fun b o hb => by subst hB; exact of_hideAll _ hb
  have bk : ∀ b o, s'.heap.get? b = some o → b ≠ e → b ∉ frA (env :: outer) → B.get? b = some o := fun b o hb h1 h2 => by
    subst hB
    exact hideAll_get _ hb (fun hm => by rcases List.mem_cons.mp hm with h | h; exact h1 h; exact h2 h)
  have ff : s'.heap.FunFrames B (env :: outer) := funFrames (c := c) sr'.ff fun a ha => bn a (List.mem_cons_of_mem _ ha)
  unfold noteFrame
  simp only [fL]
  refine wpAny_bind (wpAny_field ho hd h1 ?_)
  rw [if_neg (by decide)]
  refine wpAny_entryW cx.fr ff fL ho bs (bn e (List.mem_cons_self ..)) hd (Array.getElem?_eq_some_iff.mp h1).1 h0' fun h2 hn => ?_
  obtain ⟨k1, k2, k3, k4⟩ := hn
  have held : Heap.HeldW B (env :: outer) e o.cls a0 env.locals h2 := ⟨k1, bn e (List.mem_cons_self ..), k2, k3⟩
  refine wpAny_landsW held fun h3 fly3 sm3 => ?_
  have fin : ∀ {h4 : Heap}, Heap.FlyingW B (env :: outer) e o.cls a0 h4 → s'.heap.UpToSlots h4 → Fly (env :: outer) s { s' with heap := h4 } := by
    intro h4 f4 sm4
    refine ⟨fun b o hb ho' => ?_, fun b o hb ho' => ?_, ?_, rs.u.os, rs.u.gens⟩
    · have hbe : b ≠ e := Nat.ne_of_lt (Nat.lt_of_lt_of_le (Heap.lt_size ho') rs.lo)
      exact f4.1 b o (bk b o (rs.u.keep _ _ ho') hbe hb)
    · obtain ⟨⟨es, k, d⟩, _⟩ := frm_dict sr hb ho'
      exact sm4 b o (rs.u.keep _ _ ho') fun vs q => by rw [d] at q; cases q
    · obtain ⟨ob, hob, _⟩ := f4.there
      exact Nat.le_trans rs.lo (Nat.le_of_lt (Heap.lt_size hob))
  have sm03 : s'.heap.UpToSlots h3 := fun b o hb hn => by
    obtain ⟨sl, h⟩ := k4 b o hb hn
    obtain ⟨sl', h'⟩ := sm3 b _ h hn
    exact ⟨sl', h'⟩
  have F3 := fin fly3 sm03
  have sr3 := sr.fly F3
  obtain ⟨mg, hm⟩ := G.ns
  obtain ⟨mb, hb, hbb⟩ := G.nb
  have hm' : h3.Ns env.globals mg := by rw [eo.gl]; exact hm.keeps sr3.old
  have hb' : h3.Ns env.builtins mb := by rw [eo.bu]; exact hb.keeps sr3.old
  subst hx
  obtain ⟨ob, hob, hobc⟩ := fly3.there
  refine wpAny_handleBy_builtin (X := "ValueError") (T := "ValueError") (b := true) ve_exc ?_ ve_self (Name_function_global eo.kd (eo.g1 _ hk) (loadGlobal_builtin hm' (mg_none_of G.k hm G.ve.1) hb' ((hbb _ (by decide +kernel)).trans G.ve.2) ⟨rfl, ⟨ob, hob, by rw [hobc, hc]⟩, ?_⟩) (by decide +kernel))
  · rw [isSubtype_type]; kernel_rfl
  · rw [if_pos rfl]
    refine lands_againW fly3 fun h4 fly4 sm4 => ?_
    refine q _ _ (fin fly4 fun b o hb hn => ?_)
    obtain ⟨sl, h⟩ := sm03 b o hb hn
    obtain ⟨sl', h'⟩ := sm4 b _ h hn
    exact ⟨sl', h'⟩
end
end Rw
namespace Rw
open PySem PySem.W PySem.Calls PyProof.Rows
section
variable {c : Cx} {A : Around} {E : Value → Shared → Prop} {n : Nat} {sc lsc : Scope} {σ σ' : Sg} {v u : V} {ρ ρ' : Rho} {s s' : Shared} {fs : List Env} {env : Env} {l : List V} {i k : Nat} {ts : List Expr} {pn yn : Str} {ck tk : Nat} {la lb lc ld le' mp yp kp cp ap tp hp rp ep c1 c2 c3 pos : Pos}
structure LamOk (lsc : Scope) (pn : Str) : Prop where
  n1 : lsc.names = [(pn, .local)]
  n2 : lsc.kind = .function
  n3 : lsc.isGenerator = false
  n4 : lsc.isCoroutine = false
  n6 : (pn == ("__debug__" : Str)) = false
  bd : ∀ qual ap b pm cd v, bindArgs (lamFd qual ⟨[], [⟨pn, none, ap⟩], none, [], [], none, []⟩ b lsc pm cd) ⟨[v], []⟩ = pure [(pn, v)]
abbrev keyLam (k : Nat) (pn : Str) (lsc : Scope) (ck : Nat) (la lb lc ld le' : Pos) : Expr := .Lambda ⟨[], [⟨pn, none, la⟩], none, [], [], none, []⟩ (.Subscript (.Name pn lb) (.Constant (.int (k : Int)) ck lc) ld) lsc le'
theorem minCall (G : Gd c) (L : LamOk lsc pn) (hm : EvE c n sc (.Name ("min" : Str) mp) σ (.bi .min) σ) (hy : EvE c n sc (.Name yn yp) σ (.obj i) σ) (hi : σ.os[i]? = some (.list l)) (eo : EnvOk sc env) (F : FrOk c fs env) (cx : Ctx A fs n) (p : Pre c fs env σ ρ s) {Q : Value → Shared → Prop}
    (q : ∀ ρ' s' ax its f, Aft c fs env ρ s σ ρ' s' → s'.heap.IsList ax its → VRs c ρ' l its.toList → KeyOk c ρ' σ.os k A.in1 f s' → wpAny (model c.prog c.w) A (call (.builtin "min") [.ref ax] [(Str.ofString "key", .ref f)]) Q E s') :
    wpAny (model c.prog c.w) A (eval (.Call (.Name ("min" : Str) mp) [.Name yn yp] [⟨some ("key" : Str), keyLam k pn lsc ck la lb lc ld le', kp⟩] cp) env) Q E s := by
  refine raw_Call (fun o a p => by simp) (hm.r _ _ _ _ _ _ _ eo cx p fun ρ1 s1 z a1 rz => ?_)
  cases rz
  refine raw_callWith (raw_args (fun x => lone_of rfl) ?_)
  refine args_cons (hy.r _ _ _ _ _ _ _ eo cx (p.next a1) fun ρ2 s2 yv a2 ry => args_nil (.inl ⟨rfl, ?_⟩)) rfl
  show wpAny _ _ (evalAll [do let v ← eval (.Lambda _ _ lsc le') env; standAt cp; pure v]) _ _ _
  unfold evalAll
  refine wpAny_bind (wpAny_bind (snd_lam G F.co eo.gl a2.sr rfl (fun p hp => by rw [L.n1] at hp; rw [List.mem_singleton.mp hp]; intro e; cases e) fun f s3 pm cd tq gf rc => wpAny_bind (wpAny_standAt (wpAny_pure ?_))))
  refine wpAny_bind (wpAny_holding (wpAny_pure (wpAny_pure ?_)))
  have le3 : Le c [] fs ρ2 s2 ρ2 s3 := tq.le
  have sr3 := a2.sr.tq G tq
  have a3 := (a1.trans a2).trans ⟨le3, sr3, a2.fr.mono le3⟩
  obtain ⟨ax, its, kk, rfl, _, hg, hr⟩ := list_of sr3 hi ry
  refine ⟨⟨.machine, .inr rfl, Looks.now⟩, q ρ2 s3 ax its f a3 ⟨_, hg, rfl, _, rfl⟩ hr fun s4 {i2 l2 y2 a2 Q2 E2} u4 ht ry2 hl2 ha2 q2 => ?_⟩
  exact lam_call G (by have := cx.dp; show A.depth < _; omega) L.n1 L.n2 L.n3 L.n4 (sr3.qu u4) (u4.keep _ _ gf) (by obtain ⟨d, o, vs, qq, t, e, g1, g2⟩ := rc; exact ⟨d, o, vs, qq, t, e, u4.keep _ _ g1, g2⟩) ht ry2 hl2 ha2 L.n6 (L.bd _ _ _ _ _ _) q2
theorem s_tryMin (G : Gd c) (L : LamOk lsc pn) (hm : EvE c n sc (.Name ("min" : Str) mp) σ (.bi .min) σ) (hy : EvE c n sc (.Name yn yp) σ (.obj i) σ) (hi : σ.os[i]? = some (.list l)) (g : MinGo σ.os k l none u) (hb : BindT c sc (.Tuple ts tk tp) u σ σ') {hd : ExceptHandler} {hs : List ExceptHandler} :
    EvS c n sc (.Try [.Assign [.Tuple ts tk tp] (.Call (.Name ("min" : Str) mp) [.Name yn yp] [⟨some ("key" : Str), keyLam k pn lsc ck la lb lc ld le', kp⟩] cp) ap] (hd :: hs) [] [] pos) σ .nxt σ' := by
  refine ⟨?_⟩; intro A env fs ρ s Q E eo F cx p q
  refine wpAny_Try_except (wpAny_execs_cons ?_)
  refine wpAny_Assign_stores ?_ rfl rfl
  refine minCall G L hm hy hi eo F cx p fun ρ1 s1 ax its f a1 il rl ko => ?_
  refine snd_minKey cx.hd il rl g ko fun z s2 u2 rz => ?_
  have a2 := a1.qu u2
  exact snd_bind eo F.toFrSt cx hb (p.next a2) rz fun s3 a3 => wpAny_execs_nil (wpAny_execs_nil (q _ _ _ (a2.toS.trans a3) .nxt))
theorem s_tryMin0 (G : Gd c) (L : LamOk lsc pn) (hm : EvE c n sc (.Name ("min" : Str) mp) σ (.bi .min) σ) (hy : EvE c n sc (.Name yn yp) σ (.obj i) σ) (hi : σ.os[i]? = some (.list [])) (lx : sc.names.lookup ("ValueError" : Str) = some .globalImplicit) {k1 k2 k3 : Nat} {hs : List ExceptHandler} :
    EvS c n sc (.Try [.Assign [.Tuple ts tk tp] (.Call (.Name ("min" : Str) mp) [.Name yn yp] [⟨some ("key" : Str), keyLam k pn lsc ck la lb lc ld le', kp⟩] cp) ap] (.ExceptHandler (some (.Name ("ValueError" : Str) ep)) none [.Return (some (.Tuple [.Constant .none k1 c1, .Constant .none k2 c2] k3 c3)) rp] hp :: hs) [] [] pos) σ (.ret (.obj σ.os.length)) ⟨σ.vs, σ.os ++ [.tup [.none, .none]]⟩ := by
  refine ⟨?_⟩; intro A env fs ρ s Q E eo F cx p q
  refine wpAny_Try_except (wpAny_execs_cons ?_)
  refine wpAny_Assign_stores ?_ rfl rfl
  refine minCall G L hm hy hi eo F cx p fun ρ1 s1 ax its f a1 il rl ko => ?_
  refine snd_minEmpty cx.hd il rl.size fun e s2 rs => ?_
  refine snd_caught G eo cx F.fe F.fL a1.sr rs rfl lx fun s3 E' fl3 => ?_
  have sr3 := a1.sr.fly fl3
  have le3 : Le c [] fs ρ1 s1 ρ1 s3 := fl3.le
  have a3 : Aft c fs env ρ s σ ρ1 s3 := a1.trans ⟨le3, sr3, a1.fr.mono le3⟩
  refine wpAny_execs_cons (wpAny_Return_some (wpAny_Tuple (args_cons (wpAny_Constant_none (args_cons (wpAny_Constant_none (args_nil ⟨by decide, ?_⟩)) rfl)) rfl)))
  obtain ⟨a4, r4⟩ := new_obj (p.next a3) (t := s3.toks) (.newT (l := [.none, .none]) (ys := [Value.none, Value.none]) (.cons rfl (.cons rfl .nil)))
  exact q _ _ _ (a3.trans a4).toS (.ret r4)
end
end Rw
namespace Rw
open PySem PySem.W PySem.Calls PyProof.Rows
section
variable {prog : Program} {w : World} {A : Around} {E : Value → Shared → Prop} {s s' s'' : Shared}
theorem raw_extend_loop {R : Result → Shared → Prop} {S I : Addr} {res : Value} (Inv : Nat → Shared → Prop)
    (turn : ∀ n s, Inv n s → wpAny (model prog w) A.in1 (pyNext (.ref I)) (fun o s' => match o with
      | none => R (.ok (.ret res)) s'
      | some v => wpAny (model prog w) A.in1 (updateSeq S (·.push v)) (fun _ s'' => ∃ m, m < n ∧ Inv m s'') (fun e s' => R (.error e) s') s') (fun e s' => R (.error e) s') s) :
    ∀ (n : Nat) (s : Shared), Inv n s → codeAny (model prog w) A (.builtin "list.extend.loop" ⟨[.ref S, .ref I, res], []⟩) R s := by
  intro n
  induction n using Nat.strongRecOn with
  | ind n ih =>
  intro s hI
  refine codeAny_builtin F.entry_extend_loop ?_
  rw [Around.under_plainId F.plain_extend_loop _]
  show wpAny _ A.in1 (pyNext (.ref I) >>= _) _ _ s
  refine wpAny_bind (wpAny_mono (turn n s hI) (fun o s' h' => ?_) fun _ _ e => e)
  cases o with
  | none => exact wpAny_pure h'
  | some v =>
    show wpAny _ A.in1 (updateSeq S (·.push v) >>= _) _ _ _
    refine wpAny_bind (wpAny_mono h' (fun _ s'' h'' => ?_) fun _ _ e => e)
    obtain ⟨m, hm, hI'⟩ := h''
    exact wpAny_pure ⟨plainId_quiet F.plain_extend_loop _, ih m hm s'' hI'⟩
theorem raw_list_gen {I g : Addr} {Q : Value → Shared → Prop} (hg : s.heap.IsGen I g) (Inv : Nat → Shared → Prop)
    (init : ∀ h' c, s.heap.objs.size < h'.objs.size → (∀ b o, s.heap.get? b = some o → h'.get? b = some o) → h'.get? s.heap.objs.size = some (listOf #[] c) → ∃ n, Inv n { s with heap := h' })
    (turn : ∀ n s1, Inv n s1 → wpAny (model prog w) A.in1.in1 (pyNext (.ref I)) (fun o s' => match o with
      | none => Q (.ref s.heap.objs.size) s'
      | some v => wpAny (model prog w) A.in1.in1 (updateSeq s.heap.objs.size (·.push v)) (fun _ s'' => ∃ m, m < n ∧ Inv m s'') E s') E s1) :
    wpAny (model prog w) A (call (.type "list") [.ref I]) Q E s := by
  have hIz : I < s.heap.objs.size := let ⟨_, _, _, ho, _⟩ := hg; Heap.lt_size ho
  refine callType_codes (Q₁ := fun obj s₁ => obj = .ref s.heap.objs.size ∧ s₁ = { s with heap := s.heap.push { cls := .type "list", data := .seq #[] } }) F.called_list (F.typeCall_list_1 _) F.entry_list_init
    (code_list_new _ ⟨rfl, rfl⟩) fun obj s₁ h₁ => ?_
  obtain ⟨rfl, rfl⟩ := h₁
  have hS : (s.heap.push { cls := .type "list", data := .seq #[] }).get? s.heap.objs.size = some { cls := .type "list", data := .seq #[] } := Heap.get?_push_size _ rfl
  refine ⟨⟨_, hS, rfl⟩, F.args_list_init_2 _ _, ?_⟩
  generalize hs1 : (s.heap.push { cls := .type "list", data := .seq #[] }) = h1 at hS ⊢
  have hz1 : s.heap.objs.size < h1.objs.size := Heap.lt_size hS
  have k1 : ∀ b o, s.heap.get? b = some o → h1.get? b = some o := fun b o e => by subst hs1; exact Heap.get?_push_of_some _ e
  show wpAny _ A.in1.in1 (do let old ← Builtin.List.listItems (.ref s.heap.objs.size); Builtin.List.listUpdate (.ref s.heap.objs.size) (fun _ => #[]); letGo old.toList.reverse; Builtin.List.listExtendWith (.ref s.heap.objs.size) (.ref I) .none) _ _ _
  refine wpAny_bind ?_
  unfold Builtin.List.listItems
  refine wpAny_bind (wpAny_seqItems hS rfl (wpAny_pure ?_))
  show wpAny _ A.in1.in1 (updateSeq s.heap.objs.size (fun _ => #[]) >>= fun _ => letGo (#[] : Array Value).toList.reverse >>= fun _ => Builtin.List.listExtendWith (.ref s.heap.objs.size) (.ref I) .none) _ _ _
  refine wpAny_bind (wpAny_updateSeq hS rfl ?_)
  have hS₂ := Heap.get?_update_self (Obj.mapSeq (fun _ => (#[] : Array Value))) hS rfl
  have oth : ∀ b o, s.heap.get? b = some o → (h1.update s.heap.objs.size (Obj.mapSeq (fun _ => (#[] : Array Value)))).get? b = some o :=
    fun b o e => (Heap.get?_update_other _ _ (Nat.ne_of_gt (Heap.lt_size e))).trans (k1 b o e)
  have hz2 : s.heap.objs.size < (h1.update s.heap.objs.size (Obj.mapSeq (fun _ => (#[] : Array Value)))).objs.size := Heap.lt_size hS₂
  refine wpAny_bind (wpAny_letGo ?_)
  dsimp only
  generalize (h1.update s.heap.objs.size (Obj.mapSeq (fun _ => (#[] : Array Value)))) = h2 at hS₂ oth hz2 ⊢
  have hg2 : h2.IsGen I g := hg.keeps oth
  have hT2 : ({ s with heap := h2 } : Shared).TypeIs (.ref I) "generator" := hg2.typeIs
  unfold Builtin.List.listExtendWith
  refine wpAny_bind (wpAny_typeOf hT2 ?_)
  have e1 : Builtin.List.listSameRef (.ref s.heap.objs.size) (.ref I) = false := by simp [Builtin.List.listSameRef, Nat.ne_of_gt hIz]
  have e2 : (Value.type "generator" == Value.type "list") = false := by decide
  have e3 : (Value.type "generator" == Value.type "tuple") = false := by decide
  simp only [e1, e2, e3, Bool.or_false, Bool.false_eq_true, if_false]
  refine wpAny_bind (wpAny_pyIter_gen hg2 ?_)
  refine wpAny_bind (wpAny_holding ?_)
  unfold Builtin.List.listLengthHint
  refine wpAny_bind (wpAny_specialOf hT2 F.gen_no_len ?_)
  show wpAny _ A.in1.in1 (specialOf (Value.ref I) (Str.ofString "__length_hint__") >>= _) _ _ _
  refine wpAny_bind (wpAny_specialOf hT2 F.gen_no_hint ?_)
  refine wpAny_pure ?_
  show wpAny _ A.in1.in1 (rule "list.extend.makes-room" >>= fun _ => Builtin.List.listTouch (.ref s.heap.objs.size) >>= fun _ =>
    again (.builtin "list.extend.loop" ⟨[.ref s.heap.objs.size, .ref I, .none], []⟩)) _ _ _
  refine wpAny_bind (wpAny_rule ?_)
  refine wpAny_bind ?_
  show wpAny _ A.in1.in1 (updateSeq s.heap.objs.size (·.push .none) >>= fun _ => updateSeq s.heap.objs.size (·.pop)) _ _ _
  refine wpAny_bind (wpAny_updateSeq hS₂ rfl ?_)
  have hS₃ := Heap.get?_update_self (Obj.mapSeq (·.push Value.none)) hS₂ rfl
  refine wpAny_updateSeq (hz := by seq_fits) hS₃ rfl ?_
  have hS₄ := Heap.get?_update_self (Obj.mapSeq (·.pop)) hS₃ rfl
  have oth4 : ∀ b o, s.heap.get? b = some o → ((h2.update s.heap.objs.size (Obj.mapSeq (·.push Value.none))).update s.heap.objs.size (Obj.mapSeq (·.pop))).get? b = some o :=
    fun b o e => (Heap.get?_update_other _ _ (Nat.ne_of_gt (Heap.lt_size e))).trans ((Heap.get?_update_other _ _ (Nat.ne_of_gt (Heap.lt_size e))).trans (oth b o e))
  have hz4 := Heap.lt_size hS₄
  obtain ⟨n, hI⟩ := init _ _ hz4 oth4 hS₄
  refine wpAny_pure ⟨plainId_quiet F.plain_extend_loop _, raw_extend_loop Inv (fun n s1 hI => ?_) n _ hI⟩
  refine wpAny_mono (turn n s1 hI) (fun o s' h' => ?_) fun _ _ e => e
  cases o with
  | none => exact ⟨rfl, h'⟩
  | some v => exact h'
end
section
variable {c : Cx} {A : Around} {E : Value → Shared → Prop} {n : Nat} {sc csc : Scope} {ρ ρ' ρ'' : Rho} {s s' s'' : Shared} {fs : List Env} {os os' : List O} {env cenv : Env} {W V' : List Addr} {σ σ' : Sg} {vs vs0 : Nat → Option V} {L C : Addr}
theorem SR.gens {gs : Array GenState} (sr : SR c fs ρ os s) (hb : AllBare gs) : SR c fs ρ os { s with gens := gs } :=
  ⟨sr.len, sr.nd, sr.nd1, sr.lo, sr.inn, sr.nfr, sr.ob, hb, sr.old, sr.osz, sr.ff, sr.tx, sr.txz⟩
theorem FR.gens {gs : Array GenState} (F : FR c env vs ρ s) : FR c env vs ρ { s with gens := gs } := ⟨F.ns, F.cel, F.all, F.cl, F.inj, F.lc, F.nof⟩
noncomputable def bareS (s : Shared) : Shared := { s with gens := #[] }
theorem Le.noG (a : Le c W fs ρ s ρ' s') : Le c W fs ρ (bareS s) ρ' s' := ⟨a.pre, a.sz, a.keep, a.frm, a.os, fun g h => absurd h (Nat.not_lt_zero _), Nat.zero_le _⟩
theorem Le.ofG (a : Le c W fs ρ (bareS s) ρ' s') (h1 : s.gens.size ≤ s'.gens.size) (h2 : ∀ g, g < s.gens.size → s'.gens[g]? = s.gens[g]?) : Le c W fs ρ s ρ' s' := ⟨a.pre, a.sz, a.keep, a.frm, a.os, h2, h1⟩
theorem Le.toG {gs : Array GenState} (a : Le c W fs ρ (bareS s) ρ' s') : Le c W fs ρ (bareS s) ρ' { s' with gens := gs } := ⟨a.pre, a.sz, a.keep, a.frm, a.os, fun g h => absurd h (Nat.not_lt_zero _), Nat.zero_le _⟩
theorem SR.kept (sr : SR c fs ρ os s) (k : ∀ b o, s.heap.get? b = some o → s'.heap.get? b = some o) (hz : c.h0.objs.size ≤ s'.heap.objs.size) (hb : AllBare s'.gens) : SR c fs ρ os s' := by
  refine ⟨sr.len, sr.nd, sr.nd1, sr.lo, fun p hp => ?_, sr.nfr, fun i o hi => let ⟨p, q, r⟩ := sr.ob i o hi; ⟨p, q, r.move0 (fun _ => k _ _) fun _ _ => k _ _⟩, hb,
    fun b o e => k b o (sr.old b o e), hz, fun env he => let ⟨k', L, o, f, l, e, d⟩ := sr.ff env he; ⟨k', L, o, f, l, k _ _ e, d⟩, fun b hb => (sr.tx b hb).keeps k, sr.txz⟩
  obtain ⟨i, hi⟩ := List.mem_iff_getElem?.mp hp
  have hl := (List.getElem?_eq_some_iff.mp hi).1
  rw [sr.len] at hl
  obtain ⟨oo, ho⟩ : ∃ oo, os[i]? = some oo := ⟨_, List.getElem?_eq_getElem hl⟩
  obtain ⟨q, hq, hr⟩ := sr.ob i _ ho
  rw [hi] at hq; cases hq
  have key : ∀ {b : Addr} {o : Obj}, s.heap.get? b = some o → b < s'.heap.objs.size := fun e => Heap.lt_size (k _ _ e)
  cases hr with
  | list h1 => exact ⟨key h1, key h1⟩
  | tup h1 => exact ⟨key h1, key h1⟩
  | inst h1 _ _ _ _ h6 => exact ⟨key h1, key h6⟩
  | dict h1 => exact ⟨key h1, key h1⟩
  | rng h1 => exact ⟨key h1, key h1⟩
theorem SR.enterAt (sr : SR c fs ρ os s) (hf : env.frame = some L) (oL : off c ρ L) (hL : c.h0.objs.size ≤ L) (hm : env.scope.kind ≠ .module) (hn : ∃ m, s.heap.Ns L m) : SR c (env :: fs) ρ os s := by
  refine ⟨sr.len, sr.nd, sr.nd1, sr.lo, sr.inn, fun p hp => ?_, sr.ob, sr.bare, sr.old, sr.osz, fun e he => ?_, sr.tx, sr.txz⟩
  · rw [frA_cons hf]
    exact fun hm => (List.mem_cons.mp hm).elim (oL.1 p hp) (sr.nfr p hp)
  · rcases List.mem_cons.mp he with rfl | he
    · obtain ⟨m, o, es, ep, h1, h2, _⟩ := hn
      exact ⟨hm, L, o, hf, hL, h1, es, ep, h2⟩
    · exact sr.ff e he
section
variable {cl : List (Str × Addr)} {code : Value} {bi : Addr}
theorem gen_envOk (h : InSc sc csc) (eo : EnvOk sc env) : EnvOk csc (genEnv csc cl C code builtinsNs env) := by
  refine ⟨eo.gl, rfl, h.kd, fun x e => e, fun x e => e, fun x e => e, fun x e => ?_, fun x e => .inl e⟩
  rcases in_look h e with q | q | q <;> cases q
theorem gen_ownW : ownW (genEnv csc cl C code bi env) = [C] := by
  unfold ownW
  have : ((genEnv csc cl C code bi env).cells.filter fun p => (genEnv csc cl C code bi env).func.isSome && (genEnv csc cl C code bi env).kindOf p.1 == some .cell) = [] := List.filter_eq_nil_iff.mpr fun p _ => Bool.false_ne_true
  rw [this]; rfl
theorem gen_frOk (h : InSc sc csc) (hL : c.h0.objs.size ≤ C) : FrSt c (genEnv csc cl C code bi env) :=
  ⟨fun b hb => by rw [gen_ownW] at hb; rw [List.mem_singleton.mp hb]; exact hL, h.kd⟩
theorem gen_fr (h : InSc sc csc) (eo : EnvOk sc env) (F : FR c env vs ρ s) (hv : Seen c csc vs0 vs) (u : Qu s s') (oC : off c ρ s.heap.objs.size) {m : Str → Option Value} (hn : s'.heap.Ns s.heap.objs.size m) :
    FR c (genEnv csc (clOf env csc.names []) s.heap.objs.size code bi env) vs0 ρ s' := by
  have ha := hall h eo F
  have agree : ∀ {x d}, (clOf env csc.names []).lookup x = some d → env.cells.lookup x = some d := fun {x d} e => (clOf_mem ha (lookup_mem' e)).elim (fun q => nomatch q) (·.1)
  have mem : ∀ {x}, csc.names.lookup x = some .cell ∨ csc.names.lookup x = some .free → (x, NameKind.free) ∈ csc.names := fun {x} hk => hk.elim (fun hk => by rcases in_look h hk with q | q | q <;> cases q) lookup_mem'
  refine ⟨⟨_, hn, fun x v hx hk => ?_⟩, fun x v hx hk => ?_, fun x hk => ?_, fun pp hp => ?_, fun n m d e1 e2 => F.inj _ _ _ (agree e1) (agree e2), fun n d e e' => absurd (F.nof d (cell_own (agree e))).2 (e' ▸ Nat.lt_irrefl _), fun b hb => ?_⟩
  · exact nomatch (hk.symm.trans (hv x v hx).1)
  · have hm := lookup_mem' (hv x v hx).1
    obtain ⟨d, y, h1, h2, h3⟩ := F.cel x v (hv x v hx).2 (hfree h eo _ hm rfl)
    exact ⟨d, y, (clOf_look ha hm).trans h1, h2.keeps u.keep, h3⟩
  · obtain ⟨d, hd⟩ := F.all _ (hfree h eo _ (mem hk) rfl)
    exact ⟨d, (clOf_look ha (mem hk)).trans hd⟩
  · rcases clOf_mem ha hp with q | q
    · cases q
    · obtain ⟨y, hy⟩ := F.cl _ (lookup_mem' q.1)
      exact ⟨y, hy.keeps u.keep⟩
  · rcases List.mem_cons.mp hb with rfl | hb
    · exact ⟨oC, hn.lt⟩
    · obtain ⟨pp, hp, rfl⟩ := List.mem_map.mp hb
      rcases clOf_mem ha hp with q | q
      · cases q
      · have := F.nof pp.2 (cell_own q.1)
        exact ⟨this.1, Nat.lt_of_lt_of_le this.2 u.sz⟩
end
theorem Ctx.gen {e : Expr} {k : Nat} {it acc : Value} (x : Ctx A fs (n + 1)) (hg : (Code.compLoop e k it acc cenv).isFrame = true) (hw : (Code.compLoop e k it acc cenv).weight = 1) (hu : (Code.compLoop e k it acc cenv).cUnits = 3) : Ctx (A.in1.in1.in1.over (.compLoop e k it acc cenv) []) (cenv :: fs) n := by
  refine ⟨x.hd, ?_, ?_, ?_⟩
  · have := x.dp
    show A.depth + 0 + (Code.compLoop e k it acc cenv).weight + _ + _ < _
    rw [hw]; omega
  · have := x.un
    show A.units + 1 + 1 + 1 + 0 + (Code.compLoop e k it acc cenv).cUnits + _ + _ < _
    rw [hu]; omega
  · show pushEnvs (Code.compLoop e k it acc cenv).envs (pushEnvs [] A.frames) = _
    rw [x.fr]
    unfold Code.envs
    rw [hg]
    rfl
end
end Rw
namespace Rw
open PySem PySem.W PySem.Calls PyProof.Rows
noncomputable def GKeep (g : Nat) (G0 a : Array GenState) : Prop := G0.size ≤ a.size ∧ ∀ g', g' ≠ g → g' < G0.size → a[g']? = G0[g']?
section
variable {c : Cx} {A : Around} {E : Value → Shared → Prop} {n N : Nat} {sc csc : Scope} {tg it elt : Expr} {ifs : List Expr} {ρ ρ' ρ'' ρ0 : Rho} {s s' s'' s0 sg : Shared} {fs : List Env} {os os' : List O} {env cenv : Env} {W V' : List Addr} {σ σ' : Sg} {vs vs0 : Nat → Option V} {L C J D : Addr} {i j k m g : Nat} {G0 : Array GenState} {S : Sc} {pos : Pos} {u : V}
theorem GKeep.le (x : GKeep g G0 s.gens) (a : Le c W fs ρ s ρ' s') : GKeep g G0 s'.gens :=
  ⟨Nat.le_trans x.1 a.gsz, fun g' h1 h2 => (a.gl g' (Nat.lt_of_lt_of_le h2 x.1)).trans (x.2 g' h1 h2)⟩
theorem GKeep.set {x : GenState} (h : GKeep g G0 s.gens) : GKeep g G0 (s.setGen g x).gens := by
  refine ⟨?_, fun g' h1 h2 => ?_⟩
  · show _ ≤ (s.gens.setIfInBounds g x).size
    rw [Array.size_setIfInBounds]; exact h.1
  · show (s.gens.setIfInBounds g x)[g']? = _
    rw [Array.getElem?_setIfInBounds_ne (Ne.symm h1)]
    exact h.2 g' h1 h2
theorem bare_set {x : GenState} (hb : AllBare s.gens) (h : x.bare = true) : AllBare (s.setGen g x).gens := fun y hy =>
  (Array.mem_or_eq_of_mem_setIfInBounds hy).elim (hb y) fun e => e ▸ h
theorem Le.fsup (a : Le c W fs ρ s ρ' s') : Le c W (env :: fs) ρ s ρ' s' :=
  ⟨a.pre, a.sz, fun b o hb hf hw hn => a.keep b o hb hf hw fun h => hn (by
    obtain ⟨e, he, hf⟩ := List.mem_filterMap.mp h
    exact List.mem_filterMap.mpr ⟨e, .tail _ he, hf⟩), a.frm, a.os, a.gl, a.gsz⟩
theorem At_.enter (F : FrSt c cenv) (ow : ownW cenv = [cenv.locals]) (hfm : cenv.frame = some cenv.locals) (a : At_ c fs cenv J S [cenv.locals] ρ0 s0 j σ ρ s) : At_ c (cenv :: fs) cenv J S [cenv.locals] ρ0 s0 j σ ρ s := by
  have hL : c.h0.objs.size ≤ cenv.locals := F.lo _ (ow ▸ .head _)
  obtain ⟨mm, hm, _⟩ := a.p.fr.ns
  refine ⟨⟨a.p.sr.enterAt hfm (a.p.fr.nof _ (.head _)).1 hL (by rw [F.md]; decide) ⟨mm, hm⟩, a.p.fr, fun b hb => ?_⟩, a.it, a.oI, a.lI, a.le.fsup⟩
  rw [frA_cons hfm] at hb
  exact (List.mem_cons.mp hb).elim (fun e => e ▸ hL) (a.p.nf b)
theorem At_.leave (hfm : cenv.frame = some cenv.locals) (nf : ∀ a ∈ frA fs, c.h0.objs.size ≤ a) (a : At_ c (cenv :: fs) cenv J S [cenv.locals] ρ0 s0 j σ ρ s) : At_ c fs cenv J S [cenv.locals] ρ0 s0 j σ ρ s :=
  ⟨⟨a.p.sr.leave hfm, a.p.fr, nf⟩, a.it, a.oI, a.lI, (a.le.leave hfm).sup fun x hx => (List.mem_cons.mp hx).elim (fun e => e ▸ .tail _ (.head _)) id⟩
theorem At_.base {ρ1 : Rho} {s1 : Shared} (l : Le c (J :: W) fs ρ0 s0 ρ1 s1) (a : At_ c fs cenv J S W ρ1 s1 j σ ρ s) : At_ c fs cenv J S W ρ0 s0 j σ ρ s := ⟨a.p, a.it, a.oI, a.lI, l.trans a.le⟩
structure GP where
  c : Cx
  A : Around
  n : Nat
  fs : List Env
  cenv : Env
  (J D : Addr)
  i : Nat
  S : Sc
  ρ0 : Rho
  s0 : Shared
  g : Nat
  G0 : Array GenState
  csc : Scope
  (tg it elt : Expr)
  ifs : List Expr
  vs0 : Nat → Option V
  oe : List O
  pos : Pos
noncomputable def GP.e (P : GP) : Expr := .GeneratorExp P.elt [⟨P.tg, P.it, P.ifs, 0⟩] P.csc P.pos
noncomputable def GP.cd (P : GP) : Code := .compLoop P.e 0 (.ref P.J) .none P.cenv
structure GInv (P : GP) (j : Nat) (σ : Sg) (ρ : Rho) (s : Shared) : Prop where
  a : At_ P.c P.fs P.cenv P.J P.S [P.cenv.locals] P.ρ0 P.s0 j σ ρ s
  d : ρ[P.i]? = some (P.D, P.D)
  x : GKeep P.g P.G0 s.gens
inductive GEnd (P : GP) (s : Shared) : Prop
  | mk (ρ : Rho) : SR P.c P.fs ρ P.oe s → ρ[P.i]? = some (P.D, P.D) → Le P.c [P.J, P.cenv.locals] P.fs P.ρ0 P.s0 ρ s → GKeep P.g P.G0 s.gens → GEnd P s
abbrev GGo (P : GP) (m j : Nat) (os : List O) : Prop := CompGo P.c P.n P.csc P.tg P.ifs P.elt P.S P.i P.vs0 m j os P.oe
inductive GYld (P : GP) (k : Nat) (v : Value) (s : Shared) (κ : Resume → Shared → Prop) : Prop
  | mk (ρ : Rho) (σ : Sg) (j m : Nat) (u : V) (ll : List V) : m ≤ k → σ.os[P.i]? = some (.list ll) → ll.length < lim → GGo P m j (σ.os.set P.i (.list (ll ++ [u]))) → GInv P j σ ρ s → Sub P.vs0 σ.vs → VR P.c ρ u v →
    (∀ ρ2 s2, GInv P j ⟨P.vs0, σ.os.set P.i (.list (ll ++ [u]))⟩ ρ2 s2 → κ (.send .none) s2) → GYld P k v s κ
noncomputable def GYield (P : GP) : Protocol := fun k _ v s κ => GYld P k v s κ
abbrev GFin (P : GP) : GenEnd := fun _ _ r s₁ => r = .ok .next ∧ GEnd P s₁
theorem seg_turns {P : GP} (eo : EnvOk P.csc P.cenv) (F : FrSt P.c P.cenv) (ow : ownW P.cenv = [P.cenv.locals]) (hfm : P.cenv.frame = some P.cenv.locals) (hsk : P.cenv.scope = P.csc) (hco : P.csc.isCoroutine = false) (cg : Ctx (P.A.over P.cd []) (P.cenv :: P.fs) P.n) :
    ∀ {m N j : Nat} {os : List O} {ρ : Rho} {sg s : Shared}, m ≤ N → GGo P m j os → GInv P j ⟨P.vs0, os⟩ ρ s → Seg (model P.c.prog P.c.w) P.A (GFin P) (GYield P) N sg P.cd ((model P.c.prog P.c.w).den P.cd) [] s := by
  intro m
  induction m using Nat.strongRecOn with
  | ind m ih =>
  intro N j os ρ sg s hN h gi
  show Seg _ P.A _ _ _ sg _ ((compTurn P.e 0 (.ref P.J) .none P.cenv).onRaise (leaving P.cenv)) [] s
  unfold GP.e
  rw [compTurn_gen, Sem.onRaise_eq_wrap]
  refine seg_bind_wrap (wpAny_standAt ?_)
  have ae := At_.enter F ow hfm (⟨gi.a.p, gi.a.it, gi.a.oI, gi.a.lI, .refl⟩ : At_ P.c P.fs P.cenv P.J P.S [P.cenv.locals] ρ s j ⟨P.vs0, os⟩ ρ s)
  have nf := gi.a.p.nf
  cases h with
  | done hs hj =>
    refine seg_bind_wrap (snd_end cg.hd ae.p.sr hs hj ae.it fun s1 u => ?_)
    have u1 := gi.a.up u
    exact seg_end (.ok .next) ⟨rfl, .mk ρ u1.1.sr gi.d u1.2 (gi.x.le (u.leW (c := P.c) (fs := P.fs) (ρ := ρ)))⟩
  | skip hs hj hb ht hsub h2 =>
    refine seg_bind_wrap (snd_item ae.p.sr hs hj ae.it fun s1 y u ry it1 => ?_)
    refine seg_bind_wrap (wpAny_mono (turn_head eo F ow cg ae u ry it1 gi.d hb ht fun ρ' s' a' di' => ?_) (fun _ s2 h => seg_bind_wrap (wpAny_mono h (fun _ s3 h => seg_bind_wrap h) fun _ _ e => e)) fun _ _ e => e)
    rw [if_neg Bool.false_ne_true]
    exact seg_again rfl (ih _ (Nat.lt_succ_self _) (Nat.le_of_succ_le hN) h2 ⟨((a'.leave hfm nf).base gi.a.le).weak hsub, di', gi.x.le a'.le⟩)
  | @take _ _ _ _ u' ll _ _ _ σ3 _ hs hj hb ht he hsub hl hll h2 =>
    refine seg_bind_wrap (snd_item ae.p.sr hs hj ae.it fun s1 y u ry it1 => ?_)
    refine seg_bind_wrap (wpAny_mono (turn_head eo F ow cg ae u ry it1 gi.d hb ht fun ρ' s' a' di' => ?_) (fun _ s2 h => seg_bind_wrap (wpAny_mono h (fun _ s3 h => seg_bind_wrap h) fun _ _ e => e)) fun _ _ e => e)
    rw [if_pos rfl]
    have hy : ∀ v, yieldOut P.cenv v = yieldValue v := fun v => by unfold yieldOut; rw [hsk, hco]; rfl
    simp only [hy]
    cases N with
    | zero => exact absurd hN (Nat.not_succ_le_zero _)
    | succ N =>
    rw [Sem.bind_eq_wrap', Sem.bind_eq_wrap', Sem.wrap_wrap, Sem.wrap_wrap]
    refine seg_wrap (he.r _ _ _ _ _ _ _ eo cg a'.p fun ρ4 s4 y4 a4 r4 => ?_)
    have b4 := (a'.go a4).leave hfm nf
    have di4 : ρ4[P.i]? = some (P.D, P.D) := by obtain ⟨e, rfl, _⟩ := a4.le.pre; exact rho_pre di'
    refine seg_at (seg_yield rfl rfl rfl (.mk ρ4 σ3 (j + 1) _ u' ll (Nat.le_of_succ_le_succ hN) hl hll h2 ⟨b4.base gi.a.le, di4, gi.x.le b4.le⟩ hsub r4 fun ρ5 s5 gi5 => ?_))
    exact seg_again rfl (ih _ (Nat.lt_succ_self _) (Nat.le_of_succ_le_succ hN) h2 gi5)
theorem seg_start {P : GP} (eo : EnvOk P.csc P.cenv) (F : FrSt P.c P.cenv) (ow : ownW P.cenv = [P.cenv.locals]) (hfm : P.cenv.frame = some P.cenv.locals) (hsk : P.cenv.scope = P.csc) (hco : P.csc.isCoroutine = false) (cg : Ctx (P.A.over P.cd []) (P.cenv :: P.fs) P.n) (h : GGo P m j os) (gi : GInv P j ⟨P.vs0, os⟩ ρ s) :
    Seg (model P.c.prog P.c.w) P.A (GFin P) (GYield P) m sg (.compStart P.e 0 (.ref P.J) .none P.cenv) ((model P.c.prog P.c.w).den (.compStart P.e 0 (.ref P.J) .none P.cenv)) [] s := by
  have loop := seg_turns (sg := sg) eo F ow hfm hsk hco cg (Nat.le_refl m) h gi
  show Seg _ P.A _ _ _ sg _ ((compStart P.e 0 (.ref P.J) .none P.cenv).onRaise (leaving P.cenv)) [] s
  unfold GP.e compStart
  rw [Sem.onRaise_eq_wrap]
  show Seg _ P.A _ _ _ sg _ ((ask >>= _).wrap _ _ _ _) [] s
  refine seg_bind_wrap (wpAny_askSetting ?_)
  split
  · exact seg_again rfl loop
  · refine seg_bind_wrap (wpAny_rule ?_)
    show Seg _ P.A _ _ _ sg _ ((standAt P.it.pos >>= _).wrap _ _ _ _) [] s
    exact seg_bind_wrap (wpAny_standAt (seg_bind_wrap (iter_self gi.a.it (seg_again rfl loop))))
theorem GInv.setG {P : GP} {x : GenState} (gi : GInv P j σ ρ s) (hs : P.s0 = bareS s0) (hb : x.bare = true) : GInv P j σ ρ (s.setGen P.g x) :=
  ⟨⟨⟨gi.a.p.sr.gens (bare_set gi.a.p.sr.bare hb), gi.a.p.fr.gens, gi.a.p.nf⟩, gi.a.it, gi.a.oI, gi.a.lI, hs ▸ Le.toG (hs ▸ gi.a.le)⟩, gi.d, gi.x.set⟩
inductive GLi (P : GP) (k : Nat) (s : Shared) : Prop
  | mk (ρ : Rho) (σ : Sg) (j : Nat) (gs : GenState) : s.gens[P.g]? = some gs → gs.bare = true → GInv P j σ ρ s → (∀ ρ2 s2, GInv P j σ ρ2 s2 → gs.Goes (model P.c.prog P.c.w) P.A (GFin P) (GYield P) k (.send .none) s2) → GLi P k s
theorem snd_listGen {P : GP} (G : Gd P.c) (eo : EnvOk P.csc P.cenv) (F : FrSt P.c P.cenv) (ow : ownW P.cenv = [P.cenv.locals]) (hfm : P.cenv.frame = some P.cenv.locals) (hsk : P.cenv.scope = P.csc) (hco : P.csc.isCoroutine = false) (hA : P.A = A.in1.in1.in1) (cx : Ctx A P.fs (P.n + 1))
    (hi : P.i = os.length) (hD : P.D = s.heap.objs.size) (hρ : P.ρ0 = ρ) (hs0 : P.s0 = bareS s) (hG : P.G0 = s.gens)
    (h : GGo P m 0 (os ++ [.list []])) (p : Pre P.c P.fs P.cenv ⟨P.vs0, os⟩ ρ s) (it0 : ItR P.c ρ s.heap P.J P.S 0) (oJ : off P.c ρ P.J) (lJ : P.c.h0.objs.size ≤ P.J) {a : Addr} (hg : s.heap.IsGen a P.g) (oa : off P.c ρ a) (aJ : a ≠ P.J) (aC : a ≠ P.cenv.locals) (hgs : s.gens[P.g]? = some (.fresh (.compStart P.e 0 (.ref P.J) .none P.cenv)))
    {Q : Value → Shared → Prop} (q : ∀ ρ' s', SR P.c P.fs ρ' P.oe s' → VR P.c ρ' (.obj os.length) (.ref s.heap.objs.size) → Le P.c [P.J, P.cenv.locals] P.fs ρ (bareS s) ρ' s' → GKeep P.g s.gens s'.gens → Q (.ref s.heap.objs.size) s') :
    wpAny (model P.c.prog P.c.w) A (call (.type "list") [.ref a]) Q E s := by
  have cg : Ctx (P.A.over P.cd []) (P.cenv :: P.fs) P.n := by rw [hA]; exact cx.gen rfl rfl rfl
  refine raw_list_gen hg (GLi P) (fun h' d hz k' gD => ?_) (fun k s1 hI => ?_)
  · have u : Qu s { s with heap := h' } := ⟨Nat.le_of_lt hz, k', rfl, rfl⟩
    obtain ⟨sr1, le1⟩ := p.sr.add (W := []) u (p := (s.heap.objs.size, s.heap.objs.size)) ⟨Nat.le_refl _, Nat.le_refl _⟩ ⟨hz, hz⟩ (.list gD .nil)
    have di : (ρ ++ [(s.heap.objs.size, s.heap.objs.size)])[P.i]? = some (P.D, P.D) := by rw [hi, hD, ← p.sr.len, List.getElem?_concat_length]
    obtain ⟨_, _, ho1, ho2, _⟩ := it0.tame
    refine ⟨m, .mk _ ⟨P.vs0, os ++ [.list []]⟩ 0 _ hgs rfl ⟨⟨⟨sr1, p.fr.mono le1, p.nf⟩, it0.le le1 oJ List.not_mem_nil (nofr p.sr ho1 ho2), off_le le1 oJ (Heap.lt_size ho1), lJ, ?_⟩, di, hG ▸ ⟨Nat.le_refl _, fun _ _ _ => rfl⟩⟩ fun ρ2 s2 gi => ⟨rfl, seg_start eo F ow hfm hsk hco cg h gi⟩⟩
    rw [hρ, hs0]
    exact le1.weaken.noG
  · obtain ⟨ρ1, σ1, j, gs, hgs1, hb1, gi, go⟩ := hI
    have le0 : Le P.c [P.J, P.cenv.locals] P.fs ρ (bareS s) ρ1 s1 := by have := gi.a.le; rwa [hρ, hs0] at this
    have hg1 : s1.heap.IsGen a P.g := by
      obtain ⟨o, nm, qn, ho, hc, hd, hs⟩ := hg
      exact ⟨o, nm, qn, le0.keep a o ho oa (fun hm => (List.mem_cons.mp hm).elim aJ fun hm => aC (List.mem_singleton.mp hm)) (nofr p.sr ho hd), hc, hd, hs⟩
    have hlt : P.g < s.gens.size := (Array.getElem?_eq_some_iff.mp hgs).1
    refine with_size (wpAny_pyNext_genexpQ (P := fun _ _ s₁ => GEnd P s₁) cx.hd (G.lim.keeps fun b o e => gi.a.p.sr.old b o e) (by have := cx.dp; show A.depth < _; omega) hg1 hgs1 (hA ▸ go _ _ (gi.setG (x := .running) hs0 rfl)) (fun v s2 gs' hb hv _ => ?_) (fun s2 hp h' hk hsz => ?_))
    · obtain ⟨ρ2, σ2, j2, m2, u, ll, hm2, hl, hll, hc2, gi2, hsub, rv, kap⟩ := hv
      have gi3 := gi2.setG (x := gs') hs0 hb
      obtain ⟨D', its, k3, eD, hp, h1, hr⟩ := list_of gi3.a.p.sr hl ⟨_, gi3.d, rfl⟩
      cases eD
      rw [← hD]
      refine wpAny_updateSeq h1 rfl ?_ (size_lim (by rw [hr.size]; exact hll)) (by rw [Array.size_push]; exact Nat.succ_le_succ (size_lim (by rw [hr.size]; exact hll)))
      have hS := Heap.get?_update_self (Obj.mapSeq (fun xs : Array Value => xs.push v)) h1 rfl
      have up : Up (P.D, P.D).2 (s2.setGen P.g gs') { s2.setGen P.g gs' with heap := (s2.setGen P.g gs').heap.update P.D (Obj.mapSeq (fun xs : Array Value => xs.push v)) } := ⟨by simp [Heap.update], fun b o hb e => (Heap.get?_update_other _ _ (Ne.symm hb)).trans e, rfl, rfl⟩
      have b5 := gi3.a.go (gi3.a.p.set (up.le (mem2 hp)) (gi3.a.p.sr.set hl hp up (.list hS (by rw [Array.toList_push]; exact hr.append (.cons rv .nil)))))
      have gi5 : GInv P j2 ⟨P.vs0, σ2.os.set P.i (.list (ll ++ [u]))⟩ ρ2 { s2.setGen P.g gs' with heap := (s2.setGen P.g gs').heap.update P.D (Obj.mapSeq (fun xs : Array Value => xs.push v)) } :=
        ⟨At_.weak (σ := ⟨σ2.vs, _⟩) hsub b5, gi3.d, gi3.x⟩
      cases k with
      | zero => exact (kap _ _ gi5).elim
      | succ k =>
        refine ⟨k, Nat.lt_succ_self _, .mk ρ2 _ j2 gs' ?_ hb gi5 fun ρ6 s6 gi6 => hA ▸ kap ρ6 s6 gi6⟩
        show (s2.gens.setIfInBounds P.g gs')[P.g]? = some gs'
        rw [Array.getElem?_setIfInBounds_self, if_pos (Nat.lt_of_lt_of_le (hG ▸ hlt) gi2.x.1)]
    · obtain ⟨ρ', sr', di', le', x'⟩ := hp
      rw [hi, hD] at di'
      rw [hρ, hs0] at le'
      rw [hG] at x'
      have zs : s.heap.objs.size ≤ h'.objs.size := Nat.le_trans le0.sz hsz
      refine q ρ' _ (sr'.kept hk (Nat.le_trans p.sr.osz zs) (bare_set sr'.bare rfl)) ⟨_, di', rfl⟩ ?_ (x'.set)
      exact ⟨le'.pre, zs, fun b o hb ho hw hn => hk _ _ (le'.keep b o hb ho hw hn), fun b o hb ho hw => let ⟨sl, h1⟩ := le'.frm b o hb ho hw; ⟨sl, hk _ _ h1⟩, le'.os, fun g h => absurd h (Nat.not_lt_zero _), Nat.zero_le _⟩
end
end Rw
namespace Rw
open PySem PySem.W PySem.Calls PyProof.Rows
noncomputable def Has (env : Env) (s : Shared) (x : Str) (v : Value) : Prop := ∃ m, s.heap.Ns env.locals m ∧ m x = some v
structure Fresh (c : Cx) (csc : Scope) (e : Expr) (env : Env) (vs0 : Nat → Option V) (S : Sc) (lo gl J C a g : Nat) (code : Value) (ρ : Rho) (s : Shared) : Prop where
  fr : FR c (genEnv csc (clOf env csc.names []) C code builtinsNs env) vs0 ρ s
  it : ItR c ρ s.heap J S 0
  ig : s.heap.IsGen a g
  gs : s.gens[g]? = some (.fresh (.compStart e 0 (.ref J) .none (genEnv csc (clOf env csc.names []) C code builtinsNs env)))
  lJ : lo ≤ J
  JC : J < C
  Ca : C < a
  la : a < s.heap.objs.size
  gz : gl ≤ g
  oJ : off c ρ J
  oC : off c ρ C
  oa : off c ρ a
  cl : ∀ p ∈ clOf env csc.names [], p.2 ∈ env.cells.map (·.2)
section
variable {c : Cx} {A : Around} {E : Value → Shared → Prop} {n N : Nat} {sc csc : Scope} {tg it elt e : Expr} {ifs : List Expr} {ρ ρ' ρ'' ρ0 : Rho} {s s' s'' s0 sg : Shared} {fs : List Env} {os os' : List O} {env cenv : Env} {W V' : List Addr} {σ σ' : Sg} {vs vs0 : Nat → Option V} {L C J D a : Addr} {i j k m g lo gl : Nat} {G0 : Array GenState} {S : Sc} {pos : Pos} {u v : V} {code y : Value} {x f : Str}
theorem Has.le (h : Has env s x y) (a : Le c W fs ρ s ρ' s') (ho : off c ρ env.locals) (hw : env.locals ∉ W) : Has env s' x y :=
  let ⟨m, hm, e⟩ := h
  ⟨m, Ns_of_data hm fun o ho' => a.frm _ o ho' ho hw, e⟩
theorem snd_storeAny (F : FrSt c env) (p : Pre c fs env σ ρ s) (hk : env.kindOf (c.nm k) = some .local) (hx : σ.vs k = none) {Q : Unit → Shared → Prop}
    (q : ∀ s', Pre c fs env σ ρ s' → Le c [env.locals] fs ρ s ρ s' → s'.gens = s.gens → Has env s' (c.nm k) y → (∀ z v, z ≠ c.nm k → Has env s z v → Has env s' z v) → Q () s') : wpAny (model c.prog c.w) A (storeName env (c.nm k) y) Q E s := by
  have fr := p.fr
  obtain ⟨m, hm, hv⟩ := fr.ns
  refine wpAny_storeName_local hk hm (fun h' hn' hs => ?_) (by rw [F.md]; rfl)
  have u : Up env.locals s { s with heap := h', toks := s.toks + 1 } := up_of hs
  refine q _ (p.next (own_step p (.head _) F u (fun _ => ?_) ⟨⟨_, hn', fun x' v' hx' hk' => ?_⟩, fun x' v' hx' hk' => ?_, fr.all, fun pp hp => ?_, fr.inj, fr.lc, fun b hb => ⟨(fr.nof b hb).1, Nat.lt_of_lt_of_le (fr.nof b hb).2 u.sz⟩⟩)) u.leW rfl ⟨_, hn', if_pos rfl⟩ fun z v hz hh => ?_
  · obtain ⟨o, es, ep, h1, h2, _⟩ := hn'
    exact ⟨_, h1, _, _, h2⟩
  · obtain ⟨y', h1, h2⟩ := hv x' v' hx' hk'
    exact ⟨y', (if_neg fun e => by rw [c.inj _ _ e, hx] at hx'; cases hx').trans h1, h2⟩
  · obtain ⟨b, y', h1, ⟨o, h2, h3⟩, h4⟩ := fr.cel x' v' hx' hk'
    exact ⟨b, y', h1, ⟨o, u.keep _ _ (fr.lc _ _ h1) h2, h3⟩, h4⟩
  · obtain ⟨y', o, h2, h3⟩ := fr.cl pp hp
    refine ⟨y', o, u.keep _ _ (fun e => ?_) h2, h3⟩
    rw [e] at h2
    obtain ⟨o', es, ep, g1, g2, _⟩ := hm
    rw [h2] at g1; cases g1
    rw [h3] at g2; cases g2
  · obtain ⟨m', hm', e⟩ := hh
    refine ⟨_, hn', ?_⟩
    rw [if_neg hz]
    obtain ⟨o1, es1, ep1, a1, a2, a3, a4⟩ := hm
    obtain ⟨o2, es2, ep2, b1, b2, b3, b4⟩ := hm'
    rw [a1] at b1; cases b1
    rw [a2] at b2; cases b2
    rw [← a4, b4]; exact e
theorem Fresh.le (f : Fresh c csc e env vs0 S lo gl J C a g code ρ s) (sr : SR c fs ρ os s) (l : Le c W fs ρ (bareS s) ρ' s') (hW : ∀ b ∈ W, b < lo ∧ b ∉ env.cells.map (·.2)) (hg : s'.gens[g]? = s.gens[g]?) : Fresh c csc e env vs0 S lo gl J C a g code ρ' s' := by
  obtain ⟨o, nm, qn, ho, hc, hd, hs⟩ := f.ig
  obtain ⟨_, _, hoJ, hdJ, _⟩ := f.it.tame
  have nw : ∀ {b}, lo ≤ b → b ∉ W := fun h hb => absurd (hW _ hb).1 (Nat.not_lt.mpr h)
  have lC := Nat.le_trans f.lJ (Nat.le_of_lt f.JC)
  refine ⟨(f.fr.gens (gs := #[])).monoW l fun b hb hm => ?_, ItR.le (s := bareS s) l f.oJ (nw f.lJ) (nofr sr hoJ hdJ) f.it, ⟨o, nm, qn, l.keep a o ho f.oa (nw (Nat.le_trans lC (Nat.le_of_lt f.Ca))) (nofr sr ho hd), hc, hd, hs⟩, hg.trans f.gs, f.lJ, f.JC, f.Ca, Nat.lt_of_lt_of_le f.la l.sz, f.gz, off_le l f.oJ (Heap.lt_size hoJ), off_le l f.oC (Nat.lt_trans f.Ca f.la), off_le l f.oa f.la, f.cl⟩
  rcases List.mem_cons.mp hb with rfl | hb
  · exact nw lC hm
  · obtain ⟨pp, hp, rfl⟩ := List.mem_map.mp hb
    exact (hW _ hm).2 (f.cl _ hp)
theorem snd_mkGen (G : Gd c) (hin : InSc sc csc) (hz : csc.names.lookup (".0" : Str) = some .local) (hco : csc.isCoroutine = false) (h : EvE c n sc it σ v σ) (hs : ItS σ.os v S) (hv : Seen c csc vs0 σ.vs) (hf : ∀ env x, genFold it env x = pure x) (eo : EnvOk sc env) (co : CodeAt c.txs c.h0 env.code) (cx : Ctx A fs n) (p : Pre c fs env σ ρ s) {Q : Value → Shared → Prop}
    (q : ∀ ρ' s' J C a g code, Aft c fs env ρ s σ ρ' s' → Fresh c csc (.GeneratorExp elt [⟨tg, it, ifs, 0⟩] csc pos) env vs0 S s.heap.objs.size s.gens.size J C a g code ρ' s' → Q (.ref a) s') :
    wpAny (model c.prog c.w) A (eval (.GeneratorExp elt [⟨tg, it, ifs, 0⟩] csc pos) env) Q E s := by
  have ha := hall hin eo p.fr
  refine wpAny_GeneratorExp_make hco (clos_of ha) (fun y hy e => ?_) hz hin.kd (by have := cx.dp; omega) ?_ (hf _)
  · rcases hin.ks y hy with q | q | q <;> rw [e] at q <;> cases q
  refine h.r _ _ _ _ _ _ _ eo cx p fun ρ1 s1 y1 a1 r1 => snd_iter a1.sr hs r1 fun s2 u2 hz2 it2 => ?_
  have sr2 := a1.sr.qu u2
  refine ⟨G.lim.keeps fun b o e => sr2.old b o e, snd_genCode co sr2 fun code P' s3 e9 tx3 => ?_⟩
  have sr3 := sr2.txt e9 (G.tn _ e9) tx3
  obtain ⟨mg, hmg⟩ := G.ns
  obtain ⟨bm, bo, b1, b2, b3, b4, b5, b6⟩ := G.bf
  refine wpAny_builtinsFor (globals := env.globals) (m := mg) (by rw [eo.gl]; exact hmg.keeps sr3.old) (mg_of G.k hmg b1) b2 (sr3.old _ _ (G.k _ _ b3)) b4 b5 b6 fun h4 hn4 hs4 => ?_
  have l3 : Le c [] fs ρ1 s2 ρ1 s3 := tx3.le e9
  have hz4 : h4.objs.size = s3.heap.objs.size + 1 := by rw [hs4.1, Heap.size_push]
  have k45 : ∀ ob b o, s3.heap.get? b = some o → (h4.push ob).get? b = some o := fun ob b o e => Heap.get?_push_of_some _ (hs4.extBut b o (Nat.ne_of_lt (Heap.lt_size e)) (Heap.get?_push_of_some _ e))
  have z5 : ∀ ob, (h4.push ob).objs.size = s3.heap.objs.size + 2 := fun ob => by rw [Heap.size_push, hz4]
  have u35 : ∀ ob tk, Qu s3 { s3 with heap := h4.push ob, toks := tk } := fun ob tk => ⟨by show _ ≤ (h4.push ob).objs.size; rw [z5]; exact Nat.le_add_right _ _, k45 ob, rfl, rfl⟩
  have F3 := p.fr.mono (a1.le.trans (u2.le.trans l3))
  have le3 : Le c [] fs ρ s ρ1 s3 := a1.le.trans (u2.le.trans l3)
  have eg : ∀ g, g < s3.gens.size → ∀ y, (s3.gens.push y)[g]? = s3.gens[g]? := fun g hg y => by rw [Array.getElem?_push, if_neg (Nat.ne_of_lt hg)]
  have le5 : ∀ {ob tk y}, Le c [] fs ρ s ρ1 { s3 with heap := h4.push ob, toks := tk, gens := s3.gens.push y } := fun {ob tk y} => by
    have l := le3.trans (u35 ob tk).le
    refine ⟨l.pre, l.sz, l.keep, l.frm, l.os, fun g hg => (eg g (Nat.lt_of_lt_of_le hg le3.gsz) y).trans (le3.gl g hg), ?_⟩
    show _ ≤ (s3.gens.push y).size
    rw [Array.size_push]; exact Nat.le_succ_of_le le3.gsz
  have o1 : off c ρ1 s1.heap.objs.size := a1.sr.off_top (Nat.le_refl _)
  refine q ρ1 _ s1.heap.objs.size s3.heap.objs.size h4.objs.size s3.gens.size code ⟨le5, (sr3.qu (u35 _ (s3.toks + 1 + 1 + 1))).gens (sr3.bare.push rfl), p.fr.mono le5⟩ ⟨?_, ?_, ⟨_, _, _, Heap.get?_push_size _ rfl, rfl, rfl, rfl⟩, Array.getElem?_push_size .., a1.le.sz, ?_, ?_, ?_, le3.gsz, o1, sr3.off_top (Nat.le_refl _), sr3.off_top (by rw [hz4]; exact Nat.le_succ _), fun pp hp => ?_⟩
  · exact (gen_fr hin eo F3 hv (u35 _ (s3.toks + 1 + 1 + 1)) (sr3.off_top (Nat.le_refl _)) (hn4.push _)).gens
  · exact ItR.le (s' := { s3 with heap := h4.push _, toks := 0 }) (l3.trans (u35 _ 0).le) o1 List.not_mem_nil (a1.sr.nofr (Nat.le_refl _)) it2
  · exact Nat.lt_of_lt_of_le hz2 tx3.sz
  · rw [hz4]; exact Nat.lt_succ_self _
  · show _ < (h4.push _).objs.size
    rw [z5, hz4]; exact Nat.lt_succ_self _
  · rcases clOf_mem ha hp with q | q
    · cases q
    · exact List.mem_map_of_mem (lookup_mem' q.1)
theorem listCall (G : Gd c) (eo : EnvOk sc env) (p : Pre c fs env σ ρ s) (kl : Nat) {fp xp : Pos} (hf : c.nm kl = f) (hk : sc.names.lookup f = some .globalImplicit) (hv : c.P.gl kl = some (.bi .list)) (hx : env.kindOf (c.nm k) = some .local) (hh : Has env s (c.nm k) y) (cx : Ctx A fs n) {Q : Value → Shared → Prop}
    (h : wpAny (model c.prog c.w) A (call (.type "list") [y]) Q E s) : wpAny (model c.prog c.w) A (eval (.Call (.Name f fp) [.Name (c.nm k) xp] [] pos) env) Q E s := by
  subst hf
  obtain ⟨mg, hm⟩ := G.ns
  obtain ⟨mb, hb, hbb⟩ := G.nb
  obtain ⟨m, hl, e⟩ := hh
  have hm' : s.heap.Ns env.globals mg := by rw [eo.gl]; exact hm.keeps p.sr.old
  have hb' : s.heap.Ns env.builtins mb := by rw [eo.bu]; exact hb.keeps p.sr.old
  have key : ∀ z, z = Value.type "list" → wpAny (model c.prog c.w) A (callWith pos z [] (backTo pos (starEach [.Name (c.nm k) xp] env)) (backToKw pos (keywordEach [] env))) Q E s := fun z hz => by
    subst hz
    refine raw_callWith (raw_args (fun _ => lone_of rfl) ?_)
    exact args_cons (wpAny_Name (wpAny_loadName_local eo.kd hx hl e (args_nil (.inl ⟨rfl, wpAny_pure ⟨⟨.machine, .inr rfl, Looks.now⟩, h⟩⟩))) (G.db _)) rfl
  refine raw_Call (fun o a p => by intro h; cases h) ?_
  rcases G.gt kl _ hv with ⟨a, e, _⟩ | ⟨b, e, e1, e2, e3⟩
  · cases e
  · cases e
    exact Name_function_global eo.kd (eo.g1 _ hk) (loadGlobal_builtin hm' (mg_none_of G.k hm e1) hb' ((hbb _ e3).trans e2) (key _ rfl)) (G.db _)
end
end Rw
namespace Rw
open PySem PySem.W PySem.Calls PyProof.Rows
section
variable {c : Cx} {A : Around} {E : Value → Shared → Prop} {n N : Nat} {sc csc csc1 csc2 : Scope} {t1 it1 elt1 t2 it2 elt2 te e : Expr} {ifs1 ifs2 : List Expr} {ρ ρ' ρ'' ρ0 : Rho} {s s' s'' s0 sg : Shared} {fs : List Env} {os os' os1 os2 : List O} {env cenv : Env} {W V' : List Addr} {σ σ' σ'' : Sg} {vs vs0 vs1 vs2 : Nat → Option V} {L C J D a : Addr} {i j k m m1 m2 g lo gl : Nat} {S S1 S2 : Sc} {pos pos1 pos2 p1 p2 p3 p4 p5 p6 p7 p8 p9 p10 p11 p12 q1 q2 q3 q4 q5 q6 : Pos} {u v v1 v2 : V} {l l1 l2 : List V} {code y : Value} {x f nx ny nz ln : Str} {b : Bool} {rest : List Stmt} {fl : Fl}
noncomputable def GK (s s' : Shared) : Prop := s.gens.size ≤ s'.gens.size ∧ ∀ g, g < s.gens.size → s'.gens[g]? = s.gens[g]?
theorem Le.gk (a : Le c W fs ρ s ρ' s') : GK s s' := ⟨a.gsz, a.gl⟩
theorem GK.trans (a : GK s s') (b : GK s' s'') : GK s s'' := ⟨Nat.le_trans a.1 b.1, fun g h => (b.2 g (Nat.lt_of_lt_of_le h a.1)).trans (a.2 g h)⟩
theorem GK.keep (a : GK s s') (b : GKeep g s'.gens s''.gens) (hg : s.gens.size ≤ g) : GK s s'' :=
  ⟨Nat.le_trans a.1 b.1, fun g' h => (b.2 g' (Nat.ne_of_lt (Nat.lt_of_lt_of_le h hg)) (Nat.lt_of_lt_of_le h a.1)).trans (a.2 g' h)⟩
theorem GKeep.ofGK (a : GK s s') : GKeep g s.gens s'.gens := ⟨a.1, fun g' _ h => a.2 g' h⟩
theorem Le.bare' (a : Le c W fs ρ (bareS s) ρ' s') : Le c W fs ρ (bareS s) ρ' (bareS s') := ⟨a.pre, a.sz, a.keep, a.frm, a.os, fun g h => absurd h (Nat.not_lt_zero _), Nat.zero_le _⟩
noncomputable def Runs (c : Cx) (A : Around) (E : Value → Shared → Prop) (fs : List Env) (W : List Addr) (g : Nat) (os os' : List O) (y : Value) (ρ : Rho) (s : Shared) : Prop :=
  ∀ Q : Value → Shared → Prop, (∀ ρ' s' z, SR c fs ρ' os' s' → VR c ρ' (.obj os.length) z → Le c W fs ρ (bareS s) ρ' s' → GKeep g s.gens s'.gens → Q z s') → wpAny (model c.prog c.w) A (call (.type "list") [y]) Q E s
theorem Fresh.runs (G : Gd c) (hin : InSc sc csc) (eo : EnvOk sc env) (hco : csc.isCoroutine = false) (cx : Ctx A fs (n + 1)) (F : Fresh c csc (.GeneratorExp elt1 [⟨t1, it1, ifs1, 0⟩] csc pos) env vs0 S lo gl J C a g code ρ s) (sr : SR c fs ρ os s) (nf : ∀ a ∈ frA fs, c.h0.objs.size ≤ a) (hl : c.h0.objs.size ≤ lo)
    (h : CompGo c n csc t1 ifs1 elt1 S os.length vs0 m 0 (os ++ [.list []]) os') : Runs c A E fs [J, C] g os os' (.ref a) ρ s := fun Q q => by
  have lJ := Nat.le_trans hl F.lJ
  exact snd_listGen (P := ⟨c, A.in1.in1.in1, n, fs, genEnv csc (clOf env csc.names []) C code builtinsNs env, J, s.heap.objs.size, os.length, S, ρ, bareS s, g, s.gens, csc, t1, it1, elt1, ifs1, vs0, os', pos⟩) G (gen_envOk hin eo) (gen_frOk hin (Nat.le_trans lJ (Nat.le_of_lt F.JC))) gen_ownW rfl rfl hco rfl cx rfl rfl rfl rfl rfl h ⟨sr, F.fr, nf⟩ F.it F.oJ lJ F.ig F.oa (Nat.ne_of_gt (Nat.lt_trans F.JC F.Ca)) (Nat.ne_of_gt F.Ca) F.gs fun ρ' s' => q ρ' s' _
theorem b_gens (G : Gd c) (k1 k2 k3 kl : Nat) (n1 : c.nm k1 = nx) (n2 : c.nm k2 = ny) (n3 : c.nm k3 = nz) (n4 : c.nm kl = ln) (hxy : k1 ≠ k2)
    (d1 : sc.names.lookup nx = some .local) (d2 : sc.names.lookup ny = some .local) (d3 : bndB sc nz = true) (d4 : sc.names.lookup ln = some .globalImplicit) (d5 : c.P.gl kl = some (.bi .list)) (u1 : σ.vs k1 = none) (u2 : σ.vs k2 = none)
    (i1 : InSc sc csc1) (z1 : csc1.names.lookup (".0" : Str) = some .local) (o1 : csc1.isCoroutine = false) (e1 : EvE c (n + 1) sc it1 σ v1 σ) (w1 : ItS σ.os v1 S1) (h1 : Seen c csc1 vs1 σ.vs)
    (i2 : InSc sc csc2) (z2 : csc2.names.lookup (".0" : Str) = some .local) (o2 : csc2.isCoroutine = false) (e2 : EvE c (n + 1) sc it2 σ v2 σ) (w2 : ItS σ.os v2 S2) (h2 : Seen c csc2 vs2 σ.vs)
    (ht : EvT c (n + 1) sc te σ b σ)
    (r1 : CompGo c n csc1 t1 ifs1 elt1 S1 (bif b then σ.os else σ.os ++ [.list []]).length vs1 m1 0 ((bif b then σ.os else σ.os ++ [.list []]) ++ [.list []]) os1)
    (r2 : b = true → CompGo c n csc2 t2 ifs2 elt2 S2 os1.length vs2 m2 0 (os1 ++ [.list []]) os2)
    (r3 : b = false → os1[σ.os.length]? = some (.list []) ∧ os2 = os1 ++ [.list []])
    (a1 : os2[(bif b then σ.os else σ.os ++ [.list []]).length]? = some (.list l1)) (a2 : os2[os1.length]? = some (.list l2)) (hl : (l1 ++ l2).length < lim)
    (hr : EvB c (n + 1) sc rest ⟨upd σ.vs k3 (.obj os2.length), os2 ++ [.list (l1 ++ l2)]⟩ fl σ'')
    (hf1 : ∀ env x, genFold it1 env x = pure x := by exact fun _ _ => rfl) (hf2 : ∀ env x, genFold it2 env x = pure x := by exact fun _ _ => rfl) :
    EvB c (n + 1) sc (.Assign [.Name nx p1] (.GeneratorExp elt1 [⟨t1, it1, ifs1, 0⟩] csc1 pos1) p2 :: .Assign [.Name ny p3] (.GeneratorExp elt2 [⟨t2, it2, ifs2, 0⟩] csc2 pos2) p4 :: .If (.UnaryOp .Not te p5) [.Assign [.Name ny p6] (.List [] p7) p8] [] p9 ::
      .Assign [.Name nz p10] (.BinOp (.Call (.Name ln q1) [.Name nx q2] [] q3) .Add (.Call (.Name ln q4) [.Name ny q5] [] q6) p11) p12 :: rest) σ fl σ'' := by
  subst n1 n2 n3
  refine ⟨?_⟩; intro A env fs ρ s Q E eo F cx p q
  have kx := eo.l1 _ d1
  have ky := eo.l1 _ d2
  have hne : c.nm k1 ≠ c.nm k2 := fun e => hxy (c.inj _ _ e)
  refine wpAny_execs_cons (wpAny_Assign_Name (snd_mkGen G i1 z1 o1 e1 w1 h1 hf1 eo F.co cx p fun ρ1 s1 J1 C1 b1 g1 code1 A1 F1 => ?_) rfl)
  refine snd_storeAny F.toFrSt (p.next A1) kx u1 fun s2 P2 l2 eg2 hx2 _ => ?_
  refine wpAny_execs_cons (wpAny_Assign_Name (snd_mkGen G i2 z2 o2 e2 w2 h2 hf2 eo F.co cx P2 fun ρ3 s3 J2 C2 b2 g2 code2 A3 F2 => ?_) rfl)
  have P3 := P2.next A3
  refine snd_storeAny F.toFrSt P3 ky u2 fun s4 P4 l4 eg4 hy4 hh4 => ?_
  have hx4 := hh4 _ _ hne (hx2.le A3.le (P2.fr.nof _ (.head _)).1 List.not_mem_nil)
  refine wpAny_execs_cons (wpAny_If (isTrue_not (ht.r _ _ _ _ _ _ _ eo cx P4 fun ρ5 s5 A5 => ?_)))
  have P5 := P4.next A5
  have hy5 := hy4.le A5.le (P4.fr.nof _ (.head _)).1 List.not_mem_nil
  have hx5 := hx4.le A5.le (P4.fr.nof _ (.head _)).1 List.not_mem_nil
  -- what was changed
  have W1 : Le c [env.locals] fs ρ1 s1 ρ3 s4 := l2.trans (A3.le.weaken.trans l4)
  have zl : ∀ b ∈ ownA env, b < s.heap.objs.size := fun b hb => (p.fr.nof b hb).2
  have zc : ∀ b ∈ env.cells.map (·.2), b < s.heap.objs.size := fun b hb => zl b (.tail _ hb)
  have hcl : env.locals ∉ env.cells.map (·.2) := fun hm => by
    obtain ⟨pp, hp, e⟩ := List.mem_map.mp hm
    obtain ⟨y, o, h1, h2⟩ := p.fr.cl pp hp
    obtain ⟨m, ⟨o', es, ep, g1, g2, _⟩, _⟩ := p.fr.ns
    rw [e, g1] at h1; cases h1
    rw [g2] at h2; cases h2
  have z1 : s.heap.objs.size ≤ s2.heap.objs.size := Nat.le_trans A1.le.sz l2.sz
  have lo2 : b1 < s2.heap.objs.size := Nat.lt_of_lt_of_le F1.la l2.sz
  have fr1 : ∀ x ∈ [J1, C1], s.heap.objs.size ≤ x ∧ x < s2.heap.objs.size := fun x hx => (List.mem_cons.mp hx).elim (fun e => e ▸ ⟨F1.lJ, Nat.lt_trans F1.JC (Nat.lt_trans F1.Ca lo2)⟩) fun hx => List.mem_singleton.mp hx ▸ ⟨Nat.le_trans F1.lJ (Nat.le_of_lt F1.JC), Nat.lt_trans F1.Ca lo2⟩
  have fr2 : ∀ x ∈ [J2, C2], s2.heap.objs.size ≤ x := fun x hx => (List.mem_cons.mp hx).elim (fun e => e ▸ F2.lJ) fun hx => List.mem_singleton.mp hx ▸ Nat.le_trans F2.lJ (Nat.le_of_lt F2.JC)
  have fr3 : ∀ x ∈ [J1, C1, J2, C2], s.heap.objs.size ≤ x := fun x hx => (List.mem_append.mp (show x ∈ [J1, C1] ++ [J2, C2] from hx)).elim (fun h => (fr1 x h).1) fun h => Nat.le_trans z1 (fr2 x h)
  have own : ∀ b ∈ ownA env, b ∉ [J1, C1, J2, C2] := fun b hb hm => absurd (zl b hb) (Nat.not_lt.mpr (fr3 b hm))
  have sg : s.gens.size ≤ g2 := Nat.le_trans (Nat.le_trans A1.le.gsz l2.gsz) F2.gz
  have tail : ∀ {ρ6 s6 y2 os0}, Le c [env.locals] fs ρ1 s1 ρ6 s6 → Pre c fs env ⟨σ.vs, os0⟩ ρ6 s6 → Has env s6 (c.nm k1) (.ref b1) → Has env s6 (c.nm k2) y2 → CompGo c n csc1 t1 ifs1 elt1 S1 os0.length vs1 m1 0 (os0 ++ [.list []]) os1 → os2[os0.length]? = some (.list l1) →
      (∀ ρ7 s7, SR c fs ρ7 os1 s7 → Le c [J1, C1] fs ρ6 (bareS s6) ρ7 s7 → GKeep g1 s6.gens s7.gens → Runs c A E fs [J2, C2] g2 os1 os2 y2 ρ7 s7) →
      wpAny (model c.prog c.w) A (execs (.Assign [.Name (c.nm k3) p10] (.BinOp (.Call (.Name ln q1) [.Name (c.nm k1) q2] [] q3) .Add (.Call (.Name ln q4) [.Name (c.nm k2) q5] [] q6) p11) p12 :: rest) env) Q E s6 := by
    intro ρ6 s6 y2 os0 L6 P6 hx6 hy6 g a1 second
    have F1' := F1.le A1.sr L6.noG (fun b hb => List.mem_singleton.mp hb ▸ ⟨zl _ (.head _), hcl⟩) (L6.gl _ (Array.getElem?_eq_some_iff.mp F1.gs).1)
    refine wpAny_execs_cons (wpAny_Assign_Name (wpAny_BinOp (listCall G eo P6 kl n4 d4 d5 kx hx6 cx (F1'.runs G i1 eo o1 cx P6.sr p.nf p.sr.osz g _ fun ρ7 s7 y7 sr7 rd7 l7 gk7 => ?_))) rfl)
    have n7 : ∀ b ∈ ownA env, b ∉ [J1, C1] := fun b hb hm => own b hb (List.mem_append_left [J2, C2] hm)
    have P7 : Pre c fs env ⟨σ.vs, os1⟩ ρ7 s7 := ⟨sr7, (P6.fr.gens (gs := #[])).monoW l7 n7, p.nf⟩
    refine listCall G eo P7 kl n4 d4 d5 ky (Has.le (s := bareS s6) hy6 l7 (P6.fr.nof _ (.head _)).1 (n7 _ (.head _))) cx (second ρ7 s7 sr7 l7 gk7 _ fun ρ8 s8 y8 sr8 rd8 l8 gk8 => ?_)
    have P8 : Pre c fs env ⟨σ.vs, os2⟩ ρ8 s8 := ⟨sr8, (P7.fr.gens (gs := #[])).monoW l8 fun b hb hm => own b hb (List.mem_append_right [J1, C1] hm), p.nf⟩
    obtain ⟨a1', t1, _, eq1, _, j1, x1⟩ := list_of sr8 a1 (l8.vr rd7)
    obtain ⟨a2', t2, _, eq2, _, j2, x2⟩ := list_of sr8 a2 rd8
    cases eq1; cases eq2
    refine snd_addL ⟨_, j1, rfl, _, rfl⟩ ⟨_, j2, rfl, _, rfl⟩ (size_lim (by rw [x1.size, x2.size, ← List.length_append]; exact hl)) ?_
    obtain ⟨a9, r9⟩ := new_obj P8 (o := { cls := .type "list", data := .seq (t1 ++ t2) }) (t := s8.toks) (.list (its := t1 ++ t2) (Heap.get?_push_size _ rfl) (by rw [Array.toList_append]; exact (x1.append x2).pre))
    refine snd_store F.toFrSt (P8.next a9) (bnd_of eo d3) r9 fun s10 a10 => hr.r _ _ _ _ _ _ _ eo F cx ((P8.next a9).next a10) fun ρ' s' f a11 rf => q _ _ _ ⟨?_, a11.sr, a11.fr⟩ rf
    have l11 : Le c (ownW env) fs ρ8 s8 ρ' s' := a9.le.weaken.trans (a10.le.trans a11.le)
    have gk := (((A1.le.gk.trans L6.gk).keep gk7 F1.gz).keep gk8 sg).trans l11.gk
    refine Le.ofG ?_ gk.1 gk.2
    have hw : ∀ {x}, x ∈ ownW env → x ∈ [J1, C1, J2, C2] ++ ownW env := fun h => List.mem_append_right _ h
    refine (Le.refl (W := ownW env) (fs := fs) (ρ := ρ) (s := bareS s)).freshW (V' := [J1, C1, J2, C2]) ?_ fr3
    exact ((((A1.le.weaken.noG.bare').trans (L6.sup fun x hx => List.mem_singleton.mp hx ▸ hw (.head _)).noG.bare').trans (l7.sup fun x hx => List.mem_append_left _ (List.mem_append_left [J2, C2] hx)).bare').trans (l8.sup fun x hx => List.mem_append_left _ (List.mem_append_right [J1, C1] hx)).bare').trans (l11.sup fun x hx => hw hx).noG
  have L5 : Le c [env.locals] fs ρ1 s1 ρ5 s5 := W1.trans A5.le.weaken
  cases b with
  | true =>
    refine wpAny_execs_nil (tail L5 P5 hx5 hy5 r1 a1 fun ρ7 s7 sr7 l7 gk7 => ?_)
    have L35 : Le c [env.locals] fs ρ3 s3 ρ5 s5 := l4.trans A5.le.weaken
    have g12 : g2 ≠ g1 := Nat.ne_of_gt (Nat.lt_of_lt_of_le ((Array.getElem?_eq_some_iff.mp F1.gs).1) (Nat.le_trans l2.gsz F2.gz))
    have z3 := (Array.getElem?_eq_some_iff.mp F2.gs).1
    refine (F2.le (W := env.locals :: [J1, C1]) P3.sr ((L35.sup fun x hx => List.mem_singleton.mp hx ▸ .head _).noG.bare'.trans (l7.sup fun x hx => .tail _ hx)) (fun b hb => ?_) ((gk7.2 g2 g12 (Nat.lt_of_lt_of_le z3 L35.gsz)).trans (L35.gl _ z3))).runs G i2 eo o2 cx sr7 p.nf (Nat.le_trans p.sr.osz z1) (r2 rfl)
    rcases List.mem_cons.mp hb with rfl | hb
    · exact ⟨Nat.lt_of_lt_of_le (zl _ (.head _)) z1, hcl⟩
    · exact ⟨(fr1 _ hb).2, fun hm => absurd (zc _ hm) (Nat.not_lt.mpr (fr1 _ hb).1)⟩
  | false =>
    obtain ⟨r4, rfl⟩ := r3 rfl
    refine wpAny_execs_cons (wpAny_Assign_Name (wpAny_List (args_nil ⟨Nat.zero_le _, ?_⟩)) rfl)
    obtain ⟨a6, r6⟩ := new_obj P5 (t := s5.toks) (.newL .nil)
    refine snd_storeAny F.toFrSt (P5.next a6) ky u2 fun s7 P7 l7 eg7 hy7 hh7 => wpAny_execs_nil ?_
    refine tail (L5.trans (a6.le.weaken.trans l7)) P7 (hh7 _ _ hne (hx5.le a6.le (P5.fr.nof _ (.head _)).1 List.not_mem_nil)) hy7 r1 a1 fun ρ8 s8 sr8 l8 gk8 Q' q' => ?_
    have r8 := l8.vr (l7.vr r6)
    exact f_list (n := n) r4 (by decide) _ _ _ _ _ _ _ _ _ cx.down sr8 p.nf rfl (.cons r8 .nil) .nil fun ρ9 s9 y9 le9 sr9 ry9 => q' _ _ _ sr9 ry9 le9.weaken.noG (GKeep.ofGK le9.gk)
end
end Rw
namespace Rw
open PySem PySem.W PySem.Calls PyProof.Rows
structure KX (V : List Addr) (s s' : Shared) : Prop where
  sz : s.heap.objs.size ≤ s'.heap.objs.size
  keep : ∀ b o, b ∉ V → s.heap.get? b = some o → s'.heap.get? b = some o
  os : s'.os = s.os
  gens : s'.gens = s.gens
section
variable {prog : Program} {w : World} {K : Frag} {A : Around} {E : Value → Shared → Prop} {s s' s'' s₀ : Shared} {genv : Env} {V : List Addr}
theorem KX.refl : KX V s s := ⟨Nat.le_refl _, fun _ _ _ e => e, rfl, rfl⟩
theorem KX.trans (a : KX V s s') (b : KX V s' s'') : KX V s s'' := ⟨Nat.le_trans a.sz b.sz, fun x o h e => b.keep x o h (a.keep x o h e), b.os.trans a.os, b.gens.trans a.gens⟩
theorem KX.up {d : Addr} (u : Up d s s') (h : d ∈ V) : KX V s s' := ⟨u.sz, fun b o hb e => u.keep b o (fun q => hb (q ▸ h)) e, u.os, u.gens⟩
theorem KX.qu (u : Qu s s') : KX V s s' := ⟨u.sz, fun b o _ e => u.keep b o e, u.os, u.gens⟩
structure MidI (C ax J j : Nat) (s : Shared) : Prop where
  it : s.heap.IsListIter J ax j
  ns : ∃ m, s.heap.Ns C m
  li : ∃ its, s.heap.IsList ax its
inductive IYld (lo C ax : Addr) (z k : Nat) (s₀ : Shared) (v : Value) (s : Shared) (κ : Resume → Shared → Prop) : Prop
  | mk {J j its} : lo ≤ J → J ≠ C → j + 1 + k = z → s₀.heap.IsList ax its → its[j]? = some v → KX [C, J] s₀ s → MidI C ax J (j + 1) s → (J < s₀.heap.objs.size → s₀.heap.IsListIter J ax j) →
    (∀ s'' : Shared, MidI C ax J (j + 1) s'' → (∀ its', s''.heap.IsList ax its' → its'.size ≤ j + 1 ∨ 0 < k) → κ (.send .none) s'') → IYld lo C ax z k s₀ v s κ
noncomputable def IYield (lo C ax : Addr) (z : Nat) : Protocol := IYld lo C ax z
inductive IEnd (lo C ax : Addr) (z n : Nat) (s₀ s : Shared) : Prop
  | mk {J j its} : lo ≤ J → KX [C, J] s₀ s → (J < s₀.heap.objs.size → s₀.heap.IsListIter J ax j) → s₀.heap.IsList ax its → its.size ≤ j → j + n = z → IEnd lo C ax z n s₀ s
abbrev IFin (lo C ax : Addr) (z : Nat) : GenEnd := fun n s₀ r s₁ => r = .ok (.ret .none) ∧ IEnd lo C ax z n s₀ s₁
theorem IsList.kx {h h' : Heap} {ax : Addr} {its : Array Value} (x : h.IsList ax its) (k : ∀ o, h.get? ax = some o → h'.get? ax = some o) : h'.IsList ax its := let ⟨o, ho, r⟩ := x; ⟨o, k _ ho, r⟩
theorem not2 {C J ax : Addr} (h1 : ax ≠ C) (h2 : ax ≠ J) : ax ∉ [C, J] := fun h => (List.mem_cons.mp h).elim h1 fun h => h2 (List.mem_singleton.mp h)
theorem seg_iterLoop {rn : Str} {p1 p4 p5 p6 : Pos} {lo C ax J : Addr} {z : Nat} {fr : Frame} (hlo : lo ≤ J)
    (hh : A.handled = none) (hC : genv.locals = C) (hrn : genv.kindOf rn = some .local) (hk : genv.scope.kind = .function) (hco : genv.scope.isCoroutine = false) (hrd : (rn == ("__debug__" : Str)) = false)
    (hfr : fr.guarded = false) (hfs : splitAtGen [fr] = none) (hfm : (marksOver [fr] (none, none)).1 = none) (hJC : J ≠ C) (haC : ax ≠ C) (haJ : ax ≠ J)
    (fin : ∀ n s₀ s, IEnd lo C ax z n s₀ s → Seg (model prog w) A (IFin lo C ax z) (IYield lo C ax z) n s₀ (.block [] genv) (leafOf (.ok .next)) [fr] s) :
    ∀ (k j : Nat) (s₀ s : Shared), j + k = z → MidI C ax J j s → (∃ its, s₀.heap.IsList ax its ∧ (its.size ≤ j ∨ 0 < k)) → KX [C, J] s₀ s → (J < s₀.heap.objs.size → s₀.heap.IsListIter J ax j) →
      Seg (model prog w) A (IFin lo C ax z) (IYield lo C ax z) k s₀
        (.forLoop (.Name rn p1) (.ref J) [.Expr (.Yield (some (.Name rn p4)) p5) p6] [] genv) ((model prog w).den (.forLoop (.Name rn p1) (.ref J) [.Expr (.Yield (some (.Name rn p4)) p5) p6] [] genv)) [fr] s := by
  have hov : (A.over (.forLoop (.Name rn p1) (.ref J) [.Expr (.Yield (some (.Name rn p4)) p5) p6] [] genv) [fr]).handled = none := by
    show (marksOver [fr] (A.handled, A.handled)).1 = none
    rw [hh]; exact hfm
  have hp : (genv.scope.kind == .class || (genv.scope.kind == .module && genv.locals != genv.globals)) = false := by rw [hk]; rfl
  intro k
  induction k using Nat.strongRecOn with
  | ind k ih =>
  intro j s₀ s hj mi hits kx hJ
  obtain ⟨its, il, hsz⟩ := hits
  have il1 := IsList.kx il fun o e => kx.keep _ o (not2 haC haJ) e
  obtain ⟨m, hm⟩ := mi.ns
  show Seg _ A _ _ _ s₀ _ ((forTurn (.Name rn p1) (.ref J) [.Expr (.Yield (some (.Name rn p4)) p5) p6] [] genv).onRaise (fun x => do noteFrame x genv; theTreesLotGoes x)) [fr] s
  unfold forTurn
  rw [Sem.onRaise_eq_wrap]
  refine seg_bind_wrap (wpAny_standAt ?_)
  cases hv : its[j]? with
  | none =>
    refine seg_bind_wrap (wpAny_onRaise (with_size (wpAny_pyNext_list_end hov mi.it il1 hv fun h' he hz => ?_)))
    exact seg_again rfl (fin _ s₀ _ ⟨hlo, kx.trans (KX.up (d := J) ⟨hz, fun b o hb e => he b o hb e, rfl, rfl⟩ (.tail _ (.head _))), hJ, il, Array.getElem?_eq_none_iff.mp hv, hj⟩)
  | some v =>
    obtain ⟨k, rfl⟩ : ∃ k', k = k' + 1 := by
      have := (Array.getElem?_eq_some_iff.mp hv).1
      exact ⟨k - 1, by omega⟩
    refine seg_bind_wrap (wpAny_onRaise (wpAny_pyNext_list_item mi.it il1 hv fun h1 hit1 hs1 => ?_))
    have kx1 := kx.trans (KX.up (V := [C, J]) (d := J) (up_of (t := s.toks) hs1) (.tail _ (.head _)))
    have hm1 : h1.Ns genv.locals m := by rw [hC]; exact hm.sameBut hs1 (Ne.symm hJC)
    refine seg_bind_wrap (wpAny_of_eq (rfl : letOwnedTupleGo (.Name rn p1) (.ref J) v = pure ()) ?_)
    refine seg_bind_wrap (wpAny_assign_Name (wpAny_storeName_local hrn hm1 (fun h2 hn2 hs2 => ?_) hp))
    rw [hC] at hs2 hn2
    have kx2 := kx1.trans (KX.up (V := [C, J]) (d := C) (up_of (s := { s with heap := h1 }) (t := s.toks + 1) hs2) (.head _))
    have hit2 : h2.IsListIter J ax (j + 1) := by obtain ⟨o, ho, r⟩ := hit1; exact ⟨o, (hs2.2 J hJC).trans ho, r⟩
    rw [Sem.bind_eq_wrap', Sem.wrap_wrap]
    refine seg_execs_cons ?_
    refine seg_Expr_Yield (gd := id) hfs rfl (by rw [List.any_cons, hfr]; rfl) (wpAny_Name (wpAny_loadName_local hk hrn (v := v) (by rw [hC]; exact hn2) (if_pos rfl) fun kap hkap => ?_) hrd) hco (by unfold interactive; rw [hk]; rfl)
    refine IYld.mk hlo hJC (by omega) il hv kx2 ⟨hit2, ⟨_, hn2⟩, its, IsList.kx il fun o e => kx2.keep _ o (not2 haC haJ) e⟩ hJ fun s3 mi3 g3 => hkap .none s3 ?_
    show Seg _ A _ _ _ s3 _ _ [fr] s3
    refine seg_execs_nil ?_
    obtain ⟨its', il'⟩ := mi3.li
    exact seg_again rfl (ih k (Nat.lt_succ_self _) (j + 1) s3 s3 (by omega) mi3 ⟨its', il', g3 _ il'⟩ .refl fun _ => mi3.it)
theorem seg_iterStart {rn : Str} {p1 p4 p5 p6 p7 : Pos} {iter : Expr} {lo C ax : Addr} {its : Array Value} {m : Str → Option Value} {z : Nat} (hlo : lo ≤ s.heap.objs.size)
    (hh : A.handled = none) (hC : genv.locals = C) (hrn : genv.kindOf rn = some .local) (hk : genv.scope.kind = .function) (hco : genv.scope.isCoroutine = false) (hrd : (rn == ("__debug__" : Str)) = false)
    (haC : ax ≠ C) (hCz : C < s.heap.objs.size) (hfo : ∀ x, foldedSetIterable iter genv x = pure x) (il : s.heap.IsList ax its) (hsz : its.size = 0 ∨ 0 < z) (hns : s.heap.Ns C m)
    (hev : ∀ {Q : Value → Shared → Prop} {E : Value → Shared → Prop}, (∀ s', Qu s s' → Q (.ref ax) s') → wpAny (model prog w) (A.over (.func [.For (.Name rn p1) iter [.Expr (.Yield (some (.Name rn p4)) p5) p6] [] p7] genv) []) (eval iter genv) Q E s) :
    Seg (model prog w) A (IFin lo C ax z) (IYield lo C ax z) z s
      (.func [.For (.Name rn p1) iter [.Expr (.Yield (some (.Name rn p4)) p5) p6] [] p7] genv) ((model prog w).den (.func [.For (.Name rn p1) iter [.Expr (.Yield (some (.Name rn p4)) p5) p6] [] p7] genv)) [] s := by
  refine seg_func (seg_execs_cons ?_)
  rw [arm_exec_For]
  refine seg_bind_wrap (wpAny_standAt (seg_bind_wrap (hev fun s1 u1 => ?_)))
  refine seg_bind_wrap (wpAny_of_eq (hfo _) (seg_bind_wrap (wpAny_standAt ?_)))
  have il1 := IsList.kx il fun o e => u1.keep _ o e
  refine seg_bind_wrap (wpAny_holding (wpAny_pyIter_list il1 ?_))
  have u2 : Qu s1 { s1 with heap := s1.heap.push { cls := .type "list_iterator", data := .fields #[.ref ax, .int 0 0] } } := Qu.push (t := s1.toks)
  have zax : ax < s1.heap.objs.size := let ⟨o, ho, _⟩ := il1; Heap.lt_size ho
  refine seg_call fun p => ?_
  refine seg_iterLoop (ax := ax) (C := C) (J := s1.heap.objs.size) (Nat.le_trans hlo u1.sz) hh hC hrn hk hco hrd rfl rfl rfl (Nat.ne_of_gt (Nat.lt_of_lt_of_le hCz u1.sz)) haC (Nat.ne_of_lt zax) (fun n s₀ s he => ?_) z 0 s _ (Nat.zero_add _)
    ⟨⟨_, Heap.get?_push_size _ rfl, rfl, rfl⟩, ⟨m, (hns.keeps u1.keep).keeps u2.keep⟩, its, IsList.kx il1 fun o e => u2.keep _ o e⟩ ⟨its, il, hsz.imp_left Nat.le_of_eq⟩ (KX.qu (u1.trans u2)) (fun h => absurd h (Nat.not_lt.mpr u1.sz))
  refine seg_leaf (.ok .next) ?_
  show Seg _ A _ _ _ _ _ ((execs [] genv).wrap _ _ _ _) [] _
  exact seg_execs_nil (seg_end (.ok (.ret .none)) ⟨rfl, he⟩)
theorem raw_pyNext_func {a : Addr} {g n : Nat} {gs : GenState} {P : Nat → Shared → Shared → Prop} {Y : Protocol} {Q : Option Value → Shared → Prop} (hh : A.handled = none)
    (hl : s.heap.NoLimit) (hroom : A.depth < recursionLimit)
    (hg : s.heap.IsGen a g) (hgs : s.gens[g]? = some gs)
    (hgo : gs.Goes (model prog w) A.in1 (fun n s₀ r s₁ => r = .ok (.ret .none) ∧ P n s₀ s₁) Y n (.send .none) (s.setGen g .running))
    (hY : ∀ v s₁ gs', gs'.bare = true → Y (n - 1) (s.setGen g .running) v s₁ (fun r' s'' => match n with
        | 0 => False
        | m + 1 => gs'.Goes (model prog w) A.in1 (fun n s₀ r s₁ => r = .ok (.ret .none) ∧ P n s₀ s₁) Y m r' s'') → Q (some v) (s₁.setGen g gs'))
    (hP : ∀ s₁, P n (s.setGen g .running) s₁ → ∀ h', (∀ b o, s₁.heap.get? b = some o → h'.get? b = some o) → Q none { s₁.setGen g .finished with heap := h' }) :
    wpAny (model prog w) A (pyNext (.ref a)) Q E s := by
  unfold pyNext
  refine wpAny_bind (wpAny_attempt (wpAny_callSpecial?_slot (name := Str.ofString "__next__") hg.typeIs slot_gen_next
    (wpAny_call_entry slot_gen_next hg.typeIs entry_gen_next ?_ (args_gen_next _))))
  show wpAny _ A.in1 (Builtin.Generator.genWake (.ref a) (.send .none)) _ _ s
  unfold Builtin.Generator.genWake
  refine wpAny_bind (wpAny_holding (wpAny_genNumber hg (wpAny_bind (wpAny_genState hgs ?_))))
  cases gs with
  | running => exact hgo.elim
  | finished => exact hgo.elim
  | _ =>
    refine wpAny_bind (wpAny_roomToWake hl hroom ?_)
    show wpAny _ A.in1 (.resume g (.send .none) [] _) _ _ s
    refine wpAny_resumeQ hgs hgo (fun x s₁ hx => ?_) (fun v s₁ gs' hb hv => ?_)
    · obtain ⟨rfl, hp⟩ := hx
      show wpAny _ A.in1 (newExc (.type "StopIteration") [] >>= _) _ _ _
      refine wpAny_bind ?_
      simp only [newExc, newTuple]
      refine wpAny_bind (wpAny_newObj_type ?_ (by size_fits))
      refine wpAny_bind (m := firstArgMember _ _) (wpAny_of_eq (a := Value.none) (by first | rfl | (simp only [firstArgMember]; rfl)) ?_)
      refine wpAny_newObj_type ?_ (by size_fits)
      simp only [raiseNew]
      refine wpAny_bind (wpAny_bind (wpAny_handled ?_))
      first | rw [show A.in1.handled = none from hh] | rw [hh]
      refine wpAny_throw ?_
      refine wpAny_bind (wpAny_isInstance (T := "StopIteration") (b := true) ⟨_, Heap.get?_push_size _ rfl, rfl⟩ isSubtype_stop ?_)
      exact wpAny_pure (hP s₁ hp _ fun b o hb => Heap.get?_push_of_some _ (Heap.get?_push_of_some _ hb))
    · exact wpAny_pure ⟨v, rfl, wpAny_pure (hY v s₁ gs' hb hv)⟩
theorem raw_iterOwn {x C f : Addr} {ox : Obj} {od : Option Obj} {Q : Value → Shared → Prop} (X : K.In s.heap) (I : InstAt s.heap x ox C od) (hs : findIn K (.ref C) "__iter__" = some (some (.ref f))) (hf : typeIn K (.ref f) = some (.type "function"))
    (h : wpAny (model prog w) A (call (.ref f) [.ref x]) (fun v s' => ∃ a g, v = .ref a ∧ s'.heap.IsGen a g ∧ Q v s') E s) : wpAny (model prog w) A (pyIter (.ref x)) Q E s := by
  have fin : wpAny (model prog w) A (call (.ref f) [.ref x] >>= fun v => pure (some v)) (fun r s' => ∃ v, r = some v ∧ ∃ a g, v = .ref a ∧ s'.heap.IsGen a g ∧ Q v s') E s :=
    wpAny_bind (wpAny_mono h (fun v s' h' => wpAny_pure ⟨v, rfl, h'⟩) fun _ _ z => z)
  have one : ∀ refuse : Sem Value, wpAny (model prog w) A (callSpecialIfBoundUnlessNone? (.ref x) "__iter__" refuse) (fun r s' => ∃ v, r = some v ∧ ∃ a g, v = .ref a ∧ s'.heap.IsGen a g ∧ Q v s') E s := by
    intro refuse
    simp only [callSpecialIfBoundUnlessNone?, bindSpecialIfBound?]
    refine wpAny_holding (wpAny_bind (wpAny_bind (wpAny_bind (I.type.here ((looks_findIn X hs).here ?_)))))
    refine wpAny_bind (wpAny_askSetting (wpAny_ite ?_))
    have fin2 : wpAny (model prog w) A (if (Value.ref f == Value.none) = true then (refuse >>= fun v => pure (some v)) else (call (.ref f) [.ref x] >>= fun v => pure (some v))) (fun r s' => ∃ v, r = some v ∧ ∃ a g, v = .ref a ∧ s'.heap.IsGen a g ∧ Q v s') E s := by
      rw [if_neg (show ¬ ((Value.ref f == Value.none) = true) from Bool.false_ne_true)]
      exact fin
    split
    · exact wpAny_bind ((bind_fn X _ hf).here (wpAny_pure (by exact fin2)))
    · exact wpAny_tryCatch (wpAny_bind ((bind_fn X _ hf).here (wpAny_pure (by exact fin2))))
  unfold pyIter
  refine wpAny_bind (wpAny_bind (I.type.here ((looks_findIn X hs).here ?_)))
  show wpAny _ A (callSpecialIfBoundUnlessNone? (.ref x) "__iter__" _ >>= _) Q E s
  refine wpAny_bind (wpAny_mono (one _) (fun r s' hr => ?_) fun _ _ z => z)
  obtain ⟨v, rfl, a, g, rfl, hg, hq⟩ := hr
  exact wpAny_bind (wpAny_specialOf hg.typeIs slot_gen_next.lookup (wpAny_pure hq))
end
end Rw
namespace Rw
open PySem PySem.W PySem.Calls PyProof.Rows
structure ItIs (c : Cx) (cl f : Addr) (fld : Nat) (fd : FuncData) (rn sn fn : Str) (k : Nat) (p1 p2 p3 p4 p5 p6 p7 : Pos) : Prop where
  ho : ∃ fo, c.K.lookup f = some fo ∧ fo.data = .func fd
  hf : findIn c.K (.ref cl) "__iter__" = some (some (.ref f))
  ht : typeIn c.K (.ref f) = some (.type "function")
  ha : c.P.att cl fld = some .no
  bd : fd.body = .stmts [.For (.Name rn p1) (.Attribute (.Name sn p2) fn p3) [.Expr (.Yield (some (.Name rn p4)) p5) p6] [] p7]
  fk : c.nm fld = fn
  sk : c.nm k = sn
  gl : fd.globals = mainGlobals
  bu : fd.builtins = builtinsNs
  kd : fd.scope.kind = .function
  ge : fd.scope.isGenerator = true
  co : fd.scope.isCoroutine = false
  ci : codeIn c.K fd.code fd.qualname = true
  cl : fd.closure = []
  rl : fd.scope.names.lookup rn = some .local
  sl : fd.scope.names.lookup sn = some .local
  rd : (rn == ("__debug__" : Str)) = false
section
variable {c : Cx} {A : Around} {E : Value → Shared → Prop} {n m : Nat} {sc : Scope} {tg it : Expr} {bd : List Stmt} {ρ ρ' ρ'' ρ0 : Rho} {s s' s'' s0 : Shared} {fs : List Env} {os os' : List O} {env : Env} {W Vs : List Addr} {σ σ' σ'' : Sg} {vs : Nat → Option V} {i j k g z cl f fld : Nat} {ff : List (Nat × V)} {l : List V} {v : V} {x : Value} {fd : FuncData} {rn sn fn : Str} {p1 p2 p3 p4 p5 p6 p7 pos : Pos} {fl : Fl} {C ax J a : Addr}
theorem Ctx.dp0 (x : Ctx A fs n) : A.depth < recursionLimit := Nat.lt_of_le_of_lt (Nat.le_trans (Nat.le_add_right _ _) (Nat.le_add_right _ 10)) x.dp
theorem Ctx.dp10 (x : Ctx A fs n) : A.depth + 10 < recursionLimit := Nat.lt_of_le_of_lt (Nat.add_le_add_right (Nat.le_add_right _ _) 10) x.dp
theorem KX.leW (u : KX Vs s s') : Le c Vs fs ρ s ρ s' :=
  ⟨⟨[], (List.append_nil ρ).symm, fun _ h => nomatch h⟩, u.sz, fun b o h _ hw _ => u.keep b o hw h, fun b o h _ hw => ⟨o.slots, u.keep b o hw h⟩, u.os, fun _ _ => by rw [u.gens], Nat.le_of_eq (by rw [u.gens])⟩
theorem SR.upX (sr : SR c fs ρ os s) (u : KX Vs s s') (hd : ∀ d ∈ Vs, (∀ o, s.heap.get? d = some o → tame o) ∧ off c ρ d ∧ d ∉ frA fs ∧ c.h0.objs.size ≤ d) : SR c fs ρ os s' := by
  refine ⟨sr.len, sr.nd, sr.nd1, sr.lo, fun q hq => ⟨Nat.lt_of_lt_of_le (sr.inn q hq).1 u.sz, Nat.lt_of_lt_of_le (sr.inn q hq).2 u.sz⟩, sr.nfr, fun j o' hj => ?_, by rw [u.gens]; exact sr.bare, fun b o' hb => u.keep b o' (fun hm => absurd (Heap.lt_size hb) (Nat.not_lt.mpr (hd _ hm).2.2.2)) (sr.old b o' hb), Nat.le_trans sr.osz u.sz, fun env he => ?_, fun b hb => ?_, sr.txz⟩
  · obtain ⟨q, hq, hr⟩ := sr.ob j o' hj
    exact ⟨q, hq, hr.move0 (fun x => u.keep _ _ fun hm => (hd _ hm).2.1.1 q (mem2 hq) rfl) fun x hx e => u.keep _ _ (fun hm => ((hd _ hm).1 _ e).1 hx) e⟩
  · obtain ⟨kk, L, o', f, l, e, d'⟩ := sr.ff env he
    exact ⟨kk, L, o', f, l, u.keep _ _ (fun hm => (hd _ hm).2.2.1 (List.mem_filterMap.mpr ⟨env, he, f⟩)) e, d'⟩
  · obtain ⟨ps, h1, h2, h3⟩ := sr.tx b hb
    refine ⟨ps, u.keep _ _ (fun hm => (hd _ hm).2.1.2 hb) h1, h2, fun pos cv e => ?_⟩
    obtain ⟨d, o, vs, q, t, e, g1, g2, g3, g4⟩ := h3 pos cv e
    exact ⟨d, o, vs, q, t, e, u.keep _ _ (fun hm => ((hd _ hm).1 _ g1).2 _ g3 g2) g1, g2, g3, g4⟩
theorem letOwnGen (hg : s.heap.IsGen a g) {Q : Unit → Shared → Prop} (q : Q () s) : wpAny (model c.prog c.w) A (letOwnedTupleGo tg (.ref a) x) Q E s := by
  obtain ⟨o, nm, qn, ho, hc, hd, _⟩ := hg
  exact let_own q ho hc hd (by decide)
theorem IsList_fun {h : Heap} {a b : Array Value} (x : h.IsList ax a) (y : h.IsList ax b) : a = b := by
  obtain ⟨o, ho, _, n, hd⟩ := x
  obtain ⟨o', ho', _, n', hd'⟩ := y
  rw [ho] at ho'; cases ho'
  rw [hd] at hd'; cases hd'
  rfl
theorem iter_apart (sr : SR c fs ρ os s) (hlo : c.h0.objs.size ≤ J) (hJ : J < s.heap.objs.size → s.heap.IsListIter J ax j) : (∀ o, s.heap.get? J = some o → tame o) ∧ off c ρ J := by
  by_cases h : J < s.heap.objs.size
  · obtain ⟨o, ho, hc, hd⟩ := hJ h
    have nt : o.cls ≠ .type "code" := by rw [hc]; exact fun e => absurd (Value.type.inj e) (by decide)
    refine ⟨fun o' ho' => ?_, fun p hp e => ?_, fun hm => absurd (sr.txz _ hm) (Nat.not_lt.mpr hlo)⟩
    · rw [ho] at ho'; cases ho'
      exact ⟨(fun e => by rw [hd] at e; cases e), fun _ _ => nt⟩
    · obtain ⟨i, hi⟩ := List.mem_iff_getElem?.mp hp
      have hl := (List.getElem?_eq_some_iff.mp hi).1
      rw [sr.len] at hl
      obtain ⟨oo, hoo⟩ : ∃ oo, os[i]? = some oo := ⟨_, List.getElem?_eq_getElem hl⟩
      obtain ⟨q, hq, hr⟩ := sr.ob i oo hoo
      rw [hi] at hq; cases hq
      cases hr with
      | list h1 => dsimp only at e; rw [e, ho] at h1; cases h1; cases hd
      | tup h1 => dsimp only at e; rw [e, ho] at h1; cases h1; cases hd
      | inst h1 h2 h3 h4 h5 h6 h7 => dsimp only at e; rw [e, ho] at h6; cases h6; cases hd
      | dict h1 => dsimp only at e; rw [e, ho] at h1; cases h1; cases hd
      | rng h1 => dsimp only at e; rw [e, ho] at h1; cases h1; exact absurd (Value.type.inj hc) (by decide)
  · exact ⟨fun o ho => absurd (Heap.lt_size ho) h, sr.off_top (Nat.not_lt.mp h)⟩
theorem field_at (G : Gd c) (sr : SR c fs ρ os s) (hi : os[i]? = some (.inst cl ff)) (ha : c.P.att cl k = some .no) (hv : ff.lookup k = some v) (rx : VR c ρ (.obj i) x) {Q : Value → Shared → Prop} (q : ∀ s' y, Qu s s' → VR c ρ v y → Q y s') : wpAny (model c.prog c.w) A (getAttr x (c.nm k) true) Q E s := by
  obtain ⟨xa, d, o, es, kk, rfl, _, I, hd, _, _, hg, hr⟩ := inst_of sr hi rx
  obtain ⟨y, hy, ry⟩ := (hr.look k).1 v hv
  have C := G.ck _ _ _ ha
  exact get_value (kin G sr) I C.ga (findObj_own C.hd (G.no _ _ ha) rfl (by rw [lookIn_dict]; exact hy)) (handed ry) (q _ _ .tok ry)
theorem snd_selfIter (G : Gd c) (F : ItIs c cl f fld fd rn sn fn k p1 p2 p3 p4 p5 p6 p7) (hb : BindJ c fd [.obj i] [] os [(k, .obj i)] os) (sr : SR c fs ρ os s) (hd : A.depth + 10 < recursionLimit) (hi : os[i]? = some (.inst cl ff)) (hv : ff.lookup fld = some (.obj j)) (hj : os[j]? = some (.list l)) (hz : l.length = 0 ∨ 0 < z) (rx : VR c ρ (.obj i) x)
    {Q : Value → Shared → Prop} (q : ∀ ρ' s' a g C ax gs mC, Le c [] fs ρ s ρ' s' → SR c fs ρ' os s' → s.heap.objs.size ≤ C → C < a → s'.heap.IsGen a g → s.gens.size ≤ g → s'.gens[g]? = some gs → gs.bare = true → s'.heap.Ns C mC → ρ'[j]? = some (ax, ax) → off c ρ' a → off c ρ' C →
      (∀ A' fs' s'', A'.handled = none → SR c fs' ρ' os s'' → s''.heap.Ns C mC → gs.Goes (model c.prog c.w) A' (IFin s.heap.objs.size C ax z) (IYield s.heap.objs.size C ax z) z (.send .none) s'') → Q (.ref a) s') :
    wpAny (model c.prog c.w) A (pyIter x) Q E s := by
  obtain ⟨fo, ho, hfd⟩ := F.ho
  have efk := F.fk
  subst efk
  have X := kin G sr
  obtain ⟨B, hB, hbd⟩ : ∃ B, B = [Stmt.For (.Name rn p1) (.Attribute (.Name sn p2) (c.nm fld) p3) [.Expr (.Yield (some (.Name rn p4)) p5) p6] [] p7] ∧ fd.body = .stmts B := ⟨_, rfl, F.bd⟩
  obtain ⟨xa, d, o, es, kk, rfl, _, I, _, _, _⟩ := inst_of sr hi rx
  refine raw_iterOwn X I F.hf F.ht (wpAny_call ?_)
  refine codeAny_call_generator (by omega) (X _ _ ho) hfd F.co F.ge hbd (codeRec_of X F.ci) ?_
  rw [F.gl, F.bu, F.cl]
  refine hb _ _ _ _ _ _ _ _ sr (.cons rx .nil) .nil fun ρ1 s1 bS u1 l1 sr1 r1 => ?_
  cases r1 with
  | @cons _ _ y _ _ ry rnil =>
  cases rnil
  obtain ⟨xa', d', o', es', kk', rfl, hp1, I1, hd1, _, _, hg1, hr1⟩ := inst_of sr1 hi ry
  refine wpAny_newFunctionEnv_cells F.kd (fun x hx => ?_) fun env he s2 x => ?_
  · cases List.mem_singleton.mp hx
    exact .inl (by rw [F.sk]; exact F.sl)
  have u2 := Qu.call x.toInCall
  have lo : s1.heap.objs.size ≤ env.locals := x.toInCall.fresh
  have hCz2 : env.locals < s2.heap.objs.size := x.toInCall.ns.lt
  have hkd : ∀ y, env.kindOf y = fd.scope.names.lookup y := fun y => by subst he; rfl
  have hm : bindL env.kindOf [(c.nm k, Value.ref xa')] (fun _ => none) sn = some (.ref xa') := by
    refine (bindL_at (by rw [hkd]; exact F.sl) (by simp)).1 _ ?_
    rw [F.sk]; simp
  generalize bindL env.kindOf [(c.nm k, Value.ref xa')] (fun _ => none) = m2 at x hm
  have sr2 := sr1.qu u2
  refine ⟨G.lim.keeps sr2.old, ?_⟩
  have u24 : ∀ ob tk, Qu s2 { s2 with heap := s2.heap.push ob, toks := tk } := fun ob tk => Qu.push
  have ns4 : ∀ ob, (s2.heap.push ob).Ns env.locals m2 := fun ob => x.toInCall.ns.keeps (u24 ob 0).keep
  have hz4 : ∀ ob, env.locals < (s2.heap.push ob).objs.size := fun ob => Nat.lt_of_lt_of_le hCz2 (u24 ob 0).sz
  have l12 := l1.trans (u2.le (W := []) (fs := fs))
  have l4 : ∀ {ob tk y}, Le c [] fs ρ s ρ1 { s2 with heap := s2.heap.push ob, toks := tk, gens := s2.gens.push y } := fun {ob tk y} => by
    have l := l12.trans (u24 ob tk).le
    refine ⟨l.pre, l.sz, l.keep, l.frm, l.os, fun g hg => ?_, ?_⟩
    · show (s2.gens.push y)[g]? = _
      rw [Array.getElem?_push, if_neg (Nat.ne_of_lt (Nat.lt_of_lt_of_le hg l12.gsz))]; exact l12.gl g hg
    · show _ ≤ (s2.gens.push y).size
      rw [Array.size_push]; exact Nat.le_succ_of_le l12.gsz
  obtain ⟨⟨ax, ad⟩, hax, har⟩ := sr2.ob j _ hj
  obtain ⟨its, il, rl, had⟩ : ∃ its, s2.heap.IsList ax its ∧ its.size = l.length ∧ ad = ax := by
    cases har with
    | list h1 h2 => exact ⟨_, ⟨_, h1, rfl, _, rfl⟩, h2.size, rfl⟩
  subst had
  have hax2 : ad < s1.heap.objs.size := (sr1.inn _ (List.mem_of_getElem? hax)).1
  have haC : ad ≠ env.locals := Nat.ne_of_lt (Nat.lt_of_lt_of_le hax2 lo)
  refine ⟨s2.heap.objs.size, s2.gens.size, rfl, ⟨_, _, _, Heap.get?_push_size _ rfl, rfl, rfl, rfl⟩, q ρ1 _ s2.heap.objs.size s2.gens.size env.locals ad _ m2 l4 ((sr2.qu (u24 _ (s2.toks + 1 + 1))).gens (sr2.bare.push rfl)) (Nat.le_trans u1.sz lo) hCz2 ⟨_, _, _, Heap.get?_push_size _ rfl, rfl, rfl, rfl⟩ l12.gsz (Array.getElem?_push_size ..) rfl (ns4 _) hax (sr2.off_top (Nat.le_refl _)) (sr1.off_top lo) fun A' fs' s3 hh' sr3 ns3 => ⟨rfl, ?_⟩⟩
  subst hB
  obtain ⟨q3, hq3, har3⟩ := sr3.ob j _ hj
  rw [hax] at hq3; cases hq3
  obtain ⟨its3, il3, rl3⟩ : ∃ its, s3.heap.IsList ad its ∧ its.size = l.length := by
    cases har3 with
    | list h1 h2 => exact ⟨_, ⟨_, h1, rfl, _, rfl⟩, h2.size⟩
  refine seg_iterStart (its := its3) (Nat.le_trans (Nat.le_trans u1.sz lo) (Nat.le_of_lt ns3.lt)) hh' rfl (by rw [hkd]; exact F.rl) (by subst he; exact F.kd) (by subst he; exact F.co) F.rd haC ns3.lt (fun _ => rfl) il3 (hz.imp_left fun e => rl3.trans e) ns3 fun {Q E} hq => ?_
  refine raw_Attribute rfl (wpAny_Name (wpAny_loadName_local (by subst he; exact F.kd) (by rw [hkd]; exact F.sl) ns3 hm ?_) (by rw [← F.sk]; exact G.db _))
  refine field_at G (fs := fs') (ρ := ρ1) (os := os) sr3 hi F.ha hv ry fun s5 y u5 ⟨p5, e5, h5⟩ => ?_
  rw [hax] at e5; cases e5
  subst h5
  exact hq s5 u5
end
end Rw
namespace Rw
open PySem PySem.W PySem.Calls PyProof.Rows
structure SelfAt (c : Cx) (A : Around) (fs : List Env) (env : Env) (ρ0 : Rho) (s0 : Shared) (a g C ax i z k : Nat) (σ : Sg) (ρ : Rho) (s : Shared) : Prop where
  p : Pre c fs env σ ρ s
  le : Le c (ownW env) fs ρ0 (bareS s0) ρ s
  gk : GK s0 s
  gg : s0.gens.size ≤ g
  ig : s.heap.IsGen a g
  oa : off c ρ a
  oC : off c ρ C
  lC : s0.heap.objs.size ≤ C
  Ca : C < a
  own : ∀ b ∈ ownA env, b < s0.heap.objs.size
  ff : ∀ b, s0.heap.objs.size ≤ b → b ∉ frA fs
  cns : ∃ m, s.heap.Ns C m
  axd : ρ[i]? = some (ax, ax)
  h0 : c.h0.objs.size ≤ s0.heap.objs.size
  go : ∃ gs, s.gens[g]? = some gs ∧ gs.bare = true ∧ gs.Goes (model c.prog c.w) A.in1 (IFin s0.heap.objs.size C ax z) (IYield s0.heap.objs.size C ax z) k (.send .none) (s.setGen g .running)
section
variable {c : Cx} {A : Around} {E : Value → Shared → Prop} {n m : Nat} {sc : Scope} {tg it : Expr} {bd : List Stmt} {ρ ρ' ρ'' ρ0 : Rho} {s s' s'' s0 : Shared} {fs : List Env} {os os' : List O} {env : Env} {W Vs : List Addr} {σ σ' σ'' : Sg} {vs : Nat → Option V} {i j k g z cl f fld : Nat} {ff : List (Nat × V)} {l : List V} {v : V} {x : Value} {fd : FuncData} {rn sn fn : Str} {p1 p2 p3 p4 p5 p6 p7 pos : Pos} {fl : Fl} {C ax J a : Addr}
theorem SR.listAt (sr : SR c fs ρ os s) (hp : ρ[i]? = some (ax, ax)) (h : os[i]? = some (.list l)) : ∃ its, s.heap.IsList ax its ∧ VRs c ρ l its.toList ∧ its.size = l.length := by
  obtain ⟨p, hp', hr⟩ := sr.ob i _ h
  rw [hp] at hp'; cases hp'
  cases hr with
  | list h1 h2 => exact ⟨_, ⟨_, h1, rfl, _, rfl⟩, h2, h2.size⟩
theorem SR.list0 (sr : SR c fs ρ os s) (hp : ρ[i]? = some (ax, ax)) (h : os[i]? = some (.list l)) {its : Array Value} (il : s.heap.IsList ax its) : VRs c ρ l its.toList ∧ its.size = l.length := by
  obtain ⟨its', il', h1, h2⟩ := sr.listAt hp h
  cases IsList_fun il il'
  exact ⟨h1, h2⟩
theorem SelfAt.step (a1 : SelfAt c A fs env ρ0 s0 a g C ax i z k σ ρ s) (hJ : s0.heap.objs.size ≤ J) (kx : KX [C, J] (s.setGen g .running) s') (hit : J < s.heap.objs.size → s.heap.IsListIter J ax j) :
    SR c fs ρ σ.os s' ∧ FR c env σ.vs ρ s' ∧ Le c (ownW env) fs ρ0 (bareS s0) ρ s' ∧ off c ρ J := by
  obtain ⟨d1, d2⟩ := iter_apart a1.p.sr (Nat.le_trans a1.h0 hJ) hit
  have srR : SR c fs ρ σ.os (s.setGen g .running) := a1.p.sr.gens (bare_set a1.p.sr.bare rfl)
  have frR : FR c env σ.vs ρ (s.setGen g .running) := a1.p.fr.gens
  have hV : ∀ d ∈ [C, J], s0.heap.objs.size ≤ d := fun d hd => (List.mem_cons.mp hd).elim (fun e => e ▸ a1.lC) fun hd => List.mem_singleton.mp hd ▸ hJ
  obtain ⟨mC, oC, es, ep, h1, h2, _⟩ := a1.cns
  refine ⟨srR.upX kx fun d hd => ⟨fun o ho => ?_, ?_, a1.ff _ (hV d hd), Nat.le_trans a1.h0 (hV d hd)⟩, frR.monoW (kx.leW (fs := fs)) fun b hb hm => absurd (a1.own b hb) (Nat.not_lt.mpr (hV b hm)), (Le.toG a1.le).freshW (V' := [C, J]) ((kx.leW (fs := fs)).sup fun x hx => List.mem_append_left _ hx) hV, d2⟩
  · rcases List.mem_cons.mp hd with rfl | hd
    · rw [show s.heap.get? d = some o from ho] at h1; cases h1
      exact tame_dict h2
    · exact d1 o (List.mem_singleton.mp hd ▸ ho)
  · rcases List.mem_cons.mp hd with rfl | hd
    · exact a1.oC
    · exact List.mem_singleton.mp hd ▸ d2
theorem snd_forSelf (G : Gd c) (eo : EnvOk sc env) (F : FrOk c fs env) (cx : Ctx A fs n) {R : Result → Shared → Prop} (h : ForGo c n sc tg bd (.live i) m j σ .nxt σ') (hz : j + m = z) (a0 : SelfAt c A fs env ρ0 s0 a g C ax i z m σ ρ s)
    (q : ∀ ρ' s', Le c (ownW env) fs ρ0 (bareS s0) ρ' s' → GK s0 s' → SR c fs ρ' σ'.os s' → FR c env σ'.vs ρ' s' → R (.ok .next) s') : codeAny (model c.prog c.w) A (.forLoop tg (.ref a) bd [] env) R s := by
  refine raw_forLoop (fun m s => ∃ j σ ρ, ForGo c n sc tg bd (.live i) m j σ .nxt σ' ∧ j + m = z ∧ SelfAt c A fs env ρ0 s0 a g C ax i z m σ ρ s) (fun m s hI => ?_) m ⟨j, σ, ρ, h, hz, a0⟩
  obtain ⟨j, σ, ρ, h, hz, a1⟩ := hI
  obtain ⟨gs, hgs, hgb, hgo⟩ := a1.go
  have glt : g < s.gens.size := (Array.getElem?_eq_some_iff.mp hgs).1
  have src : ∃ l, σ.os[i]? = some (.list l) ∧ (m = 0 → l.length ≤ j) := by
    cases h.inv with
    | done hs hj _ _ => exact ⟨_, hs, fun _ => hj⟩
    | step em hs _ _ _ _ => exact ⟨_, hs, fun e => absurd (em.symm.trans e) (Nat.succ_ne_zero _)⟩
    | ret _ _ _ _ _ e => cases e
  obtain ⟨l, hl, hl0⟩ := src
  have gk2 : ∀ {x y : GenState} {s1 : Shared}, s1.gens = (s.setGen g x).gens → GK s0 (s1.setGen g y) := fun {x y s1} e => by
    have e2 : (s1.setGen g y).gens = (s.gens.setIfInBounds g x).setIfInBounds g y := by show s1.gens.setIfInBounds g y = _; rw [e]; rfl
    refine ⟨by rw [e2]; simpa using a1.gk.1, fun g' hg' => ?_⟩
    have hne : g ≠ g' := fun e => absurd hg' (Nat.not_lt.mpr (e ▸ a1.gg))
    rw [e2, Array.getElem?_setIfInBounds_ne hne, Array.getElem?_setIfInBounds_ne hne]
    exact a1.gk.2 g' hg'
  refine with_size (raw_pyNext_func (P := fun n s₀ s₁ => IEnd s0.heap.objs.size C ax z n s₀ s₁) cx.hd (G.lim.keeps a1.p.sr.old) cx.dp0 a1.ig hgs hgo (fun v s1 gs' hb' hy _ => ?_) (fun s1 hp h' hk hsz => ?_))
  · obtain ⟨hJ, hJC, hjk, il, hv, kx, mi, hJold, kap⟩ := hy
    rename_i J jx its
    obtain ⟨rl, hsz⟩ := a1.p.sr.list0 a1.axd hl (show s.heap.IsList ax its from il)
    have hjl := (Array.getElem?_eq_some_iff.mp hv).1
    obtain ⟨sr1, fr1, le1, oJ⟩ := a1.step hJ kx hJold
    cases m with
    | zero => exact (kap s1 mi fun its' il' => .inl (Nat.le_trans (Nat.le_of_eq (sr1.list0 a1.axd hl il').2) (Nat.le_trans (hl0 rfl) (Nat.le_of_eq (hz.trans hjk.symm))))).elim
    | succ m =>
    obtain rfl : jx = j := Nat.add_right_cancel ((Nat.succ_add_eq_add_succ jx m).symm.trans (hjk.trans hz.symm))
    cases h.inv with
    | ret _ _ _ _ _ e => cases e
    | done hs hj _ _ =>
      cases hs.symm.trans hl
      exact absurd (Nat.lt_of_lt_of_le hjl (hsz ▸ hj)) (Nat.lt_irrefl _)
    | @step _ _ v' σ1 σ2 em hs hj hb hbd g2 =>
    cases em
    cases hs.symm.trans hl
    obtain ⟨y, hy, ry⟩ := rl.get hj
    rw [Array.getElem?_toList, hv] at hy
    cases hy
    have nJ : ∀ {b}, s0.heap.objs.size ≤ b → b ∉ ownW env := fun hb hm => absurd (a1.own _ (own_sub hm)) (Nat.not_lt.mpr hb)
    have la := Nat.le_trans a1.lC (Nat.le_of_lt a1.Ca)
    have ig1 : s1.heap.IsGen a g := by
      obtain ⟨o, nm, qn, ho, hc, hd, hs⟩ := a1.ig
      refine ⟨o, nm, qn, kx.keep a o (not2 (Nat.ne_of_gt a1.Ca) fun e => ?_) ho, hc, hd, hs⟩
      subst e
      obtain ⟨o', h1, h2, _⟩ := hJold (Heap.lt_size ho)
      rw [show s.heap.get? a = some o' from h1] at ho; cases ho
      rw [hc] at h2; exact absurd (Value.type.inj h2) (by decide)
    have p1 : Pre c fs env σ ρ (s1.setGen g gs') := ⟨sr1.gens (bare_set sr1.bare hb'), fr1.gens, a1.p.nf⟩
    refine letOwnGen (s := s1.setGen g gs') ig1 (snd_bind eo F.toFrSt cx hb p1 ry fun s2 a2 => hbd.r _ _ _ _ _ _ _ eo F cx (p1.next a2) fun ρ3 s3 fo a3 r3 => ?_)
    cases r3
    have l13 : Le c (ownW env) fs ρ (s1.setGen g gs') ρ3 s3 := a2.le.trans a3.le
    obtain ⟨og, nmg, qng, hog, hcg, hdg, hsg⟩ := ig1
    obtain ⟨mc1, oc1, esc, epc, hoc1, hdc1, hrc⟩ := mi.ns
    obtain ⟨oj, hoj, hcj, hdj⟩ := mi.it
    have hax3 : ρ3[i]? = some (ax, ax) := by obtain ⟨e, rfl, _⟩ := l13.pre; exact rho_pre a1.axd
    have kC : s3.heap.Ns C mc1 := ⟨oc1, esc, epc, l13.keep C oc1 hoc1 a1.oC (nJ a1.lC) (a1.ff _ a1.lC), hdc1, hrc⟩
    have glt1 : g < (s1.setGen g gs').gens.size := by
      show g < (s1.gens.setIfInBounds g gs').size
      rw [Array.size_setIfInBounds, kx.gens]
      show g < (s.gens.setIfInBounds g _).size
      rw [Array.size_setIfInBounds]; exact glt
    obtain ⟨l3, hl3, hn3⟩ : ∃ l3, σ2.os[i]? = some (.list l3) ∧ (l3.length ≤ jx + 1 ∨ 0 < m) := by
      cases g2.inv with
      | done hs hj _ _ => exact ⟨_, hs, .inl hj⟩
      | step em hs _ _ _ _ => exact ⟨_, hs, .inr (em ▸ Nat.succ_pos _)⟩
      | ret _ _ _ _ _ e => cases e
    have sr3R : SR c fs ρ3 σ2.os (s3.setGen g .running) := a3.sr.gens (bare_set a3.sr.bare rfl)
    obtain ⟨its3, il3, _⟩ := sr3R.listAt hax3 hl3
    exact ⟨m, Nat.lt_succ_self _, jx + 1, σ2, ρ3, g2, (Nat.succ_add_eq_add_succ jx m).trans hz, ⟨(p1.next a2).next a3, (Le.toG le1).trans l13, (gk2 kx.gens).trans l13.gk, a1.gg, ⟨og, nmg, qng, l13.keep a og hog a1.oa (nJ la) (a1.ff _ la), hcg, hdg, hsg⟩, off_le l13 a1.oa (Heap.lt_size hog), off_le l13 a1.oC (Heap.lt_size hoc1), a1.lC, a1.Ca, a1.own, a1.ff, ⟨_, kC⟩, hax3, a1.h0,
      gs', by
        rw [l13.gl g glt1]
        show (s1.gens.setIfInBounds g gs')[g]? = _
        rw [Array.getElem?_setIfInBounds_self, if_pos]
        have : (s1.setGen g gs').gens.size = s1.gens.size := Array.size_setIfInBounds
        rw [← this]; exact glt1, hb', kap (s3.setGen g .running) ⟨⟨oj, l13.keep J oj hoj oJ (nJ hJ) (a1.ff _ hJ), hcj, hdj⟩, ⟨_, kC⟩, its3, il3⟩ fun its' il' => by rw [(sr3R.list0 hax3 hl3 il').2]; exact hn3⟩⟩
  · obtain ⟨hJ, kx, hit, il, hsz2, hjk⟩ := hp
    rename_i J jx its
    obtain ⟨sr1, fr1, le1, oJ⟩ := a1.step hJ kx hit
    obtain ⟨rl, hsz1⟩ := a1.p.sr.list0 a1.axd hl (show s.heap.IsList ax its from il)
    cases h.inv with
    | ret _ _ _ _ _ e => cases e
    | step _ hs hj _ _ _ =>
      cases hs.symm.trans hl
      have e : jx = j := Nat.add_right_cancel (hjk.trans hz.symm)
      exact absurd (Nat.lt_of_lt_of_le (List.getElem?_eq_some_iff.mp hj).1 (hsz1 ▸ e ▸ hsz2)) (Nat.lt_irrefl _)
    | done hs hj _ e2 =>
    subst e2
    have srE : SR c fs ρ σ'.os { s1.setGen g .finished with heap := h' } := sr1.kept hk (Nat.le_trans a1.p.sr.osz hsz) (bare_set sr1.bare rfl)
    have leE : Le c [C, J] fs ρ (bareS s) ρ { s1.setGen g .finished with heap := h' } :=
      ⟨⟨[], (List.append_nil ρ).symm, fun _ h => nomatch h⟩, hsz, fun b o hb ho hw hn => hk _ _ (kx.keep b o hw hb), fun b o hb ho hw => ⟨o.slots, hk _ _ (kx.keep b o hw hb)⟩, kx.os, fun g h => absurd h (Nat.not_lt_zero _), Nat.zero_le _⟩
    have hV : ∀ d ∈ [C, J], s0.heap.objs.size ≤ d := fun d hd => (List.mem_cons.mp hd).elim (fun e => e ▸ a1.lC) fun hd => List.mem_singleton.mp hd ▸ hJ
    exact wpAny_execs_nil (q ρ _ ((Le.bare' a1.le).freshW (V' := [C, J]) (leE.sup fun x hx => List.mem_append_left _ hx) hV) (gk2 (s1 := { s1 with heap := h' }) kx.gens) srE ((a1.p.fr.gens (gs := #[])).monoW leE fun b hb hm => absurd (a1.own b hb) (Nat.not_lt.mpr (hV b hm))))
theorem s_forSelf (G : Gd c) (F : ItIs c cl f fld fd rn sn fn k p1 p2 p3 p4 p5 p6 p7) (h : EvE c n sc it σ (.obj i) σ') (hi : σ'.os[i]? = some (.inst cl ff)) (hv : ff.lookup fld = some (.obj j)) (hb : BindJ c fd [.obj i] [] σ'.os [(k, .obj i)] σ'.os) (g : ForGo c n sc tg bd (.live j) m 0 σ' .nxt σ'') (hf : ∀ env x, foldedSetIterable it env x = pure x := by exact fun _ _ => rfl) : EvS c n sc (.For tg it bd [] pos) σ .nxt σ'' := by
  refine ⟨?_⟩; intro A env fs ρ s Q E eo FF cx p q
  refine wpAny_For (h.r _ _ _ _ _ _ _ eo cx p fun ρ1 s1 y a1 r1 => ?_) (hf _)
  obtain ⟨l, hj, hz⟩ : ∃ l, σ'.os[j]? = some (.list l) ∧ (l.length = 0 ∨ 0 < m) := by
    cases g.inv with
    | ret _ _ _ _ _ e => cases e
    | done hs hj _ _ => exact ⟨_, hs, .inl (Nat.le_zero.mp hj)⟩
    | step em hs _ _ _ _ => exact ⟨_, hs, .inr (em ▸ Nat.succ_pos _)⟩
  refine snd_selfIter G F hb a1.sr cx.dp10 hi hv hj hz r1 fun ρ2 s2 a gg C ax gs mC l2 sr2 hC hCa ig hg hgs hgb hns hax oa oC go => ?_
  have fr2 : FR c env σ'.vs ρ2 s2 := a1.fr.mono l2
  exact snd_forSelf G eo FF cx g (Nat.zero_add _) ⟨⟨sr2, fr2, p.nf⟩, l2.weaken.noG, l2.gk, hg, ig, oa, oC, hC, hCa, fun b hb => (a1.fr.nof _ hb).2, fun b hb => a1.sr.nofr hb, ⟨mC, hns⟩, hax, a1.sr.osz, gs, hgs, hgb, go _ fs _ cx.hd (sr2.gens (bare_set sr2.bare rfl)) hns⟩ fun ρ3 s3 le3 gk3 sr3 fr3 => q _ _ _ ⟨a1.le.weaken.trans (Le.ofG le3 gk3.1 gk3.2), sr3, fr3⟩ .nxt
end
end Rw
namespace Rw
open PySem PySem.W PySem.Calls PyProof.Rows
section
variable {prog : Program} {w : World} {A : Around} {E : Value → Shared → Prop} {s : Shared} {env : Env}
theorem getItem_tup_upto {t sl : Addr} {items : Array Value} {b : Nat} {u : Tok} {Q : Value → Shared → Prop} (ht : IsTup s.heap t items) (hs : s.heap.IsSliceOf sl .none (.int b u) .none) (hb : b < items.size)
    (h : Q (.ref s.heap.objs.size) { s with heap := s.heap.push { cls := .type "tuple", data := .seq (items.toList.take b).toArray } })
    (hsz : items.size ≤ sizeLine := by size_fits) : wpAny (model prog w) A (getItem (.ref t) (.ref sl)) Q E s := by
  have htake : sizeOk (.seq (items.toList.take b).toArray) := by
    show (items.toList.take b).toArray.size ≤ sizeLine
    rw [List.size_toArray, List.length_take, Array.length_toList]
    omega
  obtain ⟨os, hos, hcs, hds⟩ := id hs
  have hTs : s.TypeIs (.ref sl) "slice" := ⟨os, hos, hcs⟩
  have app : ∀ {A : Around} {E : Value → Shared → Prop} {Q : Int × Int × Nat → Shared → Prop}, Q (0, 1, b) s → wpAny (model prog w) A (Builtin.Slice.sliceApplied (.ref sl) (pure (items.size : Int))) Q E s := fun {A E Q} h => by
    unfold Builtin.Slice.sliceApplied Builtin.Slice.sliceFields
    refine wpAny_bind (wpAny_bind (wpAny_field hos hds (x := .none) rfl (wpAny_bind (wpAny_field hos hds (x := .int b u) rfl (wpAny_bind (wpAny_field hos hds (x := .none) rfl (wpAny_pure ?_)))))))
    refine wpAny_bind (slicePart_none ?_)
    show wpAny _ _ (if ((1 : Int) == 0) = true then _ else _) _ _ s
    rw [if_neg (by decide)]
    refine wpAny_bind (slicePart_none (wpAny_bind (slicePart_int (wpAny_bind (wpAny_pure ?_)))))
    show wpAny _ _ (match Builtin.Slice.sliceAdjust none (some (b : Int)) 1 (items.size : Int) with | (lo, hi) => pure (lo, (1 : Int), Builtin.Slice.slicePlaces lo hi 1)) _ _ s
    have e : Builtin.Slice.sliceAdjust none (some (b : Int)) 1 (items.size : Int) = (0, (b : Int)) := by
      unfold Builtin.Slice.sliceAdjust
      have h1 : ¬ ((1 : Int) < 0) := by omega
      have h2 : ¬ ((b : Int) < 0) := by omega
      simp only [h1, h2, if_false]
      congr 1
      omega
    have e2 : Builtin.Slice.slicePlaces 0 (b : Int) 1 = b := by
      unfold Builtin.Slice.slicePlaces
      have h1 : (1 : Int) > 0 := by omega
      simp only [h1, if_true, Int.ediv_one]
      split <;> omega
    rw [e]
    show wpAny _ _ (pure ((0 : Int), (1 : Int), Builtin.Slice.slicePlaces 0 (b : Int) 1)) _ _ s
    rw [e2]
    exact wpAny_pure h
  unfold getItem
  try with_reducible refine wpAny_holding ?_
  first | refine wpAny_bind (wpAny_pure ?_) | skip
  refine wpAny_bind (wpAny_sequenceKey ht.typeIs (by decide) ?_)
  refine wpAny_bind (wpAny_callSpecial?_slot (name := Str.ofString "__getitem__") ht.typeIs slot_tuple_getitem
    (wpAny_call_entry slot_tuple_getitem ht.typeIs entry_tuple_getitem ?_ (args_tuple_getitem _ _)))
  show wpAny _ _ (Builtin.Tuple.tupleItemsOf (.ref t) >>= _) _ _ s
  refine wpAny_bind (tupleItemsOf_ ht ?_)
  refine wpAny_bind (wpAny_typeOf hTs ?_)
  rw [if_pos (by decide)]
  refine wpAny_bind (app ?_)
  have hno : ¬ (((0 : Int) == 0 && (1 : Int) == 1 && b == items.size) = true) := by
    have : (b == items.size) = false := by rw [beq_eq_false_iff_ne]; omega
    rw [this]; simp
  show wpAny _ _ (if ((0 : Int) == 0 && (1 : Int) == 1 && b == items.size) = true then _ else _) _ _ s
  have pick : ((List.range b).filterMap fun (k : Nat) => items[((0 : Int) + (k : Int) * 1).toNat]?).toArray = (items.toList.take b).toArray := by
    have e : (fun (k : Nat) => items[((0 : Int) + (k : Int) * 1).toNat]?) = fun k => items[0 + k]? := by
      funext k
      have : ((0 : Int) + (k : Int) * 1).toNat = 0 + k := by omega
      rw [this]
    rw [e]
    have := pick_run items 0 b
    rw [List.filterMap_map] at this
    have e2 : ((fun x => items[x]?) ∘ fun x => 0 + x) = fun k => items[0 + k]? := rfl
    rw [e2] at this
    rw [this, List.drop_zero]
  rw [if_neg hno, pick]
  first
    | exact wpAny_bind (m := Builtin.Tuple.tupleExact _) (wpAny_newObj_type (wpAny_pure ⟨_, rfl, wpAny_pure h⟩) htake)
    | exact wpAny_bind (m := Builtin.Tuple.tupleExact _) (wpAny_newObj_type (wpAny_bind (wpAny_pure (wpAny_pure ⟨_, rfl, wpAny_pure h⟩))) htake)
    | exact wpAny_bind (wpAny_bind (m := Builtin.Tuple.tupleExact _) (wpAny_newObj_type (wpAny_pure (wpAny_pure ⟨_, rfl, wpAny_pure h⟩)) htake))
    | exact wpAny_bind (wpAny_bind (m := Builtin.Tuple.tupleExact _) (wpAny_newObj_type (wpAny_pure ⟨_, rfl, wpAny_pure h⟩) htake))
end
section
variable {c : Cx} {n : Nat} {sc : Scope} {a b : Expr} {σ σ' σ'' : Sg} {os : List O} {l : List V} {u v : V} {i : Nat} {p1 pos : Pos} {du dv : PyData} {ds : List PyData}
theorem e_slcL (h1 : EvE c n sc a σ (.obj i) σ') (h2 : EvE c n sc b σ' (.int (1 : Nat)) σ'') (hi : σ''.os[i]? = some (.list l)) (hl : l.length < lim) : EvE c n sc (.Subscript a (.Slice (some b) none none p1) pos) σ (.obj σ''.os.length) ⟨σ''.vs, σ''.os ++ [.list (l.drop 1)]⟩ := by
  refine ⟨?_⟩; intro A env fs ρ s Q E eo cx p q
  refine raw_listSlice (h1.r _ _ _ _ _ _ _ eo cx p fun ρ1 s1 y1 a1 r1 => by
    rw [evalPart_some, evalPart_none]
    exact h2.r _ _ _ _ _ _ _ eo cx (p.next a1) fun ρ2 s2 y2 a2 ⟨t2, r2⟩ => wpAny_pure (by
      subst r2
      obtain ⟨x, its, k, rfl, hp, hg, hr⟩ := list_of a2.sr hi (a2.le.vr r1)
      have a12 := a1.trans a2
      have u1 : Qu s2 { s2 with heap := s2.heap.push { cls := .type "slice", data := .fields #[.int (1 : Nat) t2, .none, .none] } } := Qu.push (t := s2.toks)
      have p3 := ((p.next a12).qu u1)
      have hd : VRs c ρ2 (l.drop 1) (slicePick its (some ((1 : Nat) : Int)) none none).toList := by
        have e : slicePick its (some ((1 : Nat) : Int)) none none = (its.toList.drop 1).toArray := by
          by_cases h : 1 ≤ its.size
          · exact slicePick_from its 1 h
          · have h0 : its = #[] := Array.eq_empty_of_size_eq_zero (by omega)
            subst h0; rfl
        rw [e]; exact hr.drop
      obtain ⟨a4, r4⟩ := new_obj p3 (o := { cls := .type "list", data := .seq (slicePick its (some ((1 : Nat) : Int)) none none) }) (t := s2.toks) (.list (its := slicePick its (some ((1 : Nat) : Int)) none none) (Heap.get?_push_size _ rfl) hd.pre)
      refine ⟨_, its, some ((1 : Nat) : Int), none, rfl, ⟨_, hg, rfl, _, rfl⟩, size_lim (by rw [hr.size]; exact hl), .int _ _, .none, ?_⟩
      have := q _ _ _ ((a12.qu u1).trans a4) r4
      rw [Heap.size_push] at this
      exact this))
theorem e_slcF {j : Nat} (h1 : EvE c n sc a σ (.obj i) σ') (h2 : EvE c n sc b σ' (.int (j : Nat)) σ'') (hi : σ''.os[i]? = some (.tup l)) (hl : l.length < lim) (hj : 1 ≤ j) (hj2 : j ≤ l.length) : EvE c n sc (.Subscript a (.Slice (some b) none none p1) pos) σ (.obj σ''.os.length) ⟨σ''.vs, σ''.os ++ [.tup (l.drop j)]⟩ := by
  refine ⟨?_⟩; intro A env fs ρ s Q E eo cx p q
  refine raw_Slice slot_tuple_getitem.lookup (h1.r _ _ _ _ _ _ _ eo cx p fun ρ1 s1 y1 a1 r1 => wpAny_Slice (by
    rw [evalPart_some]
    refine h2.r _ _ _ _ _ _ _ eo cx (p.next a1) fun ρ2 s2 y2 a2 ⟨t2, r2⟩ => ?_
    rw [evalPart_none]
    refine wpAny_pure (wpAny_pure ?_)
    subst r2
    obtain ⟨x, its, k, rfl, hg, hr⟩ := tup_of a2.sr hi (a2.le.vr r1)
    have a12 := a1.trans a2
    have u1 : Qu s2 { s2 with heap := s2.heap.push { cls := .type "slice", data := .fields #[.int (j : Nat) t2, .none, .none] } } := Qu.push (t := s2.toks)
    have p3 := ((p.next a12).qu u1)
    have ht : IsTup (s2.heap.push { cls := .type "slice", data := .fields #[.int (j : Nat) t2, .none, .none] }) x its := ⟨_, Heap.get?_push_of_some _ hg, rfl, _, rfl⟩
    obtain ⟨a4, r4⟩ := new_obj p3 (o := { cls := .type "tuple", data := .seq (its.toList.drop j).toArray }) (t := s2.toks) (.tup (its := (its.toList.drop j).toArray) (Heap.get?_push_size _ rfl) hr.drop.pre)
    refine ⟨ht.typeIs, getItem_tuple_from ht (Heap.IsSliceOf.new ..) hj (by rw [hr.size]; exact hj2) ?_ (size_lim (by rw [hr.size]; exact hl))⟩
    exact q _ _ _ ((a12.qu u1).trans a4) r4))
theorem e_slcU {j : Nat} (h1 : EvE c n sc a σ (.obj i) σ') (h2 : EvE c n sc b σ' (.int (j : Nat)) σ'') (hi : σ''.os[i]? = some (.tup l)) (hl : l.length < lim) (hj2 : j < l.length) : EvE c n sc (.Subscript a (.Slice none (some b) none p1) pos) σ (.obj σ''.os.length) ⟨σ''.vs, σ''.os ++ [.tup (l.take j)]⟩ := by
  refine ⟨?_⟩; intro A env fs ρ s Q E eo cx p q
  refine raw_Slice slot_tuple_getitem.lookup (h1.r _ _ _ _ _ _ _ eo cx p fun ρ1 s1 y1 a1 r1 => wpAny_Slice (by
    rw [evalPart_none]
    refine wpAny_pure ?_
    rw [evalPart_some]
    refine h2.r _ _ _ _ _ _ _ eo cx (p.next a1) fun ρ2 s2 y2 a2 ⟨t2, r2⟩ => ?_
    refine wpAny_pure ?_
    subst r2
    obtain ⟨x, its, k, rfl, hg, hr⟩ := tup_of a2.sr hi (a2.le.vr r1)
    have a12 := a1.trans a2
    have u1 : Qu s2 { s2 with heap := s2.heap.push { cls := .type "slice", data := .fields #[.none, .int (j : Nat) t2, .none] } } := Qu.push (t := s2.toks)
    have p3 := ((p.next a12).qu u1)
    have ht : IsTup (s2.heap.push { cls := .type "slice", data := .fields #[.none, .int (j : Nat) t2, .none] }) x its := ⟨_, Heap.get?_push_of_some _ hg, rfl, _, rfl⟩
    obtain ⟨a4, r4⟩ := new_obj p3 (o := { cls := .type "tuple", data := .seq (its.toList.take j).toArray }) (t := s2.toks) (.tup (its := (its.toList.take j).toArray) (Heap.get?_push_size _ rfl) hr.take.pre)
    refine ⟨ht.typeIs, getItem_tup_upto ht (Heap.IsSliceOf.new ..) (by rw [hr.size]; exact hj2) ?_ (size_lim (by rw [hr.size]; exact hl))⟩
    exact q _ _ _ ((a12.qu u1).trans a4) r4))
theorem c_notIn (h1 : Dat os u du) (h2 : Dat os v (.list ds)) (h3 : du.canLay0 = true) (h4 : PyData.canLayAll0 ds = true) (hd : du.depth ≤ 40) : CmpJ c .NotIn os u v (!ds.any fun y => PyData.eqv y du) := fun _ _ _ _ _ _ _ _ _ cx sr r1 r2 q =>
  let ⟨_, r1⟩ := h1.reads sr r1
  let ⟨_, r2⟩ := h2.reads sr r2
  SeqAt.notIn_list_reads r2 r1 h4 h3 (by have := cx.hu; have := Nat.min_le_right (PyData.depthAll ds) du.depth; omega) q
theorem eq_dat (h1 : Dat os u du) (h2 : Dat os v dv) (h3 : du.canLay0 = true) (h4 : dv.canLay0 = true) (hd : dv.depth ≤ 40) : EqJ c n u v os (du.eqv dv) := fun _ _ _ _ _ _ _ _ cx sr _ r1 r2 q =>
  let ⟨_, r1⟩ := h1.reads sr r1
  let ⟨_, r2⟩ := h2.reads sr r2
  SeqAt.eqAt_reads du dv _ _ _ _ _ _ r1 r2 h3 h4 (by have := cx.hu; have := Nat.min_le_right du.depth dv.depth; omega) _ _ _ _ (q _ _ .refl sr)
end
end Rw
namespace Rw
open PySem PySem.W PySem.Calls PyProof.Rows
noncomputable def SumO (h : Heap) (S : Addr) (acc : Int) : Prop := ∃ t k, h.get? S = some (listOf #[.int acc t] k)
section
variable {prog : Program} {w : World} {A : Around} {E : Value → Shared → Prop} {s s' s'' : Shared}
theorem raw_sum_loop {R : Result → Shared → Prop} {S I : Addr} (Inv : Nat → Int → Shared → Prop) (hS : ∀ n acc s, Inv n acc s → SumO s.heap S acc)
    (turn : ∀ n acc s (Q : Option Value → Shared → Prop) (E : Value → Shared → Prop), Inv n acc s → (∀ s', (∀ t, R (.ok (.ret (.int acc t))) s') → Q none s') →
      (∀ z t s', SumO s'.heap S acc → (∀ s'', Up S s' s'' → SumO s''.heap S (acc + z) → ∃ m, m < n ∧ Inv m (acc + z) s'') → Q (some (.int z t)) s') → wpAny (model prog w) A.in1 (pyNext (.ref I)) Q E s) :
    ∀ (n : Nat) (acc : Int) (s : Shared) (st : Int), (st = 0 ∨ st = 2) → Inv n acc s → codeAny (model prog w) A (.builtin "sum.loop" ⟨[.ref I, .ref S, rawInt st, rawInt 0], []⟩) R s := by
  intro n
  induction n using Nat.strongRecOn with
  | ind n ih =>
  intro acc s st hst hI
  obtain ⟨tA, c, hS0⟩ := hS _ _ _ hI
  refine codeAny_builtin F.entry_sum_loop ?_
  rw [Around.under_plainId F.plain_sum_loop _]
  show wpAny _ A.in1 (seqItems? (.ref S) >>= _) _ _ s
  refine wpAny_bind (wpAny_seqItems hS0 rfl ?_)
  show wpAny _ A.in1 (tryCatch (pyNext (.ref I)) _ >>= _) _ _ s
  refine wpAny_bind (wpAny_tryCatch (turn n acc s _ _ hI (fun s' h => wpAny_pure (h tA)) fun z t s' hS1 nx => ?_))
  obtain ⟨tB, c', hS'⟩ := hS1
  have upd : ∀ {f : Array Value → Array Value} {tk : Nat}, Up S s' { s' with heap := s'.heap.update S (Obj.mapSeq f), toks := tk } := fun {f tk} => up_of (Heap.SameBut.update ..)
  rcases hst with rfl | rfl
  · show wpAny _ A.in1 (if (_ : Bool) = true then (mkInt (acc + z) >>= _) else _) _ _ _
    split
    · refine wpAny_bind (wpAny_mkInt ?_)
      show wpAny _ A.in1 (updateSeq S (fun _ => #[.int (acc + z) s'.toks]) >>= _) _ _ _
      refine wpAny_bind ?_
      refine wpAny_updateSeq hS' rfl ?_
      obtain ⟨m, hm, hI'⟩ := nx { s' with heap := s'.heap.update S (Obj.mapSeq fun _ => #[.int (acc + z) s'.toks]), toks := s'.toks + 1 } upd ⟨_, _, Heap.get?_update_self _ hS' rfl⟩
      exact wpAny_pure ⟨plainId_quiet F.plain_sum_loop _, ih m hm _ _ 0 (.inl rfl) hI'⟩
    · refine wpAny_bind (wpAny_rule ?_)
      refine wpAny_bind (wpAny_attempt (wpAny_holding (wpAny_add_int ?_)))
      show wpAny _ A.in1 (updateSeq S (fun _ => #[.int (acc + z) s'.toks]) >>= _) _ _ _
      refine wpAny_bind (wpAny_updateSeq hS' rfl ?_)
      have hS₂ := Heap.get?_update_self (Obj.mapSeq fun _ => #[Value.int (acc + z) s'.toks]) hS' rfl
      refine wpAny_bind (wpAny_letGo ?_)
      refine wpAny_bind (wpAny_updateSeq hS₂ rfl ?_)
      have hS₃ := Heap.get?_update_self (Obj.mapSeq fun _ => #[Value.int (acc + z) s'.toks]) hS₂ rfl
      obtain ⟨m, hm, hI'⟩ := nx { s' with heap := (s'.heap.update S (Obj.mapSeq fun _ => #[.int (acc + z) s'.toks])).update S (Obj.mapSeq fun _ => #[.int (acc + z) s'.toks]), toks := s'.toks + 1 } ⟨Nat.le_of_eq (by simp [Heap.update]), fun b o hb e => (Heap.get?_update_other _ _ (Ne.symm hb)).trans ((Heap.get?_update_other _ _ (Ne.symm hb)).trans e), rfl, rfl⟩ ⟨_, _, hS₃⟩
      exact wpAny_pure ⟨plainId_quiet F.plain_sum_loop _, ih m hm _ _ 2 (.inr rfl) hI'⟩
  · show wpAny _ A.in1 ((holding [Value.int z t] (binaryOp .Add (.int acc tA) (.int z t))).attempt >>= _) _ _ _
    refine wpAny_bind (wpAny_attempt (wpAny_holding (wpAny_add_int ?_)))
    show wpAny _ A.in1 (updateSeq S (fun _ => #[.int (acc + z) s'.toks]) >>= _) _ _ _
    refine wpAny_bind (wpAny_updateSeq hS' rfl ?_)
    have hS₂ := Heap.get?_update_self (Obj.mapSeq fun _ => #[Value.int (acc + z) s'.toks]) hS' rfl
    refine wpAny_bind (wpAny_letGo ?_)
    refine wpAny_bind (wpAny_updateSeq hS₂ rfl ?_)
    have hS₃ := Heap.get?_update_self (Obj.mapSeq fun _ => #[Value.int (acc + z) s'.toks]) hS₂ rfl
    obtain ⟨m, hm, hI'⟩ := nx { s' with heap := (s'.heap.update S (Obj.mapSeq fun _ => #[.int (acc + z) s'.toks])).update S (Obj.mapSeq fun _ => #[.int (acc + z) s'.toks]), toks := s'.toks + 1 } ⟨Nat.le_of_eq (by simp [Heap.update]), fun b o hb e => (Heap.get?_update_other _ _ (Ne.symm hb)).trans ((Heap.get?_update_other _ _ (Ne.symm hb)).trans e), rfl, rfl⟩ ⟨_, _, hS₃⟩
    exact wpAny_pure ⟨plainId_quiet F.plain_sum_loop _, ih m hm _ _ 2 (.inr rfl) hI'⟩
theorem raw_sum_gen {I g S : Addr} (hSz : S = s.heap.objs.size) {Q : Value → Shared → Prop} (hg : s.heap.IsGen I g) (Inv : Nat → Int → Shared → Prop) (hS : ∀ n acc s1, Inv n acc s1 → SumO s1.heap S acc)
    (init : ∀ t k tk, ∃ n, Inv n 0 { s with heap := s.heap.push (listOf #[.int 0 t] k), toks := tk })
    (turn : ∀ n acc s1 (Q' : Option Value → Shared → Prop) (E : Value → Shared → Prop), Inv n acc s1 → (∀ s', (∀ t, Q (.int acc t) s') → Q' none s') →
      (∀ z t s', SumO s'.heap S acc → (∀ s'', Up S s' s'' → SumO s''.heap S (acc + z) → ∃ m, m < n ∧ Inv m (acc + z) s'') → Q' (some (.int z t)) s') → wpAny (model prog w) A.in1 (pyNext (.ref I)) Q' E s1) :
    wpAny (model prog w) A (call (.builtin "sum") [.ref I]) Q E s := by
  subst hSz
  refine call_function_tree F.kind_sum F.plain_sum F.entry_sum (F.args_sum1 _) ?_
  unfold Builtin.«sum»
  simp only [List.length_cons, List.length_nil]
  rw [if_neg (by decide)]
  refine wpAny_bind (wpAny_of_eq (show Builtin.Builtins.bindParams "sum" ["start"] 0 { } = pure [none] from rfl) ?_)
  refine wpAny_bind (wpAny_pyIter_gen hg ?_)
  refine wpAny_bind (wpAny_mkInt ?_)
  refine wpAny_bind (wpAny_pure ?_)
  simp only [List.forIn_cons, List.forIn_nil]
  refine wpAny_bind (wpAny_bind (wpAny_bind (wpAny_isInstance (T := "int") (b := false) (typeIs_int _ _ _) PySem.sub_int_str ?_)))
  simp only [Bool.false_eq_true, if_false]
  refine wpAny_pure (wpAny_bind (wpAny_bind (wpAny_isInstance (T := "int") (b := false) (typeIs_int _ _ _) PySem.sub_int_bytes ?_)))
  simp only [Bool.false_eq_true, if_false]
  refine wpAny_pure (wpAny_bind (wpAny_bind (wpAny_isInstance (T := "int") (b := false) (typeIs_int _ _ _) PySem.sub_int_bytearray ?_)))
  simp only [Bool.false_eq_true, if_false]
  refine wpAny_pure (wpAny_pure ?_)
  refine wpAny_bind (wpAny_newObj_type ?_)
  obtain ⟨n, hI⟩ := init s.toks 0 (s.toks + 1)
  refine wpAny_pure ⟨plainId_quiet F.plain_sum_loop _, raw_sum_loop Inv hS (fun n acc s1 Q' E hI h1 h2 => turn n acc s1 Q' E hI (fun s' h => h1 s' h) h2) n 0 _ 0 (.inl rfl) hI⟩
end
end Rw
namespace Rw
open PySem PySem.W PySem.Calls PyProof.Rows
structure NP where
  c : Cx
  A : Around
  fs : List Env
  cenv : Env
  ρ0 : Rho
  s0 : Shared
  (a g C ax i z b S : Nat)
  ob : Obj
  os : List O
  vals : List Int
  (tg it elt : Expr)
  csc : Scope
  pos : Pos
noncomputable def NP.e (P : NP) : Expr := .GeneratorExp P.elt [⟨P.tg, P.it, [], 0⟩] P.csc P.pos
noncomputable def NP.cd (P : NP) : Code := .compLoop P.e 0 (.ref P.a) .none P.cenv
noncomputable def NP.A2 (P : NP) : Around := P.A.over P.cd []
structure NSt (P : NP) (oS : Obj) (k : Nat) (ρ : Rho) (s : Shared) : Prop where
  sr : SR P.c P.fs ρ P.os s
  fr : FR P.c P.cenv (fun _ => none) ρ s
  nf : ∀ x ∈ frA P.fs, P.c.h0.objs.size ≤ x
  le : Le P.c [] P.fs P.ρ0 (bareS P.s0) ρ s
  gk : GK P.s0 s
  gg : P.s0.gens.size ≤ P.g
  ig : s.heap.IsGen P.a P.g
  oa : off P.c ρ P.a
  oC : off P.c ρ P.C
  lC : P.s0.heap.objs.size ≤ P.C
  Ca : P.C < P.a
  aL : P.a < P.cenv.locals
  ff : ∀ x, P.s0.heap.objs.size ≤ x → x ∉ frA P.fs
  cns : ∃ m, s.heap.Ns P.C m
  axd : ρ[P.i]? = some (P.ax, P.ax)
  h0 : P.c.h0.objs.size ≤ P.s0.heap.objs.size
  hb : s.heap.get? P.b = some P.ob
  cb : P.ob.cls = .type "generator"
  hS : s.heap.get? P.S = some oS
  cS : ∃ its kk, oS = listOf its kk
  ofb : off P.c ρ P.b
  ofS : off P.c ρ P.S
  Lb : P.cenv.locals < P.b
  bS : P.b < P.S
  go : ∃ (gs : GenState) (V : List Addr) (X : Heap → Prop), s.gens[P.g]? = some gs ∧ gs.bare = true ∧ (∀ x ∈ V, off P.c ρ x ∧ P.s0.heap.objs.size ≤ x ∧ x ≠ P.cenv.locals ∧ x ≠ P.S ∧ x < s.heap.objs.size) ∧ X s.heap ∧ (∀ h h' : Heap, X h → (∀ y ∈ V, ∀ o, h.get? y = some o → h'.get? y = some o) → X h') ∧
    ∀ fs' s'', SR P.c fs' ρ P.os s'' → X s''.heap → gs.Goes (model P.c.prog P.c.w) P.A2.in1 (IFin P.s0.heap.objs.size P.C P.ax P.z) (IYield P.s0.heap.objs.size P.C P.ax P.z) k (.send .none) s''
section
variable {P : NP} {E : Value → Shared → Prop} {n m j k : Nat} {ρ ρ' : Rho} {s s' s'' sg : Shared} {W : List Addr} {v : V} {x y : Value} {J : Addr} {oS oS' : Obj}
theorem SR.same {c : Cx} {fs : List Env} {os : List O} {s0 : Shared} (sr : SR c fs ρ os s) (sr' : SR c fs ρ' os s') (l : Le c W fs ρ s0 ρ' s'') : ρ' = ρ := by
  obtain ⟨e, rfl, _⟩ := l.pre
  have h := sr'.len
  rw [List.length_append, sr.len] at h
  have : e = [] := List.eq_nil_of_length_eq_zero (by omega)
  rw [this, List.append_nil]
theorem NSt.own (N : NSt P oS k ρ s) (hc : ownA P.cenv = [P.cenv.locals]) (hJ : J < s.heap.objs.size → s.heap.IsListIter J P.ax j) : ∀ d ∈ ownA P.cenv, d ∉ [P.C, J] := fun d hd hm => by
  rw [hc] at hd
  cases List.mem_singleton.mp hd
  rcases List.mem_cons.mp hm with e | hm
  · exact absurd e (Nat.ne_of_gt (Nat.lt_trans N.Ca N.aL))
  · have e := List.mem_singleton.mp hm
    obtain ⟨m, ⟨o, es, ep, h1, h2, _⟩, _⟩ := N.fr.ns
    obtain ⟨o', h3, _, h4⟩ := hJ (e ▸ Heap.lt_size h1)
    rw [e] at h1
    rw [h1] at h3; cases h3
    rw [h2] at h4; cases h4
theorem NSt.apart (N : NSt P oS k ρ s) (hJ : J < s.heap.objs.size → s.heap.IsListIter J P.ax j) : P.a ∉ [P.C, J] ∧ P.b ∉ [P.C, J] ∧ P.S ∉ [P.C, J] ∧ J ≠ P.S ∧ J ≠ P.cenv.locals := by
  have key : ∀ {d : Addr} {o : Obj}, s.heap.get? d = some o → o.cls ≠ .type "list_iterator" → d ≠ J := fun {d o} h1 h2 e => by
    subst e
    obtain ⟨o', h3, h4, _⟩ := hJ (Heap.lt_size h1)
    rw [h1] at h3; cases h3
    exact h2 h4
  have h1 := N.Ca
  have h2 := N.aL
  have h3 := N.Lb
  have h4 := N.bS
  obtain ⟨o, nm, qn, ho, hc, _⟩ := N.ig
  have jS := key N.hS (by obtain ⟨_, _, e⟩ := N.cS; rw [e]; exact fun e => absurd (Value.type.inj e) (by decide))
  refine ⟨not2 (Nat.ne_of_gt h1) (key ho (by rw [hc]; exact fun e => absurd (Value.type.inj e) (by decide))), not2 (Nat.ne_of_gt (Nat.lt_trans h1 (Nat.lt_trans h2 h3))) (key N.hb (by rw [N.cb]; exact fun e => absurd (Value.type.inj e) (by decide))), not2 (Nat.ne_of_gt (Nat.lt_trans h1 (Nat.lt_trans h2 (Nat.lt_trans h3 h4)))) jS, Ne.symm jS, fun e => ?_⟩
  obtain ⟨m, ⟨o, es, ep, h1, h2, _⟩, _⟩ := N.fr.ns
  obtain ⟨o', h3, _, h4⟩ := hJ (e ▸ Heap.lt_size h1)
  rw [e, h1] at h3; cases h3
  rw [h2] at h4; cases h4
theorem NSt.step (N : NSt P oS k ρ s) (hc : ownA P.cenv = [P.cenv.locals]) (hJ : P.s0.heap.objs.size ≤ J) (kx : KX [P.C, J] (s.setGen P.g .running) s') (hit : J < s.heap.objs.size → s.heap.IsListIter J P.ax j) :
    SR P.c P.fs ρ P.os s' ∧ FR P.c P.cenv (fun _ => none) ρ s' ∧ Le P.c [] P.fs P.ρ0 (bareS P.s0) ρ s' ∧ off P.c ρ J := by
  obtain ⟨d1, d2⟩ := iter_apart N.sr (Nat.le_trans N.h0 hJ) hit
  have srR : SR P.c P.fs ρ P.os (s.setGen P.g .running) := N.sr.gens (bare_set N.sr.bare rfl)
  have frR : FR P.c P.cenv (fun _ => none) ρ (s.setGen P.g .running) := N.fr.gens
  have hV : ∀ d ∈ [P.C, J], P.s0.heap.objs.size ≤ d := fun d hd => (List.mem_cons.mp hd).elim (fun e => e ▸ N.lC) fun hd => List.mem_singleton.mp hd ▸ hJ
  obtain ⟨mC, oC, es, ep, h1, h2, _⟩ := N.cns
  refine ⟨srR.upX kx fun d hd => ⟨fun o ho => ?_, ?_, N.ff _ (hV d hd), Nat.le_trans N.h0 (hV d hd)⟩, frR.monoW (kx.leW (fs := P.fs)) (N.own hc hit), (Le.toG N.le).freshW (V' := [P.C, J]) ((kx.leW (fs := P.fs)).sup fun x hx => List.mem_append_left _ hx) hV, d2⟩
  · rcases List.mem_cons.mp hd with e | hd
    · subst e
      rw [show s.heap.get? P.C = some o from ho] at h1; cases h1
      exact tame_dict h2
    · exact d1 o (List.mem_singleton.mp hd ▸ ho)
  · rcases List.mem_cons.mp hd with rfl | hd
    · exact N.oC
    · exact List.mem_singleton.mp hd ▸ d2
noncomputable def NYield (P : NP) : Protocol := fun k s₀ v s κ =>
  ∃ ρ oS x t, s₀.heap.get? P.S = some oS ∧ s₀.gens.size ≤ s.gens.size ∧ v = .int x t ∧ P.vals[P.z - (k + 1)]? = some x ∧ k + 1 ≤ P.z ∧ NSt P oS k ρ s ∧ ∀ oS' ρ2 s2, NSt P oS' k ρ2 s2 → κ (.send .none) s2
inductive NEnd (P : NP) (n : Nat) (s : Shared) : Prop
  | mk (ρ : Rho) : SR P.c P.fs ρ P.os s → Le P.c [] P.fs P.ρ0 (bareS P.s0) ρ s → GK P.s0 s → n = 0 → NEnd P n s
abbrev NFin (P : NP) : GenEnd := fun n _ r s₁ => r = .ok .next ∧ NEnd P n s₁
end
end Rw
namespace Rw
open PySem PySem.W PySem.Calls PyProof.Rows
theorem ar21 {j z : Nat} (h : j + 1 + 0 = z) : z ≤ j + 1 := Nat.le_of_eq (h.symm)
theorem ar22 {j k z : Nat} (h : j + 1 + k = z) : j = z - (k + 1) ∧ j < z ∧ k + 1 ≤ z := by omega
theorem ar23 {j k z : Nat} (h : j + 1 + k = z) : z ≤ j + 1 ∨ 0 < k := by omega
theorem ar24 {a j n z : Nat} (h : a ≤ j) (h2 : j + n = z) (h3 : a = z) : n = 0 := by omega
section
variable {P : NP} {E : Value → Shared → Prop} {n m j k : Nat} {ρ ρ' : Rho} {s s' s'' sg : Shared} {W : List Addr} {v : V} {J : Addr} {oS oS' : Obj} {l : List V}
theorem NSt.gk2 (N : NSt P oS k ρ s) {x y : GenState} {s1 : Shared} (e : s1.gens = (s.setGen P.g x).gens) : GK P.s0 (s1.setGen P.g y) := by
  have e2 : (s1.setGen P.g y).gens = (s.gens.setIfInBounds P.g x).setIfInBounds P.g y := by show s1.gens.setIfInBounds P.g y = _; rw [e]; rfl
  refine ⟨by rw [e2]; simpa using N.gk.1, fun g' hg' => ?_⟩
  have hne : P.g ≠ g' := fun e => absurd hg' (Nat.not_lt.mpr (e ▸ N.gg))
  rw [e2, Array.getElem?_setIfInBounds_ne hne, Array.getElem?_setIfInBounds_ne hne]
  exact N.gk.2 g' hg'
theorem nseg_turns (G : Gd P.c) (eo : EnvOk P.csc P.cenv) (F : FrSt P.c P.cenv) (ow : ownW P.cenv = [P.cenv.locals]) (oa : ownA P.cenv = [P.cenv.locals]) (hfm : P.cenv.frame = some P.cenv.locals) (hsk : P.cenv.scope = P.csc) (hco : P.csc.isCoroutine = false)
    (cx : Ctx P.A2 (P.cenv :: P.fs) n) (hl : P.os[P.i]? = some (.list l)) (hz : P.z = l.length)
    (hv : ∀ (j : Nat) v, l[j]? = some v → ∃ σ1 x vs2, BindT P.c P.csc P.tg v ⟨fun _ => none, P.os⟩ σ1 ∧ EvE P.c n P.csc P.elt σ1 (.int x) ⟨vs2, P.os⟩ ∧ P.vals[j]? = some x) :
    ∀ {k : Nat} {ρ : Rho} {sg s : Shared} {oS : Obj}, NSt P oS k ρ s → sg.heap.get? P.S = some oS → sg.gens.size ≤ s.gens.size →
      Seg (model P.c.prog P.c.w) P.A (NFin P) (NYield P) k sg
        P.cd ((model P.c.prog P.c.w).den P.cd) [] s := by
  intro k
  induction k using Nat.strongRecOn with
  | ind k ih =>
  intro ρ sg s oS N hsg hgz
  show Seg _ P.A _ _ _ sg _ ((compTurn P.e 0 (.ref P.a) .none P.cenv).onRaise (leaving P.cenv)) [] s
  unfold NP.e
  rw [compTurn_gen, Sem.onRaise_eq_wrap]
  refine seg_bind_wrap (wpAny_standAt ?_)
  obtain ⟨gs, V, X, hgs, hgb, hV, hX, hXs, hgo⟩ := N.go
  have glt : P.g < s.gens.size := (Array.getElem?_eq_some_iff.mp hgs).1
  have srR : SR P.c P.fs ρ P.os (s.setGen P.g .running) := N.sr.gens (bare_set N.sr.bare rfl)
  refine seg_bind_wrap (with_size (raw_pyNext_func (P := fun n s₀ s₁ => IEnd P.s0.heap.objs.size P.C P.ax P.z n s₀ s₁) cx.hd (G.lim.keeps N.sr.old) (show P.A2.depth < _ from Nat.lt_of_le_of_lt (Nat.le_trans (Nat.le_add_right _ _) (Nat.le_add_right _ 10)) cx.dp) N.ig hgs (hgo P.fs _ srR hX) (fun v s1 gs' hb' hy _ => ?_) (fun s1 hp h' hk hsz => ?_)))
  · obtain ⟨hJ, hJC, hjk, il, hvv, kx, mi, hJold, kap⟩ := hy
    rename_i J jx its
    obtain ⟨rl, hsz⟩ := N.sr.list0 N.axd hl (show s.heap.IsList P.ax its from il)
    have hjl := (Array.getElem?_eq_some_iff.mp hvv).1
    obtain ⟨sr1, fr1, le1, oJ⟩ := N.step oa hJ kx hJold
    obtain ⟨na, nb, nS, nJS, nJL⟩ := N.apart hJold
    cases k with
    | zero => exact (kap s1 mi fun its' il' => .inl ((sr1.list0 N.axd hl il').2 ▸ hz ▸ ar21 hjk)).elim
    | succ k =>
    obtain ⟨ejx, jz, kz⟩ := ar22 (k := k) hjk
    obtain ⟨v', hv'⟩ : ∃ v', l[jx]? = some v' := ⟨_, List.getElem?_eq_getElem (hz ▸ jz)⟩
    obtain ⟨y, hy, ry⟩ := rl.get hv'
    rw [Array.getElem?_toList, hvv] at hy
    cases hy
    obtain ⟨σ1, w, vs2, hb, he, hw⟩ := hv jx v' hv'
    have keep1 : ∀ {d : Addr} {o : Obj}, d ∉ [P.C, J] → s.heap.get? d = some o → s1.heap.get? d = some o := fun h e => kx.keep _ _ h e
    have ig1 : s1.heap.IsGen P.a P.g := by
      obtain ⟨o, nm, qn, ho, hc, hd, hs⟩ := N.ig
      exact ⟨o, nm, qn, keep1 na ho, hc, hd, hs⟩
    have sr1' : SR P.c P.fs ρ P.os (s1.setGen P.g gs') := sr1.gens (bare_set sr1.bare hb')
    have fr1' : FR P.c P.cenv (fun _ => none) ρ (s1.setGen P.g gs') := fr1.gens
    have hL : P.c.h0.objs.size ≤ P.cenv.locals := F.lo _ (ow ▸ .head _)
    obtain ⟨mL, nsL, _⟩ := fr1'.ns
    have pE : Pre P.c (P.cenv :: P.fs) P.cenv ⟨fun _ => none, P.os⟩ ρ (s1.setGen P.g gs') := ⟨sr1'.enterAt hfm (fr1'.nof _ (.head _)).1 hL (by rw [F.md]; decide) ⟨mL, nsL⟩, fr1', fun d hb => by
      rw [frA_cons hfm] at hb
      exact (List.mem_cons.mp hb).elim (fun e => e ▸ hL) (N.nf d)⟩
    refine seg_bind_wrap (wpAny_mono (letOwnGen (s := s1.setGen P.g gs') ig1 (snd_bind eo F cx hb pE ry fun s2 a2 => snd_tests eo cx .nil (pE.next a2) fun ρ3 s3 a3 => ?_)) (fun _ s2 h => seg_bind_wrap (wpAny_mono h (fun _ s3 h => seg_bind_wrap h) fun _ _ e => e)) fun _ _ e => e)
    rw [if_pos rfl]
    have hyo : ∀ v, yieldOut P.cenv v = yieldValue v := fun v => by unfold yieldOut; rw [hsk, hco]; rfl
    simp only [hyo]
    rw [Sem.bind_eq_wrap', Sem.bind_eq_wrap', Sem.wrap_wrap, Sem.wrap_wrap]
    refine seg_wrap (he.r _ _ _ _ _ _ _ eo cx ((pE.next a2).next a3) fun ρ4 s4 y4 a4 r4 => ?_)
    obtain ⟨t4, rfl⟩ := r4
    have lE : Le P.c (ownW P.cenv) (P.cenv :: P.fs) ρ (s1.setGen P.g gs') ρ4 s4 := (a2.le.trans a3.le.weaken).trans a4.le.weaken
    obtain rfl := sr1'.same (a4.sr.leave hfm) (lE.leave hfm)
    have l14 : Le P.c [P.cenv.locals] P.fs ρ4 (s1.setGen P.g gs') ρ4 s4 := (lE.leave hfm).sup fun x hx => (List.mem_cons.mp hx).elim (fun e => e ▸ .head _) fun h => ow ▸ h
    have keep4 : ∀ {d : Addr} {o : Obj}, P.s0.heap.objs.size ≤ d → d ≠ P.cenv.locals → off P.c ρ4 d → s1.heap.get? d = some o → s4.heap.get? d = some o := fun h1 h2 h3 e => l14.keep _ _ e h3 (fun hm => h2 (List.mem_singleton.mp hm)) (N.ff _ h1)
    have zC := N.lC
    have za := Nat.le_trans zC (Nat.le_of_lt N.Ca)
    have zL := Nat.le_trans za (Nat.le_of_lt N.aL)
    have zb := Nat.le_trans zL (Nat.le_of_lt N.Lb)
    have zS := Nat.le_trans zb (Nat.le_of_lt N.bS)
    obtain ⟨mc1, oc1, esc, epc, hoc1, hdc1, hrc⟩ := mi.ns
    obtain ⟨oj, hoj, hcj, hdj⟩ := mi.it
    have kC : s4.heap.Ns P.C mc1 := ⟨oc1, esc, epc, keep4 zC (Nat.ne_of_lt (Nat.lt_trans N.Ca N.aL)) N.oC hoc1, hdc1, hrc⟩
    have kJ : s4.heap.IsListIter J P.ax (jx + 1) := ⟨oj, keep4 hJ nJL oJ hoj, hcj, hdj⟩
    have glt1 : P.g < (s1.setGen P.g gs').gens.size := by
      show P.g < (s1.gens.setIfInBounds P.g gs').size
      rw [Array.size_setIfInBounds, kx.gens]
      show P.g < (s.gens.setIfInBounds P.g _).size
      rw [Array.size_setIfInBounds]; exact glt
    have gz1 : s.gens.size = (s1.setGen P.g gs').gens.size := by
      show _ = (s1.gens.setIfInBounds P.g gs').size
      rw [Array.size_setIfInBounds, kx.gens]
      show _ = (s.gens.setIfInBounds P.g _).size
      rw [Array.size_setIfInBounds]
    have N4 : NSt P oS k ρ4 s4 := by
      refine ⟨a4.sr.leave hfm, a4.fr.sub (fun _ _ h => nomatch h), N.nf, (Le.toG le1).freshW (V' := [P.cenv.locals]) l14 (fun x hx => List.mem_singleton.mp hx ▸ zL), (N.gk2 kx.gens).trans l14.gk, N.gg, ?_, N.oa, N.oC, N.lC, N.Ca, N.aL, N.ff, ⟨_, kC⟩, N.axd, N.h0, keep4 zb (Nat.ne_of_gt N.Lb) N.ofb (keep1 nb N.hb), N.cb, keep4 zS (Nat.ne_of_gt (Nat.lt_trans N.Lb N.bS)) N.ofS (keep1 nS N.hS), N.cS, N.ofb, N.ofS, N.Lb, N.bS,
        gs', [P.C, J], fun h => h.IsListIter J P.ax (jx + 1) ∧ ∃ m, h.Ns P.C m, ?_, hb', fun x hx => ?_, ⟨kJ, _, kC⟩, fun h h' ⟨⟨o1, q1, q2⟩, m, o2, e2, p2, q3, q4⟩ hk => ⟨⟨o1, hk _ (.tail _ (.head _)) _ q1, q2⟩, m, o2, e2, p2, hk _ (.head _) _ q3, q4⟩, fun fs' s'' sr'' ⟨hx1, hx2⟩ => ?_⟩
      · obtain ⟨o, nm, qn, ho, hc, hd, hs⟩ := ig1
        exact ⟨o, nm, qn, keep4 za (Nat.ne_of_lt N.aL) N.oa ho, hc, hd, hs⟩
      · rw [l14.gl P.g glt1]
        show (s1.gens.setIfInBounds P.g gs')[P.g]? = _
        rw [Array.getElem?_setIfInBounds_self, if_pos]
        have : (s1.setGen P.g gs').gens.size = s1.gens.size := Array.size_setIfInBounds
        rw [← this]; exact glt1
      · rcases List.mem_cons.mp hx with e | hx
        · subst e
          exact ⟨N.oC, zC, Nat.ne_of_lt (Nat.lt_trans N.Ca N.aL), Nat.ne_of_lt (Nat.lt_trans N.Ca (Nat.lt_trans N.aL (Nat.lt_trans N.Lb N.bS))), kC.lt⟩
        · cases List.mem_singleton.mp hx
          exact ⟨oJ, hJ, nJL, nJS, Heap.lt_size (keep4 hJ nJL oJ hoj)⟩
      · obtain ⟨its2, il2, _⟩ := sr''.listAt N.axd hl
        exact kap s'' ⟨hx1, hx2, its2, il2⟩ fun its' il' => by
          rw [(sr''.list0 N.axd hl il').2, ← hz]
          exact ar23 hjk
    refine seg_at (seg_yield rfl rfl rfl ⟨ρ4, oS, w, t4, hsg, Nat.le_trans hgz (Nat.le_trans (Nat.le_of_eq gz1) l14.gsz), rfl, ejx ▸ hw, kz, N4, fun oS' ρ5 s5 N5 => ?_⟩)
    exact seg_again rfl (ih _ (Nat.lt_succ_self _) N5 N5.hS (Nat.le_refl _))
  · obtain ⟨hJ, kx, hit, il, hsz2, hjk⟩ := hp
    rename_i J jx its
    obtain ⟨sr1, fr1, le1, oJ⟩ := N.step oa hJ kx hit
    obtain ⟨rl, hsz1⟩ := N.sr.list0 N.axd hl (show s.heap.IsList P.ax its from il)
    have srE : SR P.c P.fs ρ P.os { s1.setGen P.g .finished with heap := h' } := sr1.kept hk (Nat.le_trans N.sr.osz hsz) (bare_set sr1.bare rfl)
    have leE : Le P.c [P.C, J] P.fs ρ (bareS s) ρ { s1.setGen P.g .finished with heap := h' } :=
      ⟨⟨[], (List.append_nil ρ).symm, fun _ h => nomatch h⟩, hsz, fun d o hb ho hw hn => hk _ _ (kx.keep d o hw hb), fun d o hb ho hw => ⟨o.slots, hk _ _ (kx.keep d o hw hb)⟩, kx.os, fun _ h => absurd h (Nat.not_lt_zero _), Nat.zero_le _⟩
    have hV : ∀ d ∈ [P.C, J], P.s0.heap.objs.size ≤ d := fun d hd => (List.mem_cons.mp hd).elim (fun e => e ▸ N.lC) fun hd => List.mem_singleton.mp hd ▸ hJ
    exact seg_end (.ok .next) ⟨rfl, .mk ρ srE ((Le.bare' N.le).freshW (V' := [P.C, J]) (leE.sup fun x hx => List.mem_append_left _ hx) hV) (N.gk2 (s1 := { s1 with heap := h' }) kx.gens) (ar24 hsz2 hjk (hsz1.trans hz.symm))⟩
end
end Rw
namespace Rw
open PySem PySem.W PySem.Calls PyProof.Rows
section
variable {P : NP} {E : Value → Shared → Prop} {n m j k : Nat} {ρ ρ' : Rho} {s s' s'' sg : Shared} {W : List Addr} {v : V} {J : Addr} {oS oS' : Obj} {l : List V}
theorem nseg_start (G : Gd P.c) (eo : EnvOk P.csc P.cenv) (F : FrSt P.c P.cenv) (ow : ownW P.cenv = [P.cenv.locals]) (oa : ownA P.cenv = [P.cenv.locals]) (hfm : P.cenv.frame = some P.cenv.locals) (hsk : P.cenv.scope = P.csc) (hco : P.csc.isCoroutine = false)
    (cx : Ctx P.A2 (P.cenv :: P.fs) n) (hl : P.os[P.i]? = some (.list l)) (hz : P.z = l.length)
    (hv : ∀ (j : Nat) v, l[j]? = some v → ∃ σ1 x vs2, BindT P.c P.csc P.tg v ⟨fun _ => none, P.os⟩ σ1 ∧ EvE P.c n P.csc P.elt σ1 (.int x) ⟨vs2, P.os⟩ ∧ P.vals[j]? = some x) (N : NSt P oS k ρ s) (hsg : sg.heap.get? P.S = some oS) (hgz : sg.gens.size ≤ s.gens.size) :
    Seg (model P.c.prog P.c.w) P.A (NFin P) (NYield P) k sg
      (.compStart P.e 0 (.ref P.a) .none P.cenv) ((model P.c.prog P.c.w).den (.compStart P.e 0 (.ref P.a) .none P.cenv)) [] s := by
  have loop := nseg_turns G eo F ow oa hfm hsk hco cx hl hz hv N hsg hgz
  show Seg _ P.A _ _ _ sg _ ((compStart P.e 0 (.ref P.a) .none P.cenv).onRaise (leaving P.cenv)) [] s
  unfold NP.e compStart
  rw [Sem.onRaise_eq_wrap]
  show Seg _ P.A _ _ _ sg _ ((ask >>= _).wrap _ _ _ _) [] s
  refine seg_bind_wrap (wpAny_askSetting ?_)
  split
  · exact seg_again rfl loop
  · refine seg_bind_wrap (wpAny_rule ?_)
    show Seg _ P.A _ _ _ sg _ ((standAt P.it.pos >>= _).wrap _ _ _ _) [] s
    exact seg_bind_wrap (wpAny_standAt (seg_bind_wrap (wpAny_pyIter_gen N.ig (seg_again rfl loop))))
theorem NSt.on (N : NSt P oS k ρ s) (oa : ownA P.cenv = [P.cenv.locals]) (h0 : P.s0.heap.objs.size ≤ P.cenv.locals) (u : Up P.S s { s' with gens := s.gens }) (hg : s'.gens[P.g]? = s.gens[P.g]?) (hgk : GK P.s0 s') (hbr : AllBare s'.gens) (hS : s'.heap.get? P.S = some oS') (cS : ∃ its kk, oS' = listOf its kk) : NSt P oS' k ρ s' := by
  have zS : P.s0.heap.objs.size ≤ P.S := Nat.le_trans h0 (Nat.le_trans (Nat.le_of_lt N.Lb) (Nat.le_of_lt N.bS))
  have kp : ∀ {d : Addr} {o : Obj}, d < P.S → s.heap.get? d = some o → s'.heap.get? d = some o := fun h e => u.keep _ _ (Nat.ne_of_lt h) e
  have lS : Le P.c [P.S] P.fs ρ s ρ { s' with gens := s.gens } := u.leW
  have lT : Le P.c [P.S] P.fs ρ (bareS s) ρ s' := ⟨lS.pre, lS.sz, lS.keep, lS.frm, lS.os, fun _ h => absurd h (Nat.not_lt_zero _), Nat.zero_le _⟩
  have tS : tame oS := by
    obtain ⟨_, _, e⟩ := N.cS
    exact ⟨(fun h => by rw [e] at h; cases h), fun _ h => by rw [e] at h; cases h⟩
  have sr1 : SR P.c P.fs ρ P.os { s' with gens := s.gens } := N.sr.upd u N.hS tS (Nat.le_trans N.h0 zS) (fun hf => absurd hf (N.ff _ zS)) rfl fun i o hi => .inl ⟨hi, fun q hq => N.ofS.1 q (mem2 hq)⟩
  have fr1 : FR P.c P.cenv (fun _ => none) ρ { s' with gens := s.gens } := N.fr.monoW lS fun d hd hm => by
    rw [oa] at hd
    cases List.mem_singleton.mp hd
    exact absurd (List.mem_singleton.mp hm) (Nat.ne_of_lt (Nat.lt_trans N.Lb N.bS))
  have aS : P.a < P.S := Nat.lt_trans N.aL (Nat.lt_trans N.Lb N.bS)
  obtain ⟨gs, V, X, hgs, hgb, hV, hX, hXs, hgo⟩ := N.go
  refine ⟨sr1.gens hbr, fr1.gens, N.nf, ((Le.bare' N.le).freshW (V' := [P.S]) lT fun x hx => List.mem_singleton.mp hx ▸ zS), hgk, N.gg, ?_, N.oa, N.oC, N.lC, N.Ca, N.aL, N.ff, ?_, N.axd, N.h0, kp N.bS N.hb, N.cb, hS, cS, N.ofb, N.ofS, N.Lb, N.bS,
    gs, V, X, hg.trans hgs, hgb, fun x hx => ⟨(hV x hx).1, (hV x hx).2.1, (hV x hx).2.2.1, (hV x hx).2.2.2.1, Nat.lt_of_lt_of_le (hV x hx).2.2.2.2 u.sz⟩, hXs _ _ hX fun x hx o e => u.keep _ _ (hV x hx).2.2.2.1 e, hXs, hgo⟩
  · obtain ⟨o, nm, qn, ho, hc, hd, hs⟩ := N.ig
    exact ⟨o, nm, qn, kp aS ho, hc, hd, hs⟩
  · obtain ⟨m, o, es, ep, h1, r⟩ := N.cns
    exact ⟨m, o, es, ep, kp (Nat.lt_trans N.Ca aS) h1, r⟩
end
end Rw
namespace Rw
open PySem PySem.W PySem.Calls PyProof.Rows
section
variable {c : Cx} {A A2 : Around} {E : Value → Shared → Prop} {n m : Nat} {sc csc : Scope} {tg it elt : Expr} {ρ ρ' ρ'' ρ0 : Rho} {s s' s'' s0 sg : Shared} {fs : List Env} {os os' : List O} {env cenv : Env} {W Vs : List Addr} {σ σ' σ'' : Sg} {vs : Nat → Option V} {i i0 j k kk g g2 z cl f fld b S : Nat} {ff : List (Nat × V)} {l : List V} {v : V} {x y : Value} {pos pos1 fp pr : Pos} {C ax J a : Addr} {ob oS oS' : Obj} {vals : List Int} {fd : FuncData} {rn sn fn : Str} {p1 p2 p3 p4 p5 p6 p7 : Pos}
theorem Ctx.gen2 {e : Expr} {k : Nat} {it acc : Value} (x : Ctx A fs (n + 1)) (hg : (Code.compLoop e k it acc cenv).isFrame = true) (hw : (Code.compLoop e k it acc cenv).weight = 1) (hu : (Code.compLoop e k it acc cenv).cUnits = 3) : Ctx (A.in1.in1.over (.compLoop e k it acc cenv) []) (cenv :: fs) n := by
  refine ⟨x.hd, ?_, ?_, ?_⟩
  · have := x.dp
    show A.depth + 0 + (Code.compLoop e k it acc cenv).weight + _ + _ < _
    rw [hw]; omega
  · have := x.un
    show A.units + 1 + 1 + 0 + (Code.compLoop e k it acc cenv).cUnits + _ + _ < _
    rw [hu]; omega
  · show pushEnvs (Code.compLoop e k it acc cenv).envs (pushEnvs [] A.frames) = _
    rw [x.fr]
    unfold Code.envs
    rw [hg]
    rfl
theorem take_sum {vals : List Int} {i : Nat} {x : Int} (h : vals[i]? = some x) : (vals.take (i + 1)).sum = (vals.take i).sum + x := by
  rw [List.take_add_one, h, List.sum_append]; simp
inductive NInv (P : NP) (A : Around) (g2 k : Nat) (acc : Int) (s : Shared) : Prop
  | mk (ρ : Rho) (oS : Obj) (gs : GenState) : SumO s.heap P.S acc → s.gens[g2]? = some gs → gs.bare = true → k ≤ P.z → acc = (P.vals.take (P.z - k)).sum → NSt P oS k ρ s → (∀ oS' ρ' s', NSt P oS' k ρ' s' → gs.Goes (model P.c.prog P.c.w) A.in1.in1 (NFin P) (NYield P) k (.send .none) s') → NInv P A g2 k acc s
theorem NSt.setG {P : NP} {x : GenState} {k : Nat} {oS : Obj} (oa : ownA P.cenv = [P.cenv.locals]) (h0 : P.s0.heap.objs.size ≤ P.cenv.locals) (hgg : P.s0.gens.size ≤ g2) (hne : g2 ≠ P.g) (hx : x.bare = true) (N : NSt P oS k ρ s) : NSt P oS k ρ (s.setGen g2 x) := by
  refine N.on oa h0 (s' := s.setGen g2 x) ⟨Nat.le_refl _, fun _ _ _ e => e, rfl, rfl⟩ ?_ ⟨?_, fun g' hg' => ?_⟩ (bare_set N.sr.bare hx) N.hS N.cS
  · show (s.gens.setIfInBounds g2 x)[P.g]? = _
    rw [Array.getElem?_setIfInBounds_ne hne]
  · show _ ≤ (s.gens.setIfInBounds g2 x).size
    rw [Array.size_setIfInBounds]; exact N.gk.1
  · show (s.gens.setIfInBounds g2 x)[g']? = _
    rw [Array.getElem?_setIfInBounds_ne (Nat.ne_of_gt (Nat.lt_of_lt_of_le hg' hgg))]
    exact N.gk.2 g' hg'
theorem ar20 {z k : Nat} (h : k + 1 ≤ z) : z - k = z - (k + 1) + 1 := by rw [Nat.sub_add_eq, Nat.sub_add_cancel (Nat.sub_pos_of_lt h)]
theorem nsum {P : NP} (G : Gd P.c) (eo : EnvOk P.csc P.cenv) (F : FrSt P.c P.cenv) (ow : ownW P.cenv = [P.cenv.locals]) (oa : ownA P.cenv = [P.cenv.locals]) (hfm : P.cenv.frame = some P.cenv.locals) (hsk : P.cenv.scope = P.csc) (hco : P.csc.isCoroutine = false)
    (hA : P.A = A.in1.in1) (cx : Ctx A P.fs (n + 1)) (hl : P.os[P.i]? = some (.list l)) (hz : P.z = l.length) (hvl : P.vals.length = P.z)
    (hv : ∀ (j : Nat) v, l[j]? = some v → ∃ σ1 x vs2, BindT P.c P.csc P.tg v ⟨fun _ => none, P.os⟩ σ1 ∧ EvE P.c n P.csc P.elt σ1 (.int x) ⟨vs2, P.os⟩ ∧ P.vals[j]? = some x)
    (h0 : P.s0.heap.objs.size ≤ P.cenv.locals) (ig : s.heap.IsGen P.b g2) (hb : s.heap.get? P.b = some P.ob) (hgg : P.s0.gens.size ≤ g2) (hne : g2 ≠ P.g) (hgs : s.gens[g2]? = some (.fresh (.compStart P.e 0 (.ref P.a) .none P.cenv))) (hS : P.S = s.heap.objs.size)
    (N : ∀ t k tk, NSt P (listOf #[.int 0 t] k) P.z ρ { s with heap := s.heap.push (listOf #[.int 0 t] k), toks := tk })
    {Q : Value → Shared → Prop} (q : ∀ ρ' s' t, SR P.c P.fs ρ' P.os s' → Le P.c [] P.fs P.ρ0 (bareS P.s0) ρ' s' → GK P.s0 s' → Q (.int P.vals.sum t) s') : wpAny (model P.c.prog P.c.w) A (call (.builtin "sum") [.ref P.b]) Q E s := by
  have cg : Ctx P.A2 (P.cenv :: P.fs) n := by
    show Ctx (P.A.over P.cd []) _ _
    rw [hA]; exact cx.gen2 rfl rfl rfl
  refine raw_sum_gen hS ig (NInv P A g2) (fun _ _ _ h => by cases h; assumption) (fun t k tk => ⟨P.z, .mk ρ _ _ ⟨t, k, hS ▸ Heap.get?_push_size _ rfl⟩ hgs rfl (Nat.le_refl _) (by rw [Nat.sub_self]; rfl) (N t k tk) fun oS' ρ' s'' N' => ⟨rfl, hA ▸ nseg_start G eo F ow oa hfm hsk hco cg hl hz hv N' N'.hS (Nat.le_refl _)⟩⟩)
    (fun k acc s1 Q' E' h hfin hnext => ?_)
  obtain ⟨ρ1, oS, gs2, hS, hgs2, hgb, hk, ha, N1, kap⟩ := h
  have lt2 : g2 < s1.gens.size := (Array.getElem?_eq_some_iff.mp hgs2).1
  have ig1 : s1.heap.IsGen P.b g2 := by
    obtain ⟨o, nm, qn, ho, hc, hd, hs⟩ := ig
    rw [ho] at hb; cases hb
    exact ⟨_, nm, qn, N1.hb, hc, hd, hs⟩
  refine with_size (wpAny_pyNext_genexpQ (P := fun n _ s₁ => NEnd P n s₁) (by exact cx.hd) (G.lim.keeps N1.sr.old) (Nat.lt_of_le_of_lt (Nat.le_trans (Nat.le_add_right _ _) (Nat.le_add_right _ 10)) cx.dp) ig1 hgs2 (kap _ _ _ (N1.setG oa h0 hgg hne rfl)) (fun v s2 gs' hb' hy _ => ?_) (fun s2 hp h' hk' hsz => ?_))
  · obtain ⟨ρ2, oS2, x, t, hSS, hgz, rfl, hx, hkz, N2, kap2⟩ := hy
    obtain rfl : oS2 = oS := Option.some.inj ((show s1.heap.get? P.S = some oS2 from hSS).symm.trans N1.hS)
    cases k with
    | zero => exact (kap2 _ _ _ N2).elim
    | succ k =>
    have N3 := N2.setG (x := gs') oa h0 hgg hne hb'
    refine hnext x t _ ?_ fun s3 u3 ⟨t3, k3, h3⟩ => ⟨k, Nat.lt_succ_self _, .mk ρ2 _ gs' ⟨t3, k3, h3⟩ ?_ hb' (Nat.le_of_succ_le hk) ?_ (N3.on oa h0 (s' := s3) ⟨u3.sz, u3.keep, u3.os, rfl⟩ (by rw [u3.gens]) ⟨by rw [u3.gens]; exact N3.gk.1, fun g' hg' => by rw [u3.gens]; exact N3.gk.2 g' hg'⟩ (by rw [u3.gens]; exact N3.sr.bare) h3 ⟨_, _, rfl⟩) kap2⟩
    · obtain ⟨t', k', h⟩ := hS
      exact ⟨t', k', N2.hS.trans (N1.hS.symm.trans h)⟩
    · rw [u3.gens]
      show (s2.gens.setIfInBounds g2 gs')[g2]? = some gs'
      have h : (s1.gens.setIfInBounds g2 .running).size ≤ s2.gens.size := hgz
      rw [Array.size_setIfInBounds] at h
      rw [Array.getElem?_setIfInBounds_self, if_pos (Nat.lt_of_lt_of_le lt2 h)]
    · rw [ha, ar20 hk, take_sum (show P.vals[P.z - (k + 1)]? = some x from hx)]
  · obtain ⟨ρ2, sr2, le2, gk2, rfl⟩ := hp
    refine hfin _ fun t => ?_
    rw [ha, Nat.sub_zero, ← hvl, List.take_length]
    have hsz : s1.heap.objs.size ≤ h'.objs.size := hsz
    refine q ρ2 _ t (sr2.kept hk' (Nat.le_trans N1.sr.osz hsz) (bare_set sr2.bare rfl)) ?_ ⟨?_, fun g' hg' => ?_⟩
    · exact ⟨le2.pre, Nat.le_trans N1.le.sz hsz, fun b o hb ho hw hn => hk' _ _ (le2.keep b o hb ho hw hn), fun b o hb ho hw => let ⟨sl, h1⟩ := le2.frm b o hb ho hw; ⟨sl, hk' _ _ h1⟩, le2.os, fun g h => absurd h (Nat.not_lt_zero _), Nat.zero_le _⟩
    · show _ ≤ (s2.gens.setIfInBounds g2 _).size
      rw [Array.size_setIfInBounds]; exact gk2.1
    · show (s2.gens.setIfInBounds g2 _)[g']? = _
      rw [Array.getElem?_setIfInBounds_ne (Nat.ne_of_gt (Nat.lt_of_lt_of_le hg' hgg))]
      exact gk2.2 g' hg'
theorem s_retSum (G : Gd c) (IT : ItIs c cl f fld fd rn sn fn kk p1 p2 p3 p4 p5 p6 p7) (hb : BindJ c fd [.obj i0] [] σ.os [(kk, .obj i0)] σ.os) (hin : InSc sc csc) (hz : csc.names.lookup (".0" : Str) = some .local) (hco : csc.isCoroutine = false) (hcl : ∀ env, clOf env csc.names [] = [])
    (hk : sc.names.lookup ("sum" : Str) = some .globalImplicit) (hm0 : nsIn c.K mainGlobals ("sum" : Str) = some none ∧ bootBuiltins ("sum" : Str) = some (.builtin "sum"))
    (h : EvE c (n + 1) sc it σ (.obj i0) σ) (hi : σ.os[i0]? = some (.inst cl ff)) (hv : ff.lookup fld = some (.obj i)) (hl : σ.os[i]? = some (.list l)) (hvl : vals.length = l.length)
    (hvv : ∀ (j : Nat) v, l[j]? = some v → ∃ σ1 x vs2, BindT c csc tg v ⟨fun _ => none, σ.os⟩ σ1 ∧ EvE c n csc elt σ1 (.int x) ⟨vs2, σ.os⟩ ∧ vals[j]? = some x) (hf : ∀ env x, genFold it env x = pure x := by exact fun _ _ => rfl) :
    EvS c (n + 1) sc (.Return (some (.Call (.Name "sum" fp) [.GeneratorExp elt [⟨tg, it, [], 0⟩] csc pos] [] pos1)) pr) σ (.ret (.int vals.sum)) σ := by
  refine ⟨?_⟩; intro A env fs ρ s Q E eo FF cx p q
  refine wpAny_Return_some ?_
  obtain ⟨mg, hmg⟩ := G.ns
  obtain ⟨mb, hmb, hbb⟩ := G.nb
  have hm' : s.heap.Ns env.globals mg := by rw [eo.gl]; exact hmg.keeps p.sr.old
  have hb' : s.heap.Ns env.builtins mb := by rw [eo.bu]; exact hmb.keeps p.sr.old
  have ha := hall hin eo p.fr
  refine raw_Call (fun o a p => by intro h; cases h) (Name_function_global eo.kd (eo.g1 _ hk) (loadGlobal_builtin hm' (mg_none_of G.k hmg hm0.1) hb' ((hbb _ (by decide)).trans hm0.2) (raw_callWith (raw_args (fun _ => lone_of rfl) (args_cons ?_ rfl)))) (by decide))
  refine wpAny_GeneratorExp_make hco (clos_of ha) (fun y hy e => ?_) hz hin.kd cx.dp0 ?_ (hf _)
  · rcases hin.ks y hy with q | q | q <;> rw [e] at q <;> cases q
  refine h.r _ _ _ _ _ _ _ eo cx p fun ρ1 s1 y1 a1 r1 => snd_selfIter (z := l.length) G IT hb a1.sr cx.dp10 hi hv hl ?_ r1 fun ρ2 s2 a g C ax gs mC l2 sr2 hC hCa ig hg hgs hgb hns hax oa oC go => ?_
  · omega
  refine ⟨G.lim.keeps fun b o e => sr2.old b o e, snd_genCode FF.co sr2 fun code P' s3 e9 tx3 => ?_⟩
  have sr3 := sr2.txt e9 (G.tn _ e9) tx3
  obtain ⟨bm, bo, b1, b2, b3, b4, b5, b6⟩ := G.bf
  refine wpAny_builtinsFor (globals := env.globals) (m := mg) (by rw [eo.gl]; exact hmg.keeps sr3.old) (mg_of G.k hmg b1) b2 (sr3.old _ _ (G.k _ _ b3)) b4 b5 b6 fun h4 hn4 hs4 => ?_
  refine args_nil (.inl ⟨rfl, wpAny_pure ⟨⟨.machine, .inr rfl, Looks.now⟩, ?_⟩⟩)
  have l3 : Le c [] fs ρ2 s2 ρ2 s3 := tx3.le e9
  have l13 : Le c [] fs ρ1 s1 ρ2 s3 := l2.trans l3
  have hz4 : h4.objs.size = s3.heap.objs.size + 1 := by rw [hs4.1, Heap.size_push]
  have k6 : ∀ (ob oS : Obj) (b : Addr) (o : Obj), s3.heap.get? b = some o → ((h4.push ob).push oS).get? b = some o := fun ob oS b o e => Heap.get?_push_of_some _ (Heap.get?_push_of_some _ (hs4.extBut b o (Nat.ne_of_lt (Heap.lt_size e)) (Heap.get?_push_of_some _ e)))
  have z6 : ∀ ob oS : Obj, ((h4.push ob).push oS).objs.size = s3.heap.objs.size + 3 := fun ob oS => by rw [Heap.size_push, Heap.size_push, hz4]
  have u36 : ∀ ob oS tk, Qu s3 { s3 with heap := (h4.push ob).push oS, toks := tk } := fun ob oS tk => ⟨by show _ ≤ ((h4.push ob).push oS).objs.size; rw [z6]; exact Nat.le_add_right _ _, k6 ob oS, rfl, rfl⟩
  have hg3 : s3.gens[g]? = some gs := (l3.gl g (Array.getElem?_eq_some_iff.mp hgs).1).trans hgs
  have glt : g < s3.gens.size := (Array.getElem?_eq_some_iff.mp hg3).1
  have az : a < s3.heap.objs.size := by
    obtain ⟨o, nm, qn, ho, _⟩ := ig
    exact Nat.lt_of_lt_of_le (Heap.lt_size ho) l3.sz
  have h03 : s1.heap.objs.size ≤ s3.heap.objs.size := l13.sz
  have F3 := p.fr.mono (a1.le.trans l13)
  have oa' : off c ρ2 a := oa
  have nC : ∀ {ob oS}, ((h4.push ob).push oS).Ns C mC := fun {ob oS} => (Ns_of_data hns fun o e => ⟨o.slots, l3.keep C o e oC List.not_mem_nil (a1.sr.nofr hC)⟩).keeps (k6 ob oS)
  have ig3 : s3.heap.IsGen a g := by
    obtain ⟨o, nm, qn, ho, hc, hd, hs⟩ := ig
    exact ⟨o, nm, qn, l3.keep a o ho oa List.not_mem_nil (a1.sr.nofr (Nat.le_trans hC (Nat.le_of_lt hCa))), hc, hd, hs⟩
  refine nsum (P := ⟨c, A.in1.in1, fs, genEnv csc (clOf env csc.names []) s3.heap.objs.size code builtinsNs env, ρ1, s1, a, g, C, ax, i, l.length, h4.objs.size, _, _, σ.os, vals, tg, it, elt, csc, pos⟩) (ρ := ρ2) (g2 := s3.gens.size) G (gen_envOk hin eo) (gen_frOk hin (Nat.le_trans a1.sr.osz h03)) gen_ownW (by show _ :: (clOf env csc.names []).map _ = _; rw [hcl]; rfl) rfl rfl hco rfl cx hl rfl hvl hvv h03 ⟨_, _, _, Heap.get?_push_size _ rfl, rfl, rfl, rfl⟩ (Heap.get?_push_size _ rfl) l13.gsz (Nat.ne_of_gt glt) (Array.getElem?_push_size ..) rfl (fun t k tk => ?_) fun ρ' s' t sr' le' gk' => ?_
  · have eg : ∀ y, (s3.gens.push y)[g]? = some gs := fun y => by rw [Array.getElem?_push, if_neg (Nat.ne_of_lt glt)]; exact hg3
    have zb : s3.heap.objs.size < h4.objs.size := by rw [hz4]; exact Nat.lt_succ_self _
    refine ⟨(sr3.qu (u36 _ _ tk)).gens (sr3.bare.push rfl), (gen_fr hin eo F3 (fun _ _ h => by cases h) (u36 _ _ tk) (sr3.off_top (Nat.le_refl _)) ((hn4.push _).push _)).gens, p.nf, ?_, ⟨?_, fun g' hg' => ?_⟩, hg, ?_, oa, oC, hC, hCa, az, fun b hb => a1.sr.nofr hb, ⟨mC, nC⟩, hax, a1.sr.osz, Heap.get?_push_of_some _ (Heap.get?_push_size _ rfl), rfl, Heap.get?_push_size _ rfl, ⟨_, _, rfl⟩, sr3.off_top (Nat.le_of_lt zb), sr3.off_top ?_, zb, ?_,
      gs, [C], fun h => h.Ns C mC, eg _, hgb, fun x hx => ?_, nC, fun h h' hx hk => Ns_of_data hx fun o e => ⟨o.slots, hk C (.head _) o e⟩, fun fs' s'' sr'' hx => go _ fs' s'' cx.hd sr'' hx⟩
    · exact ⟨l13.pre, Nat.le_trans l13.sz (u36 _ _ tk).sz, fun b o hb ho hw hn => k6 _ _ b o (l13.keep b o hb ho hw hn), fun b o hb ho hw => let ⟨sl, h1⟩ := l13.frm b o hb ho hw; ⟨sl, k6 _ _ b _ h1⟩, l13.os, fun g h => absurd h (Nat.not_lt_zero _), Nat.zero_le _⟩
    · show _ ≤ (s3.gens.push _).size
      rw [Array.size_push]; exact Nat.le_succ_of_le l13.gsz
    · show (s3.gens.push _)[g']? = _
      rw [Array.getElem?_push, if_neg (Nat.ne_of_lt (Nat.lt_of_lt_of_le hg' l13.gsz))]
      exact l13.gl g' hg'
    · obtain ⟨o, nm, qn, ho, hc, hd, hs⟩ := ig3
      exact ⟨o, nm, qn, k6 _ _ a o ho, hc, hd, hs⟩
    · show _ ≤ (h4.push _).objs.size
      rw [Heap.size_push]; exact Nat.le_succ_of_le (Nat.le_of_lt zb)
    · show _ < (h4.push _).objs.size
      rw [Heap.size_push]; exact Nat.lt_succ_self _
    · cases List.mem_singleton.mp hx
      have C3 : C < s3.heap.objs.size := Nat.lt_trans hCa az
      refine ⟨oC, hC, Nat.ne_of_lt C3, Nat.ne_of_lt ?_, nC.lt⟩
      show C < (h4.push _).objs.size
      rw [Heap.size_push]; exact Nat.lt_succ_of_lt (Nat.lt_trans C3 zb)
  · have leF := Le.ofG le' gk'.1 gk'.2
    exact q _ _ _ ⟨a1.le.weaken.trans leF.weaken, sr', a1.fr.mono leF⟩ (.ret ⟨t, rfl⟩)
end
end Rw
namespace Rw
open PySem PySem.W PySem.Calls PyProof.Rows
abbrev Law : OpenLaw := PySem.Challenge.rw_ay0036_05
abbrev pr : Program := Law.row.toRowW.prog
noncomputable def B0 : List Stmt := behindTheImports pr
noncomputable def st (i : Nat) : Stmt := (B0[i]?).getD default
noncomputable def me (i j : Nat) : Stmt := match st i with
  | .ClassDef _ _ _ b _ _ _ _ _ _ _ => (b[j]?).getD default
  | x => x
noncomputable def bdy : Stmt → List Stmt
  | .FunctionDef _ _ b _ _ _ _ _ _ _ => b
  | _ => []
noncomputable def scp : Stmt → Scope
  | .FunctionDef _ _ _ _ _ _ sc _ _ _ => sc
  | _ => default
noncomputable def s (x : String) : Str := Str.ofString x
noncomputable def v (x : String) (t : Nat) : Value := .str (Str.ofString x) t
noncomputable def fd (x : Stmt) (q : String) (cl : List (Str × Addr)) (d pm c ct : Value) : FuncData := match x with
  | .FunctionDef n a b _ _ _ sc _ _ _ => ⟨n, s q, a, .stmts b, sc, mainGlobals, cl, d, .none, .none, pm, none, c, ct, builtinsNs⟩
  | _ => default
noncomputable def FT : List (Nat × List Nat × FuncData) := [
  (168, [4,5,6,7,8,9], fd (me 5 0) "Rectangle.__init__" [] (.ref 161) (v "rectpack.geometry" 194) (.ref 167) .none),
  (246, [4,10], fd (me 5 10) "Rectangle.__eq__" [] .none (v "rectpack.geometry" 194) (.ref 245) .none),
  (260, [4], fd (me 5 12) "Rectangle.area" [] .none (v "rectpack.geometry" 194) (.ref 259) .none),
  (319, [4,7,8,11,12,13,14], fd (me 7 0) "PackingAlgorithm.__init__" [] (.ref 312) (v "rectpack.pack_algo" 538) (.ref 318) .none),
  (377, [4], fd (me 7 8) "PackingAlgorithm.rect_list" [] .none (v "rectpack.pack_algo" 538) (.ref 376) .none),
  (398, [4], fd (me 7 11) "PackingAlgorithm.reset" [] .none (v "rectpack.pack_algo" 538) (.ref 397) .none),
  (422, [4,7,8,11,20,13,14], fd (me 9 0) "Guillotine.__init__" [(s "__class__", 409)] (.ref 414) (v "rectpack.guillotine" 668) (.ref 421) (.ref 415)),
  (427, [4,23], fd (me 9 1) "Guillotine._add_section" [] .none (v "rectpack.guillotine" 668) (.ref 426) .none),
  (434, [4,23,7,8], fd (me 9 2) "Guillotine._split_horizontal" [] .none (v "rectpack.guillotine" 668) (.ref 433) .none),
  (441, [4,23,7,8], fd (me 9 3) "Guillotine._split_vertical" [] .none (v "rectpack.guillotine" 668) (.ref 440) .none),
  (462, [4,29,30], fd (me 9 6) "Guillotine._select_fittest_section" [] .none (v "rectpack.guillotine" 668) (.ref 461) .none),
  (470, [4,7,8,9], fd (me 9 7) "Guillotine.add_rect" [] (.ref 463) (v "rectpack.guillotine" 668) (.ref 469) .none),
  (477, [4,7,8], fd (me 9 8) "Guillotine.fitness" [] .none (v "rectpack.guillotine" 668) (.ref 476) .none),
  (485, [4], fd (me 9 9) "Guillotine.reset" [(s "__class__", 409)] .none (v "rectpack.guillotine" 668) (.ref 484) (.ref 478)),
  (504, [4,23,7,8], fd (me 10 0) "GuillotineBaf._section_fitness" [] .none (v "rectpack.guillotine" 668) (.ref 503) .none),
  (523, [4,23,7,8], fd (me 11 0) "GuillotineBlsf._section_fitness" [] .none (v "rectpack.guillotine" 668) (.ref 522) .none),
  (542, [4,23,7,8], fd (me 12 0) "GuillotineBssf._section_fitness" [] .none (v "rectpack.guillotine" 668) (.ref 541) .none),
  (561, [4,23,7,8], fd (me 13 0) "GuillotineBssfSas._split" [] .none (v "rectpack.guillotine" 668) (.ref 560) .none),
  (580, [4,23,7,8], fd (me 14 0) "GuillotineBssfLas._split" [] .none (v "rectpack.guillotine" 668) (.ref 579) .none),
  (599, [4,23,7,8], fd (me 15 0) "GuillotineBssfSlas._split" [] .none (v "rectpack.guillotine" 668) (.ref 598) .none),
  (618, [4,23,7,8], fd (me 16 0) "GuillotineBssfLlas._split" [] .none (v "rectpack.guillotine" 668) (.ref 617) .none),
  (637, [4,23,7,8], fd (me 17 0) "GuillotineBssfMaxas._split" [] .none (v "rectpack.guillotine" 668) (.ref 636) .none),
  (656, [4,23,7,8], fd (me 18 0) "GuillotineBssfMinas._split" [] .none (v "rectpack.guillotine" 668) (.ref 655) .none),
  (675, [4,23,7,8], fd (me 19 0) "GuillotineBlsfSas._split" [] .none (v "rectpack.guillotine" 668) (.ref 674) .none),
  (694, [4,23,7,8], fd (me 20 0) "GuillotineBlsfLas._split" [] .none (v "rectpack.guillotine" 668) (.ref 693) .none),
  (713, [4,23,7,8], fd (me 21 0) "GuillotineBlsfSlas._split" [] .none (v "rectpack.guillotine" 668) (.ref 712) .none),
  (732, [4,23,7,8], fd (me 22 0) "GuillotineBlsfLlas._split" [] .none (v "rectpack.guillotine" 668) (.ref 731) .none),
  (751, [4,23,7,8], fd (me 23 0) "GuillotineBlsfMaxas._split" [] .none (v "rectpack.guillotine" 668) (.ref 750) .none),
  (770, [4,23,7,8], fd (me 24 0) "GuillotineBlsfMinas._split" [] .none (v "rectpack.guillotine" 668) (.ref 769) .none),
  (789, [4,23,7,8], fd (me 25 0) "GuillotineBafSas._split" [] .none (v "rectpack.guillotine" 668) (.ref 788) .none),
  (808, [4,23,7,8], fd (me 26 0) "GuillotineBafLas._split" [] .none (v "rectpack.guillotine" 668) (.ref 807) .none),
  (827, [4,23,7,8], fd (me 27 0) "GuillotineBafSlas._split" [] .none (v "rectpack.guillotine" 668) (.ref 826) .none),
  (846, [4,23,7,8], fd (me 28 0) "GuillotineBafLlas._split" [] .none (v "rectpack.guillotine" 668) (.ref 845) .none),
  (865, [4,23,7,8], fd (me 29 0) "GuillotineBafMaxas._split" [] .none (v "rectpack.guillotine" 668) (.ref 864) .none),
  (884, [4,23,7,8], fd (me 30 0) "GuillotineBafMinas._split" [] .none (v "rectpack.guillotine" 668) (.ref 883) .none),
  (1322, [46,7,8,13,14], fd (st 49) "_new_packing" [] .none (v "rectpack.packer" 1968) (.ref 1321) .none),
  (1336, [4,7,8,76,46,13,14], fd (me 50 0) "BinFactory.__init__" [] .none (v "rectpack.packer" 1968) (.ref 1335) .none),
  (1343, [4], fd (me 50 1) "BinFactory._create_bin" [] .none (v "rectpack.packer" 1968) (.ref 1342) .none),
  (1371, [4], fd (me 50 5) "BinFactory.new_bin" [] .none (v "rectpack.packer" 1968) (.ref 1370) .none),
  (1399, [], fd (st 52) "_law_ways" [] .none (v "law_ay0036_05" 2078) (.ref 1398) .none),
  (1406, [86,87,10], fd (st 53) "_law_at" [] .none (v "law_ay0036_05" 2078) (.ref 1405) .none),
  (1413, [88,89], fd (st 54) "_law_side" [] .none (v "law_ay0036_05" 2078) (.ref 1412) .none),
  (354, [4], fd (me 7 5) "PackingAlgorithm.used_area" [] .none (v "rectpack.pack_algo" 538) (.ref 353) .none),
  (1418, [96,38,97,98], fd (st 55) "_law_cut" [] .none (v "law_ay0036_05" 2078) (.ref 1417) .none),
  (1425, [38,103], fd (st 56) "_law_within" [] .none (v "law_ay0036_05" 2078) (.ref 1424) .none),
  (1430, [96,145,146], fd (st 57) "_law_rests" [] .none (v "law_ay0036_05" 2078) (.ref 1429) .none),
  (1435, [86], fd (st 58) "law" [] .none (v "law_ay0036_05" 2078) (.ref 1434) .none)]
noncomputable def N02 : List String := ["append", "extend", "remove", "get", "self", "x", "y", "width", "height", "rid", "other", "rot", "bid", "args", "kwargs", "rectangles", "_surface", "reset", "r", "rectangle_list", "merge", "_merge", "__init__", "section", "plen", "_sections", "s", "join", "_add_section", "w", "h", "fitn", "fitr", "fit", "_", "sec", "key", "_section_fitness", "one", "rect", "rotated", "_select_fittest_section", "_split", "area", "_split_horizontal", "_split_vertical", "pack_algo", "MaxRectsBssf", "MaxRectsBl", "MaxRectsBaf", "MaxRectsBlsf", "SkylineMwf", "SkylineMwfl", "SkylineBl", "SkylineBlWm", "SkylineMwfWm", "SkylineMwflWm", "GuillotineBssfSas", "GuillotineBssfLas", "GuillotineBssfSlas", "GuillotineBssfLlas", "GuillotineBssfMaxas", "GuillotineBssfMinas", "GuillotineBlsfSas", "GuillotineBlsfLas", "GuillotineBlsfSlas", "GuillotineBlsfLlas", "GuillotineBlsfMaxas", "GuillotineBlsfMinas", "GuillotineBafSas", "GuillotineBafLas", "GuillotineBafSlas", "GuillotineBafLlas", "GuillotineBafMaxas", "GuillotineBafMinas", "Unsupported packing algorithm", "count", "_width", "_height", "_count", "_pack_algo", "_algo_kwargs", "_algo_args", "_ref_bin", "_bid", "_create_bin", "script", "k", "number", "most", "n", "kind", "wide", "high", "turn", "new_bin", "rule", "a", "b", "level", "upright", "lesser", "flat", "part", "l", "m", "c", "d", "pick", "numbers", "whole", "parts", "bins", "rows", "told", "got", "fitness", "add_rect", "answers", "known", "least", "found", "due", "rect_list", "answer", "i", "len", "min", "max", "abs", "range", "list", "isinstance", "Rectangle", "Guillotine", "BinFactory", "_new_packing", "_law_ways", "_law_at", "_law_side", "_law_bin", "_law_cut", "_law_within", "_law_rests", "sum", "piece", "laid", "first", "rests", "inside", "order", "way", "pack", "row", "size", "free", "rest", "box", "used_area"]
noncomputable def nm02 (n : Nat) : Str := match N02[n]? with
  | some x => Str.ofString x
  | none => ⟨#[n + 9999999]⟩
noncomputable def fitN (l : List String) : Bool := (l.map Str.ofString).Nodup && l.all fun x => (Str.ofString x).cps.all (· < 9999999)
theorem fit02 : fitN N02 = true := by decide +kernel
theorem inj02 (x y : Nat) (h : nm02 x = nm02 y) : x = y := by
  have F := fit02
  unfold fitN at F
  rw [Bool.and_eq_true] at F
  obtain ⟨F1, F2⟩ := F
  have F1 := of_decide_eq_true F1
  have odd : ∀ z : Nat, ∀ a ∈ N02, Str.ofString a ≠ (⟨#[z + 9999999]⟩ : Str) := fun z a ha e => by
    have h := List.all_eq_true.mp F2 a ha
    rw [e] at h
    simp at h
    omega
  unfold nm02 at h
  cases hx : N02[x]? with
  | some a =>
    cases hy : N02[y]? with
    | some b =>
      rw [hx, hy] at h
      dsimp only at h
      have e1 : (N02.map Str.ofString)[x]? = some (Str.ofString a) := by rw [List.getElem?_map, hx]; rfl
      have e2 : (N02.map Str.ofString)[y]? = some (Str.ofString a) := by rw [List.getElem?_map, hy, h]; rfl
      exact (List.getElem?_inj (List.getElem?_eq_some_iff.mp e1).1 F1).mp (e1.trans e2.symm)
    | none =>
      rw [hx, hy] at h
      exact absurd h (odd _ _ (List.mem_of_getElem? hx))
  | none =>
    cases hy : N02[y]? with
    | some b =>
      rw [hx, hy] at h
      exact absurd h.symm (odd _ _ (List.mem_of_getElem? hy))
    | none =>
      rw [hx, hy] at h
      simp only [Str.mk.injEq] at h
      have := congrArg (fun a : Array Nat => a[0]?) h
      simp at this
      exact this
noncomputable def gl02 : List (Nat × V) := [(126, .bi .len), (127, .bi .min), (128, .bi .max), (129, .bi .abs), (130, .bi .range), (131, .bi .list), (132, .bi .isinstance), (133, .top 300), (134, .top 488), (135, .top 1388), (136, .top 1322), (137, .top 1399), (138, .top 1406), (139, .top 1413), (141, .top 1418), (142, .top 1425), (143, .top 1430)] ++ (List.range 18).map fun k => (57 + k, .top (564 + 19 * k))
noncomputable def no (l : List Nat) : List (Nat × At) := l.map fun n => (n, .no)
noncomputable def fns (l : List (Nat × Nat)) : List (Nat × At) := l.map fun n => (n.1, .fn n.2)
noncomputable def attK (k : Nat) : List (Nat × At) := no [7, 8, 11, 15, 12, 16, 21, 25] ++ fns [(17, 485), (28, 427), (41, 462), (44, 434), (45, 441), (116, 477), (117, 470), (123, 377), (158, 354), (37, 542 - 19 * (k / 6)), (42, 561 + 19 * k)]
noncomputable def attT : List (Nat × List (Nat × At)) := [(300, no [5, 6, 7, 8, 9] ++ fns [(43, 260)]), (1388, no [77, 78, 79, 80, 81, 82, 83, 84] ++ fns [(95, 1371), (85, 1343)])] ++ (List.range 18).map fun k => (564 + 19 * k, attK k)
noncomputable def att02 (cl n : Nat) : Option At := ((attT.lookup cl).getD []).lookup n
noncomputable def initT : List (Nat × Nat) := [(300, 168), (1388, 1336)] ++ (List.range 18).map fun k => (564 + 19 * k, 422)
noncomputable def supT : List ((Nat × Nat × Nat) × Nat) := (List.range 18).flatMap fun k => [((488, 564 + 19 * k, 22), 319), ((488, 564 + 19 * k, 17), 398)]
noncomputable def P02 : Prg where
  gl n := gl02.lookup n
  cal a := (FT.map (·.1)).contains a || (initT.map (·.1)).contains a
  att := att02
  init a := initT.lookup a
  sup a b c := supT.lookup (a, b, c)
  eqf a := if a = 300 then some 246 else none
  tru a := a == 300
  isa _ _ := false
  itr _ := none
theorem at_k {k : Nat} (hk : k < 18) {n : Nat} {a : At} (h : (attK k).lookup n = some a) : att02 (564 + 19 * k) n = some a := by
  have : ∀ k < 18, attT.lookup (564 + 19 * k) = some (attK k) := by decide +kernel
  unfold att02
  rw [this k hk]; exact h
theorem in_k {k : Nat} (hk : k < 18) : initT.lookup (564 + 19 * k) = some 422 := (by decide +kernel : ∀ k < 18, initT.lookup (564 + 19 * k) = some 422) k hk
theorem su_k {k : Nat} (hk : k < 18) : supT.lookup (488, 564 + 19 * k, 22) = some 319 := (by decide +kernel : ∀ k < 18, supT.lookup (488, 564 + 19 * k, 22) = some 319) k hk
theorem su_r {k : Nat} (hk : k < 18) : supT.lookup (488, 564 + 19 * k, 17) = some 398 := (by decide +kernel : ∀ k < 18, supT.lookup (488, 564 + 19 * k, 17) = some 398) k hk
structure Pm where
  w : World
  K : Frag
  h0 : Heap
  ax : Addr
  is : List Int
noncomputable def T02 : List Addr := [163, 241, 255, 314, 328, 372, 393, 417, 424, 429, 436, 457, 465, 472, 480, 499, 518, 537, 556, 575, 594, 613, 632, 651, 670, 689, 708, 727, 746, 765, 784, 803, 822, 841, 860, 879, 1317, 1331, 1338, 1366, 1394, 1401, 1408, 349, 1415, 1420, 1427, 1432]
noncomputable def cx (q : Pm) : Cx := ⟨pr, nm02, inj02, P02, q.w, q.K, q.h0, T02, q.ax, q.is⟩
end Rw
namespace Rw
open PySem PySem.W PySem.Calls PyProof.Rows
noncomputable def fdI : FuncData := fd (me 7 2) "PackingAlgorithm.__iter__" [] .none (v "rectpack.pack_algo" 538) (.ref 332) .none
structure Ok (q : Pm) : Prop where
  g : Gd (cx q)
  fn : ∀ (i : Nat) {f ps fd b}, FT[i]? = some (f, ps, fd) → fd.body = .stmts b → FnAt (cx q) f ps b fd
  itr : (∃ fo, q.K.lookup 333 = some fo ∧ fo.data = .func fdI) ∧ typeIn q.K (.ref 333) = some (.type "function") ∧ codeIn q.K fdI.code fdI.qualname = true ∧ ∀ k < 18, findIn q.K (.ref (564 + 19 * k)) "__iter__" = some (some (.ref 333))
  sm : nsIn q.K mainGlobals ("sum" : Str) = some none ∧ bootBuiltins ("sum" : Str) = some (.builtin "sum")
  isa : isIn q.K (.ref 300) 300 = true
  df : ∀ a l, (a, l) ∈ [(161, [.none]), (312, [.bool true, .none]), (414, [.bool true, .bool true]), (463, [.none])] → ∃ k, q.h0.get? a = some (tupO l.toArray k)
section
variable {q : Pm} {fd : FuncData} {a b d e f g : V} {k1 k2 k3 k4 k5 k6 : Nat} {os : List O}
theorem bindP {n : Nat} {vs : List V} {bl : List (Nat × V)} (h : ∀ ρ xs, VRs (cx q) ρ vs xs → ∃ bs, bindArgs fd ⟨xs, []⟩ = pure bs ∧ KR (cx q) ρ bl bs) : BindJ (cx q) fd vs [] os bl os := fun _ _ _ _ _ _ _ _ sr rv rk qq => by
  cases rk
  obtain ⟨bs, e, r⟩ := h _ _ rv
  rw [e]
  exact wpAny_pure (qq _ _ _ .refl .refl sr r)
theorem bind0 (h : bindArgs fd ⟨[], []⟩ = pure []) : BindJ (cx q) fd [] [] os [] os := bindP (n := 0) fun ρ xs r => by
  cases r; exact ⟨_, h, .nil⟩
theorem bind1 (h : ∀ x, bindArgs fd ⟨[x], []⟩ = pure [(nm02 k1, x)]) : BindJ (cx q) fd [a] [] os [(k1, a)] os := bindP (n := 0) fun ρ xs r => by
  obtain ⟨x, rfl, r1⟩ := r.one; exact ⟨_, h x, .cons r1 .nil⟩
theorem bind2 (h : ∀ x y, bindArgs fd ⟨[x, y], []⟩ = pure [(nm02 k1, x), (nm02 k2, y)]) : BindJ (cx q) fd [a, b] [] os [(k1, a), (k2, b)] os := bindP (n := 0) fun ρ xs r => by
  obtain ⟨x, y, rfl, r1, r2⟩ := r.two; exact ⟨_, h x y, .cons r1 (.cons r2 .nil)⟩
theorem bind3 (h : ∀ x y z, bindArgs fd ⟨[x, y, z], []⟩ = pure [(nm02 k1, x), (nm02 k2, y), (nm02 k3, z)]) : BindJ (cx q) fd [a, b, d] [] os [(k1, a), (k2, b), (k3, d)] os := bindP (n := 0) fun ρ xs r => by
  obtain ⟨x, y, z, rfl, r1, r2, r3⟩ := r.three; exact ⟨_, h x y z, .cons r1 (.cons r2 (.cons r3 .nil))⟩
theorem bind4 (h : ∀ x y z w, bindArgs fd ⟨[x, y, z, w], []⟩ = pure [(nm02 k1, x), (nm02 k2, y), (nm02 k3, z), (nm02 k4, w)]) : BindJ (cx q) fd [a, b, d, e] [] os [(k1, a), (k2, b), (k3, d), (k4, e)] os := bindP (n := 0) fun ρ xs r => by
  cases r with
  | cons r0 r => obtain ⟨x, y, z, rfl, r1, r2, r3⟩ := r.three; exact ⟨_, h _ x y z, .cons r0 (.cons r1 (.cons r2 (.cons r3 .nil)))⟩
end
section
variable {c : Cx} {n : Nat} {sc : Scope} {a e : Expr} {σ σ' σ'' : Sg} {v : V} {vs : Nat → Option V} {os os' : List O} {t : Bool} {bd bd' : List Stmt} {fl : Fl} {pos ap : Pos} {i k cl : Nat} {x : Str} {f : List (Nat × V)} {o o' : O} {kv : List (Nat × V)} {us : List V}
theorem s_ifT (h : EvT c n sc e σ t σ') (ht : t = true) (h2 : EvB c n sc bd σ' fl σ'') : EvS c n sc (.If e bd bd' pos) σ fl σ'' := s_if (t := true) (ht ▸ h) h2
theorem s_ifF (h : EvT c n sc e σ t σ') (ht : t = false) (h2 : EvB c n sc bd' σ' fl σ'') : EvS c n sc (.If e bd bd' pos) σ fl σ'' := s_if (t := false) (ht ▸ h) h2
theorem s_assertT (h : EvT c n sc e σ t σ') (ht : t = true) {m : Option Expr} : EvS c n sc (.Assert e m pos) σ .nxt σ' := s_assert (ht ▸ h)
theorem t_of (h : EvT c n sc e σ t σ') {t' : Bool} (ht : t = t') : EvT c n sc e σ t' σ' := ht ▸ h
theorem e_of (h : EvE c n sc e σ v σ') {u : V} (ht : v = u) : EvE c n sc e σ u σ' := ht ▸ h
theorem EvC.to (h : EvC c n i us kv os v os') {os'' : List O} (e : os' = os'') : EvC c n i us kv os v os'' := e ▸ h
theorem get_set (h : os[i]? = some o) : (os.set i o')[i]? = some o' := by rw [List.getElem?_set_self (List.getElem?_eq_some_iff.mp h).1]
theorem get_ne {j : Nat} (h : os[j]? = some o) (hn : i ≠ j) : (os.set i o')[j]? = some o := by rw [List.getElem?_set_ne hn]; exact h
theorem get_app {l : List O} (h : os[i]? = some o) : (os ++ l)[i]? = some o := by rw [List.getElem?_append_left (List.getElem?_eq_some_iff.mp h).1]; exact h
theorem get_end {l : List O} : (os ++ o :: l)[os.length]? = some o := by rw [List.getElem?_append_right (Nat.le_refl _), Nat.sub_self]; rfl
theorem set_end {l : List O} : (os ++ o :: l).set os.length o' = os ++ o' :: l := by rw [List.set_append_right _ _ (Nat.le_refl _), Nat.sub_self]; rfl
theorem s_attI (G : Gd c) (k : Nat) (hn : c.nm k = x) (hi : i < os.length) (h : EvE c n sc e ⟨vs, os.set i (.inst cl f)⟩ v ⟨vs, os.set i (.inst cl f)⟩) (h2 : EvE c n sc a ⟨vs, os.set i (.inst cl f)⟩ (.obj i) ⟨vs, os.set i (.inst cl f)⟩) (ha : c.P.att cl k = some .no) (hf : Nat.ble f.length 100 = true) :
    EvS c n sc (.Assign [.Attribute a x ap] e pos) ⟨vs, os.set i (.inst cl f)⟩ .nxt ⟨vs, os.set i (.inst cl (setF f k v))⟩ := by
  have := s_att G k (ap := ap) (pos := pos) hn h h2 (List.getElem?_set_self hi) ha (Nat.le_of_ble_eq_true hf)
  rwa [List.set_set] at this
end
noncomputable def rectO (x y w h : Int) (rid : V) : O := .inst 300 [(7, .int w), (8, .int h), (5, .int x), (6, .int y), (9, rid)]
section
variable {q : Pm} {os : List O} {n i j : Nat} {x y w h x' y' w' h' : Int} {r r' : V}
theorem area_run (X : Ok q) (hi : os[i]? = some (rectO x y w h r)) (bw : small w) (bh : small h) : EvC (cx q) (n + 1) 260 [.obj i] [] os (.int (w * h)) os :=
  c_fn X.g (X.fn 2 rfl rfl) rfl (bind1 fun _ => rfl) (b_ret (s_ret (e_mul bw bh (e_att X.g 7 (e_loc X.g 4 rfl rfl rfl) rfl hi rfl rfl) (e_att X.g 8 (e_loc X.g 4 rfl rfl rfl) rfl hi rfl rfl)))) (.inl rfl)
theorem rect_init (X : Ok q) {bl : List (Nat × V)} {us : List V} (hb : BindJ (cx q) (FT.getD 0 default).2.2 (.obj i :: us) [] os bl os) (hbl : bl = [(4, .obj i), (5, .int x), (6, .int y), (7, .int w), (8, .int h), (9, r)]) (hi : os[i]? = some (.inst 300 [])) (hw : 0 ≤ w) (hh : 0 ≤ h) : EvC (cx q) (n + 1) 168 (.obj i :: us) [] os .none (os.set i (rectO x y w h r)) := by
  subst hbl
  have hl := (List.getElem?_eq_some_iff.mp hi).1
  exact c_fn X.g (X.fn 0 rfl rfl) rfl hb (b_cons (s_assertT (t_andT (t_of (t_cmp (e_loc X.g 8 rfl rfl rfl) e_int c_ge) (decide_eq_true hh)) (t_andT (t_of (t_cmp (e_loc X.g 7 rfl rfl rfl) e_int c_ge) (decide_eq_true hw)) t_and0)) rfl)
    (b_cons (s_att X.g 7 rfl (e_loc X.g 7 rfl rfl rfl) (e_loc X.g 4 rfl rfl rfl) hi rfl (Nat.le_of_ble_eq_true rfl))
    (b_cons (s_attI X.g 8 rfl hl (e_loc X.g 8 rfl rfl rfl) (e_loc X.g 4 rfl rfl rfl) rfl rfl)
    (b_cons (s_attI X.g 5 rfl hl (e_loc X.g 5 rfl rfl rfl) (e_loc X.g 4 rfl rfl rfl) rfl rfl)
    (b_cons (s_attI X.g 6 rfl hl (e_loc X.g 6 rfl rfl rfl) (e_loc X.g 4 rfl rfl rfl) rfl rfl)
    (b_cons (s_attI X.g 9 rfl hl (e_loc X.g 9 rfl rfl rfl) (e_loc X.g 4 rfl rfl rfl) rfl rfl) b_nil)))))) (.inr ⟨rfl, rfl⟩)
end
end Rw
namespace Rw
open PySem PySem.W PySem.Calls PyProof.Rows
section
variable {q : Pm} {os : List O} {n i j : Nat} {x y w h x' y' w' h' : Int} {r r' : V}
theorem e_andB {c : Cx} {sc : Scope} {a b : Expr} {es : List Expr} {pos : Pos} {σ : Sg} {b1 b2 : Bool} (h : EvE c n sc a σ (.bool b1) σ) (h2 : EvE c n sc (.BoolOp .And (b :: es) pos) σ (.bool b2) σ) : EvE c n sc (.BoolOp .And (a :: b :: es) pos) σ (.bool (b1 && b2)) σ := by
  cases b1 with
  | true => exact e_andT h tr_bool h2
  | false => exact e_andF h tr_bool
theorem rect_eq (X : Ok q) (hi : os[i]? = some (rectO x y w h r)) (hj : os[j]? = some (rectO x' y' w' h' r')) : EvC (cx q) (n + 1) 246 [.obj i, .obj j] [] os (.bool (w == w' && (h == h' && (x == x' && y == y')))) os :=
  c_fn X.g (X.fn 1 rfl rfl) rfl (bind2 fun _ _ => rfl) (b_cons (s_ifF (t_not (t_call (e_call X.g (e_glob X.g 132 rfl rfl rfl) (a_pos rfl (l_cons (e_loc X.g 10 rfl rfl rfl) (l_cons (e_glob X.g 133 rfl rfl rfl) l_nil))) rfl (f_isa X.g hj X.isa)) tr_bool)) rfl b_nil)
    (b_ret (s_ret (e_andB (e_cmp (e_att X.g 7 (e_loc X.g 4 rfl rfl rfl) rfl hi rfl rfl) (e_att X.g 7 (e_loc X.g 10 rfl rfl rfl) rfl hj rfl rfl) c_eq) (e_andB (e_cmp (e_att X.g 8 (e_loc X.g 4 rfl rfl rfl) rfl hi rfl rfl) (e_att X.g 8 (e_loc X.g 10 rfl rfl rfl) rfl hj rfl rfl) c_eq) (e_andB (e_cmp (e_att X.g 5 (e_loc X.g 4 rfl rfl rfl) rfl hi rfl rfl) (e_att X.g 5 (e_loc X.g 10 rfl rfl rfl) rfl hj rfl rfl) c_eq) (e_one (e_cmp (e_att X.g 6 (e_loc X.g 4 rfl rfl rfl) rfl hi rfl rfl) (e_att X.g 6 (e_loc X.g 10 rfl rfl rfl) rfl hj rfl rfl) c_eq)))))))) (.inl rfl)
theorem bind168 (X : Ok q) : BindJ (cx q) (FT.getD 0 default).2.2 [.obj i, .int x, .int y, .int w, .int h, r] [] os [(4, .obj i), (5, .int x), (6, .int y), (7, .int w), (8, .int h), (9, r)] os := by
  intro A fs ρ s vs' ks' Q E sr rv rk qq
  cases rk
  cases rv with | cons r1 rv =>
  cases rv with | cons r2 rv =>
  cases rv with | cons r3 rv =>
  obtain ⟨y4, y5, y6, rfl, r4, r5, r6⟩ := rv.three
  obtain ⟨k, hk⟩ := X.df 161 _ (.head _)
  refine wpAny_bind (m := seqItems? (.ref 161)) (wpAny_seqItems (sr.old _ _ hk) rfl ?_)
  exact wpAny_pure (qq _ _ [(nm02 4, _), (nm02 5, _), (nm02 6, _), (nm02 7, _), (nm02 8, _), (nm02 9, _)] .refl .refl sr (.cons r1 (.cons r2 (.cons r3 (.cons r4 (.cons r5 (.cons r6 .nil)))))))
theorem bind168d (X : Ok q) : BindJ (cx q) (FT.getD 0 default).2.2 [.obj i, .int x, .int y, .int w, .int h] [] os [(4, .obj i), (5, .int x), (6, .int y), (7, .int w), (8, .int h), (9, .none)] os := by
  intro A fs ρ s vs' ks' Q E sr rv rk qq
  cases rk
  cases rv with | cons r1 rv =>
  cases rv with | cons r2 rv =>
  obtain ⟨y3, y4, y5, rfl, r3, r4, r5⟩ := rv.three
  obtain ⟨k, hk⟩ := X.df 161 _ (.head _)
  refine wpAny_bind (m := seqItems? (.ref 161)) (wpAny_seqItems (sr.old _ _ hk) rfl ?_)
  exact wpAny_pure (qq _ _ [(nm02 4, _), (nm02 5, _), (nm02 6, _), (nm02 7, _), (nm02 8, _), (nm02 9, _)] .refl .refl sr (.cons r1 (.cons r2 (.cons r3 (.cons r4 (.cons r5 (.cons rfl .nil)))))))
theorem rect_new (X : Ok q) (hw : 0 ≤ w) (hh : 0 ≤ h) : EvC (cx q) (n + 2) 300 [.int x, .int y, .int w, .int h] [] os (.obj os.length) (os ++ [rectO x y w h .none]) :=
  c_make X.g rfl ((rect_init X (bind168d X) rfl get_end hw hh).to set_end)
theorem rect_newR (X : Ok q) (hw : 0 ≤ w) (hh : 0 ≤ h) : EvC (cx q) (n + 2) 300 [.int x, .int y, .int w, .int h, r] [] os (.obj os.length) (os ++ [rectO x y w h r]) :=
  c_make X.g rfl ((rect_init X (bind168 X) rfl get_end hw hh).to set_end)
end
end Rw
namespace Rw
open PySem PySem.W PySem.Calls PyProof.Rows
set_option genInjectivity true in
structure R where
  x : Int
  y : Int
  w : Int
  h : Int
  deriving DecidableEq
noncomputable def R.o (s : R) (r : V) : O := rectO s.x s.y s.w s.h r
noncomputable def fitF (k : Nat) (s : R) (w h : Int) : Option Int :=
  if w > s.w ∨ h > s.h then none
  else some (if k / 6 = 0 then min (s.w - w) (s.h - h) else if k / 6 = 1 then max (s.w - w) (s.h - h) else s.w * s.h - w * h)
noncomputable def fitV : Option Int → V
  | none => .none
  | some a => .int a
noncomputable def binO (k : Nat) (W H : Int) (t : Bool) (ri si se : Nat) : O :=
  .inst (564 + 19 * k) [(21, .bool false), (7, .int W), (8, .int H), (11, .bool t), (15, .obj ri), (12, .none), (16, .obj si), (25, .obj se)]
noncomputable def addS (os : List O) (se : Nat) (l : List V) (ns : List R) : List O :=
  (os ++ ns.map fun s => s.o (.int 0)).set se (.list (l ++ (List.range ns.length).map fun j => .obj (os.length + j)))
section
variable {c : Cx} {sc : Scope} {n : Nat} {a : Expr} {es : List Expr} {pos : Pos} {σ : Sg} {t1 t2 : Bool}
theorem t_orB (h : EvT c n sc a σ t1 σ) (h2 : EvT c n sc (.BoolOp .Or es pos) σ t2 σ) : EvT c n sc (.BoolOp .Or (a :: es) pos) σ (t1 || t2) σ := by
  cases t1 with
  | true => exact t_orT h
  | false => exact t_orF h h2
theorem t_andB (h : EvT c n sc a σ t1 σ) (h2 : EvT c n sc (.BoolOp .And es pos) σ t2 σ) : EvT c n sc (.BoolOp .And (a :: es) pos) σ (t1 && t2) σ := by
  cases t1 with
  | true => exact t_andT h h2
  | false => exact t_andF h
end
section
variable {q : Pm} {os : List O} {n i j k b se ri si : Nat} {x y w h W H : Int} {r r' : V} {s : R} {l : List V} {t : Bool}
theorem fit542 (X : Ok q) {b : V} (hi : os[i]? = some (s.o r)) : EvC (cx q) (n + 2) 542 [b, .obj i, .int w, .int h] [] os (fitV (if w > s.w ∨ h > s.h then none else some (min (s.w - w) (s.h - h)))) os := by
  by_cases hc : w > s.w ∨ h > s.h
  · rw [if_pos hc]
    exact c_fn X.g (X.fn 16 rfl rfl) rfl (bind4 fun _ _ _ _ => rfl) (b_ret (s_ifT (t_orB (t_cmp (e_loc X.g 7 rfl rfl rfl) (e_att X.g 7 (e_loc X.g 23 rfl rfl rfl) rfl hi rfl rfl) c_gt) (t_orB (t_cmp (e_loc X.g 8 rfl rfl rfl) (e_att X.g 8 (e_loc X.g 23 rfl rfl rfl) rfl hi rfl rfl) c_gt) t_or0)) (by simpa using hc) (b_ret (s_ret e_none)))) (.inl rfl)
  · rw [if_neg hc]
    exact c_fn X.g (X.fn 16 rfl rfl) rfl (bind4 fun _ _ _ _ => rfl) (b_cons (s_ifF (t_orB (t_cmp (e_loc X.g 7 rfl rfl rfl) (e_att X.g 7 (e_loc X.g 23 rfl rfl rfl) rfl hi rfl rfl) c_gt) (t_orB (t_cmp (e_loc X.g 8 rfl rfl rfl) (e_att X.g 8 (e_loc X.g 23 rfl rfl rfl) rfl hi rfl rfl) c_gt) t_or0)) (by simpa using hc) b_nil)
    (b_ret (s_ret (e_call X.g (e_glob X.g 127 rfl rfl rfl) (a_pos rfl (l_cons (e_sub (e_att X.g 7 (e_loc X.g 23 rfl rfl rfl) rfl hi rfl rfl) (e_loc X.g 7 rfl rfl rfl)) (l_cons (e_sub (e_att X.g 8 (e_loc X.g 23 rfl rfl rfl) rfl hi rfl rfl) (e_loc X.g 8 rfl rfl rfl)) l_nil))) rfl f_min)))) (.inl rfl)
theorem fit523 (X : Ok q) {b : V} (hi : os[i]? = some (s.o r)) : EvC (cx q) (n + 2) 523 [b, .obj i, .int w, .int h] [] os (fitV (if w > s.w ∨ h > s.h then none else some (max (s.w - w) (s.h - h)))) os := by
  by_cases hc : w > s.w ∨ h > s.h
  · rw [if_pos hc]
    exact c_fn X.g (X.fn 15 rfl rfl) rfl (bind4 fun _ _ _ _ => rfl) (b_ret (s_ifT (t_orB (t_cmp (e_loc X.g 7 rfl rfl rfl) (e_att X.g 7 (e_loc X.g 23 rfl rfl rfl) rfl hi rfl rfl) c_gt) (t_orB (t_cmp (e_loc X.g 8 rfl rfl rfl) (e_att X.g 8 (e_loc X.g 23 rfl rfl rfl) rfl hi rfl rfl) c_gt) t_or0)) (by simpa using hc) (b_ret (s_ret e_none)))) (.inl rfl)
  · rw [if_neg hc]
    exact c_fn X.g (X.fn 15 rfl rfl) rfl (bind4 fun _ _ _ _ => rfl) (b_cons (s_ifF (t_orB (t_cmp (e_loc X.g 7 rfl rfl rfl) (e_att X.g 7 (e_loc X.g 23 rfl rfl rfl) rfl hi rfl rfl) c_gt) (t_orB (t_cmp (e_loc X.g 8 rfl rfl rfl) (e_att X.g 8 (e_loc X.g 23 rfl rfl rfl) rfl hi rfl rfl) c_gt) t_or0)) (by simpa using hc) b_nil)
    (b_ret (s_ret (e_call X.g (e_glob X.g 128 rfl rfl rfl) (a_pos rfl (l_cons (e_sub (e_att X.g 7 (e_loc X.g 23 rfl rfl rfl) rfl hi rfl rfl) (e_loc X.g 7 rfl rfl rfl)) (l_cons (e_sub (e_att X.g 8 (e_loc X.g 23 rfl rfl rfl) rfl hi rfl rfl) (e_loc X.g 8 rfl rfl rfl)) l_nil))) rfl f_max)))) (.inl rfl)
theorem fit504 (X : Ok q) {b : V} (hi : os[i]? = some (s.o r)) (h1 : small s.w) (h2 : small s.h) (h3 : small w) (h4 : small h) : EvC (cx q) (n + 2) 504 [b, .obj i, .int w, .int h] [] os (fitV (if w > s.w ∨ h > s.h then none else some (s.w * s.h - w * h))) os := by
  by_cases hc : w > s.w ∨ h > s.h
  · rw [if_pos hc]
    exact c_fn X.g (X.fn 14 rfl rfl) rfl (bind4 fun _ _ _ _ => rfl) (b_ret (s_ifT (t_orB (t_cmp (e_loc X.g 7 rfl rfl rfl) (e_att X.g 7 (e_loc X.g 23 rfl rfl rfl) rfl hi rfl rfl) c_gt) (t_orB (t_cmp (e_loc X.g 8 rfl rfl rfl) (e_att X.g 8 (e_loc X.g 23 rfl rfl rfl) rfl hi rfl rfl) c_gt) t_or0)) (by simpa using hc) (b_ret (s_ret e_none)))) (.inl rfl)
  · rw [if_neg hc]
    exact c_fn X.g (X.fn 14 rfl rfl) rfl (bind4 fun _ _ _ _ => rfl) (b_cons (s_ifF (t_orB (t_cmp (e_loc X.g 7 rfl rfl rfl) (e_att X.g 7 (e_loc X.g 23 rfl rfl rfl) rfl hi rfl rfl) c_gt) (t_orB (t_cmp (e_loc X.g 8 rfl rfl rfl) (e_att X.g 8 (e_loc X.g 23 rfl rfl rfl) rfl hi rfl rfl) c_gt) t_or0)) (by simpa using hc) b_nil)
    (b_ret (s_ret (e_sub (e_meth X.g 43 (e_loc X.g 23 rfl rfl rfl) rfl hi rfl rfl rfl (a_pos rfl l_nil) (area_run X hi h1 h2) rfl) (e_mul h3 h4 (e_loc X.g 7 rfl rfl rfl) (e_loc X.g 8 rfl rfl rfl)))))) (.inl rfl)
theorem fit_run (X : Ok q) {b : V} (hi : os[i]? = some (s.o r)) (h1 : small s.w) (h2 : small s.h) (h3 : small w) (h4 : small h) (hk : k < 18) : EvC (cx q) (n + 2) (542 - 19 * (k / 6)) [b, .obj i, .int w, .int h] [] os (fitV (fitF k s w h)) os := by
  unfold fitF
  have : k / 6 = 0 ∨ k / 6 = 1 ∨ k / 6 = 2 := by omega
  rcases this with e | e | e <;> rw [e]
  · exact fit542 X hi
  · exact fit523 X hi
  · exact fit504 X hi h1 h2 h3 h4
theorem ne_bin (hb : os[b]? = some (binO k W H t ri si se)) (hi : os[i]? = some (rectO x y w h r)) : i ≠ b := fun e => by
  subst e; rw [hb] at hi
  have := Option.some.inj hi
  unfold binO rectO at this
  injection this
  omega
theorem ne_lst (hs : os[se]? = some (.list l)) (hi : os[i]? = some (rectO x y w h r)) : i ≠ se := fun e => by
  subst e; rw [hs] at hi; cases hi
theorem ne_lb (hs : os[se]? = some (.list l)) (hb : os[b]? = some (binO k W H t ri si j)) : se ≠ b := fun e => by
  subst e; rw [hs] at hb; cases hb
theorem addsec_run (X : Ok q) (hk : k < 18) (hb : os[b]? = some (binO k W H t ri si se)) (hi : os[i]? = some (rectO x y w h r)) (hs : os[se]? = some (.list l)) (hl : l.length < lim) : EvC (cx q) (n + 2) 427 [.obj b, .obj i] [] os .none ((os.set i (rectO x y w h (.int 0))).set se (.list (l ++ [.obj i]))) :=
  have hb1 := get_ne (o' := rectO x y w h (.int 0)) hb (ne_bin hb hi)
  have hs1 := get_ne (o' := rectO x y w h (.int 0)) hs (ne_lst hs hi)
  c_fn X.g (X.fn 7 rfl rfl) rfl (bind2 fun _ _ => rfl) (b_cons (s_att X.g 9 rfl e_int (e_loc X.g 23 rfl rfl rfl) hi rfl (Nat.le_of_ble_eq_true rfl))
    (b_cons (s_asg 24 rfl rfl e_int)
    (b_cons (s_while0 (t_andF (t_att (e_att X.g 21 (e_loc X.g 4 rfl rfl rfl) rfl hb1 (at_k hk rfl) rfl) tr_bool)))
    (b_cons (s_expr (e_append (e_att X.g 25 (e_loc X.g 4 rfl rfl rfl) rfl hb1 (at_k hk rfl) rfl) hs1 (a_pos rfl (l_cons (e_loc X.g 23 rfl rfl rfl) l_nil)) hs1 hl rfl))
    b_nil)))) (.inr ⟨rfl, rfl⟩)
theorem new_to : ((os ++ [rectO x y w h r]).set os.length (rectO x y w h r')).set se (.list (l ++ [.obj os.length])) = (os ++ [rectO x y w h r']).set se (.list (l ++ [.obj os.length])) := by rw [set_end]
theorem cond_add (X : Ok q) (hk : k < 18) (hb : os[b]? = some (binO k W H t ri si se)) (hs : os[se]? = some (.list l)) (hl : l.length < lim) {sc : Scope} {vs : Nat → Option V} {tt : Bool} {e : Expr} {es : List Expr} {sn an rn : Str} {p1 p2 p3 p4 p5 p6 p7 : Pos}
    (h1 : EvT (cx q) (n + 3) sc e ⟨vs, os⟩ tt ⟨vs, os⟩) (h2 : EvE (cx q) (n + 3) sc (.Name sn p1) ⟨vs, os⟩ (.obj b) ⟨vs, os⟩) (h3 : nm02 28 = an) (h4 : nm02 133 = rn) (h5 : sc.names.lookup rn = some .globalImplicit) (h6 : EvL (cx q) (n + 3) sc es ⟨vs, os⟩ [.int x, .int y, .int w, .int h] ⟨vs, os⟩) (h7 : notLone es = true) (hw : tt = true → 0 ≤ w ∧ 0 ≤ h) (hp : plainCall [.Call (.Name rn p3) es [] p4] [] p2 p5 = true) :
    EvS (cx q) (n + 3) sc (.If e [.Expr (.Call (.Attribute (.Name sn p1) an p2) [.Call (.Name rn p3) es [] p4] [] p5) p6] [] p7) ⟨vs, os⟩ .nxt ⟨vs, addS os se l (bif tt then [⟨x, y, w, h⟩] else [])⟩ := by
  cases tt with
  | true =>
    obtain ⟨w1, w2⟩ := hw rfl
    have := s_ifT (pos := p7) (bd' := []) h1 rfl (b_cons (s_expr (pos := p6) (e_meth X.g 28 h2 h3 hb (at_k hk rfl) rfl rfl (a_pos rfl (l_cons (e_call X.g (e_glob X.g 133 h4 h5 rfl) (a_pos h7 h6) rfl (f_top (rect_new X w1 w2))) l_nil)) ((addsec_run (n := n + 1) X hk (get_app hb) get_end (get_app hs) hl).to new_to) hp)) b_nil)
    exact this
  | false =>
    have e1 : addS os se l [] = os := by
      unfold addS
      rw [List.map_nil, List.append_nil, List.length_nil, List.range_zero, List.map_nil, List.append_nil]
      obtain ⟨h1, h2⟩ := List.getElem?_eq_some_iff.mp hs
      rw [← h2]; exact List.set_getElem_self h1
    show EvS _ _ _ _ _ _ ⟨vs, addS os se l []⟩
    rw [e1]
    exact s_ifF h1 rfl b_nil
end
end Rw
namespace Rw
open PySem PySem.W PySem.Calls PyProof.Rows
theorem small_mono {a b : Int} (h : a.natAbs ≤ b.natAbs) (hb : small b) : small a := by
  unfold small Builtin.Int.intBits at *
  simp only [beq_iff_eq] at *
  by_cases h0 : a = 0
  · rw [if_pos h0]; exact Nat.zero_le _
  · rw [if_neg h0]
    rw [if_neg fun e => h0 (by subst e; exact Int.natAbs_eq_zero.mp (Nat.le_zero.mp h))] at hb
    refine Nat.le_trans (Nat.succ_le_succ ?_) hb
    rw [Nat.le_log2 (by omega)]
    exact Nat.le_trans (Nat.log2_self_le (by omega)) h
noncomputable def newsH (s : R) (w h : Int) : List R := (bif decide (h < s.h) then [⟨s.x, s.y + h, s.w, s.h - h⟩] else []) ++ (bif decide (w < s.w) then [⟨s.x + w, s.y, s.w - w, h⟩] else [])
noncomputable def newsV (s : R) (w h : Int) : List R := (bif decide (h < s.h) then [⟨s.x, s.y + h, w, s.h - h⟩] else []) ++ (bif decide (w < s.w) then [⟨s.x + w, s.y, s.w - w, s.h⟩] else [])
noncomputable def horB (j : Nat) (s : R) (w h : Int) : Bool := match j with
  | 0 => decide (s.w < s.h)
  | 1 => decide (s.w ≥ s.h)
  | 2 => decide (s.w - w < s.h - h)
  | 3 => decide (s.w - w ≥ s.h - h)
  | 4 => decide (w * (s.h - h) ≤ h * (s.w - w))
  | _ => decide (w * (s.h - h) ≥ h * (s.w - w))
noncomputable def splitL (k : Nat) (s : R) (w h : Int) : List R := bif horB (k % 6) s w h then newsH s w h else newsV s w h
noncomputable def objs (a n : Nat) : List V := (List.range n).map fun j => .obj (a + j)
section
variable {q : Pm} {os : List O} {n i j k b se ri si : Nat} {x y w h W H : Int} {r r' : V} {s : R} {l : List V} {t : Bool} {o : O} {ns ms : List R}
theorem addS_len : (addS os se l ns).length = os.length + ns.length := by unfold addS; rw [List.length_set, List.length_append, List.length_map]
theorem addS_get (h : os[i]? = some o) (hi : i ≠ se) : (addS os se l ns)[i]? = some o := by
  unfold addS
  rw [List.getElem?_set_ne (Ne.symm hi)]
  exact get_app h
theorem addS_se (h : se < os.length) : (addS os se l ns)[se]? = some (.list (l ++ objs os.length ns.length)) := List.getElem?_set_self (by rw [List.length_append]; exact Nat.lt_of_lt_of_le h (Nat.le_add_right _ _))
theorem addS_app (h : se < os.length) : addS (addS os se l ns) se (l ++ objs os.length ns.length) ms = addS os se l (ns ++ ms) := by
  have hs : ∀ z : O, (os ++ ns.map fun s => s.o (.int 0)).set se z = os.set se z ++ ns.map fun s => s.o (.int 0) := fun z => List.set_append_left _ _ h
  unfold addS objs
  rw [List.length_set, List.length_append, List.length_map, List.map_append, List.length_append, List.range_add, List.map_append, List.map_map]
  have e : ∀ (a b c : List O) (z z' : O), se < a.length → ((a ++ b).set se z ++ c).set se z' = (a ++ (b ++ c)).set se z' := fun a b c z z' h => by
    rw [List.set_append_left _ _ h, List.append_assoc, List.set_append_left _ _ (by rw [List.length_set]; exact h), List.set_set, List.set_append_left _ _ h]
  rw [e _ _ _ _ _ h, List.append_assoc]
  refine congrArg _ (congrArg _ (congrArg _ (congrArg _ (List.map_congr_left fun j _ => ?_))))
  exact congrArg V.obj (Nat.add_assoc _ _ _)
theorem lim1 {b : Bool} {x : R} (h : l.length + 1 < lim) : (l ++ objs os.length (bif b then [x] else []).length).length < lim := by
  unfold objs
  rw [List.length_append, List.length_map, List.length_range]
  cases b
  · exact Nat.lt_of_succ_lt h
  · exact h
theorem splitH_run (X : Ok q) (hk : k < 18) (hb : os[b]? = some (binO k W H t ri si se)) (hi : os[i]? = some (s.o r)) (hs : os[se]? = some (.list l)) (hl : l.length + 1 < lim) (hw : 0 ≤ s.w) (hh : 0 ≤ h) : EvC (cx q) (n + 4) 434 [.obj b, .obj i, .int w, .int h] [] os .none (addS os se l (newsH s w h)) :=
  have hse := (List.getElem?_eq_some_iff.mp hs).1
  have hi' := fun {m} => addS_get (l := l) (ns := m) hi (ne_lst hs hi)
  (c_fn X.g (X.fn 8 rfl rfl) rfl (bind4 fun _ _ _ _ => rfl) (b_cons (cond_add X hk hb hs (Nat.lt_of_succ_lt hl) (t_cmp (e_loc X.g 8 rfl rfl rfl) (e_att X.g 8 (e_loc X.g 23 rfl rfl rfl) rfl hi rfl rfl) c_lt) (e_loc X.g 4 rfl rfl rfl) rfl rfl rfl (l_cons (e_att X.g 5 (e_loc X.g 23 rfl rfl rfl) rfl hi rfl rfl) (l_cons (e_add (e_att X.g 6 (e_loc X.g 23 rfl rfl rfl) rfl hi rfl rfl) (e_loc X.g 8 rfl rfl rfl)) (l_cons (e_att X.g 7 (e_loc X.g 23 rfl rfl rfl) rfl hi rfl rfl) (l_cons (e_sub (e_att X.g 8 (e_loc X.g 23 rfl rfl rfl) rfl hi rfl rfl) (e_loc X.g 8 rfl rfl rfl)) l_nil)))) rfl (fun hc => ⟨hw, Int.sub_nonneg.mpr (Int.le_of_lt (of_decide_eq_true hc))⟩) rfl)
    (b_cons (cond_add X hk (addS_get hb (Ne.symm (ne_lb hs hb))) (addS_se hse) (lim1 hl) (t_cmp (e_loc X.g 7 rfl rfl rfl) (e_att X.g 7 (e_loc X.g 23 rfl rfl rfl) rfl hi' rfl rfl) c_lt) (e_loc X.g 4 rfl rfl rfl) rfl rfl rfl (l_cons (e_add (e_att X.g 5 (e_loc X.g 23 rfl rfl rfl) rfl hi' rfl rfl) (e_loc X.g 7 rfl rfl rfl)) (l_cons (e_att X.g 6 (e_loc X.g 23 rfl rfl rfl) rfl hi' rfl rfl) (l_cons (e_sub (e_att X.g 7 (e_loc X.g 23 rfl rfl rfl) rfl hi' rfl rfl) (e_loc X.g 7 rfl rfl rfl)) (l_cons (e_loc X.g 8 rfl rfl rfl) l_nil)))) rfl (fun hc => ⟨Int.sub_nonneg.mpr (Int.le_of_lt (of_decide_eq_true hc)), hh⟩) rfl)
    b_nil)) (.inr ⟨rfl, rfl⟩)).to (addS_app hse)
theorem splitV_run (X : Ok q) (hk : k < 18) (hb : os[b]? = some (binO k W H t ri si se)) (hi : os[i]? = some (s.o r)) (hs : os[se]? = some (.list l)) (hl : l.length + 1 < lim) (hw : 0 ≤ w) (hh : 0 ≤ s.h) : EvC (cx q) (n + 4) 441 [.obj b, .obj i, .int w, .int h] [] os .none (addS os se l (newsV s w h)) :=
  have hse := (List.getElem?_eq_some_iff.mp hs).1
  have hi' := fun {m} => addS_get (l := l) (ns := m) hi (ne_lst hs hi)
  (c_fn X.g (X.fn 9 rfl rfl) rfl (bind4 fun _ _ _ _ => rfl) (b_cons (cond_add X hk hb hs (Nat.lt_of_succ_lt hl) (t_cmp (e_loc X.g 8 rfl rfl rfl) (e_att X.g 8 (e_loc X.g 23 rfl rfl rfl) rfl hi rfl rfl) c_lt) (e_loc X.g 4 rfl rfl rfl) rfl rfl rfl (l_cons (e_att X.g 5 (e_loc X.g 23 rfl rfl rfl) rfl hi rfl rfl) (l_cons (e_add (e_att X.g 6 (e_loc X.g 23 rfl rfl rfl) rfl hi rfl rfl) (e_loc X.g 8 rfl rfl rfl)) (l_cons (e_loc X.g 7 rfl rfl rfl) (l_cons (e_sub (e_att X.g 8 (e_loc X.g 23 rfl rfl rfl) rfl hi rfl rfl) (e_loc X.g 8 rfl rfl rfl)) l_nil)))) rfl (fun hc => ⟨hw, Int.sub_nonneg.mpr (Int.le_of_lt (of_decide_eq_true hc))⟩) rfl)
    (b_cons (cond_add X hk (addS_get hb (Ne.symm (ne_lb hs hb))) (addS_se hse) (lim1 hl) (t_cmp (e_loc X.g 7 rfl rfl rfl) (e_att X.g 7 (e_loc X.g 23 rfl rfl rfl) rfl hi' rfl rfl) c_lt) (e_loc X.g 4 rfl rfl rfl) rfl rfl rfl (l_cons (e_add (e_att X.g 5 (e_loc X.g 23 rfl rfl rfl) rfl hi' rfl rfl) (e_loc X.g 7 rfl rfl rfl)) (l_cons (e_att X.g 6 (e_loc X.g 23 rfl rfl rfl) rfl hi' rfl rfl) (l_cons (e_sub (e_att X.g 7 (e_loc X.g 23 rfl rfl rfl) rfl hi' rfl rfl) (e_loc X.g 7 rfl rfl rfl)) (l_cons (e_att X.g 8 (e_loc X.g 23 rfl rfl rfl) rfl hi' rfl rfl) l_nil)))) rfl (fun hc => ⟨Int.sub_nonneg.mpr (Int.le_of_lt (of_decide_eq_true hc)), hh⟩) rfl)
    b_nil)) (.inr ⟨rfl, rfl⟩)).to (addS_app hse)
theorem lt18 {P : Nat → Prop} (h0 : P 0) (h1 : P 1) (h2 : P 2) (h3 : P 3) (h4 : P 4) (h5 : P 5) (h6 : P 6) (h7 : P 7) (h8 : P 8) (h9 : P 9) (h10 : P 10) (h11 : P 11) (h12 : P 12) (h13 : P 13) (h14 : P 14) (h15 : P 15) (h16 : P 16) (h17 : P 17) {k : Nat} (hk : k < 18) : P k :=
  match k, hk with
  | 0, _ => h0
  | 1, _ => h1
  | 2, _ => h2
  | 3, _ => h3
  | 4, _ => h4
  | 5, _ => h5
  | 6, _ => h6
  | 7, _ => h7
  | 8, _ => h8
  | 9, _ => h9
  | 10, _ => h10
  | 11, _ => h11
  | 12, _ => h12
  | 13, _ => h13
  | 14, _ => h14
  | 15, _ => h15
  | 16, _ => h16
  | 17, _ => h17
  | k + 18, hk => absurd hk (Nat.not_lt.mpr (Nat.le_add_left ..))
structure SpE (q : Pm) (n : Nat) (sc : Scope) (σ : Sg) (s : R) (i : Nat) (w h : Int) (xn wn hn : Str) : Prop where
  x {p} : EvE (cx q) n sc (.Name xn p) σ (.obj i) σ
  w {p} : EvE (cx q) n sc (.Name wn p) σ (.int w) σ
  h {p} : EvE (cx q) n sc (.Name hn p) σ (.int h) σ
  a {p p'} : EvE (cx q) n sc (.Attribute (.Name xn p) wn p') σ (.int s.w) σ
  b {p p'} : EvE (cx q) n sc (.Attribute (.Name xn p) hn p') σ (.int s.h) σ
section
variable {sc : Scope} {σ : Sg} {xn wn hn : Str} {p1 p2 p3 p4 : Pos}
theorem spE {b : V} (X : Ok q) (hi : os[i]? = some (s.o r)) (h1 : nm02 23 = xn) (h2 : nm02 7 = wn) (h3 : nm02 8 = hn) (l1 : locB sc xn = true) (l2 : locB sc wn = true) (l3 : locB sc hn = true) : SpE q n sc ⟨varsOf [(4, b), (23, .obj i), (7, .int w), (8, .int h)], os⟩ s i w h xn wn hn :=
  ⟨e_loc X.g 23 h1 l1 rfl, e_loc X.g 7 h2 l2 rfl, e_loc X.g 8 h3 l3 rfl, e_att X.g 7 (e_loc X.g 23 h1 l1 rfl) h2 hi rfl rfl, e_att X.g 8 (e_loc X.g 23 h1 l1 rfl) h3 hi rfl rfl⟩
theorem SpE.sw (N : SpE q n sc σ s i w h xn wn hn) : EvE (cx q) n sc (.BinOp (.Attribute (.Name xn p1) wn p2) .Sub (.Name wn p3) p4) σ (.int (s.w - w)) σ := e_sub N.a N.w
theorem SpE.sh (N : SpE q n sc σ s i w h xn wn hn) : EvE (cx q) n sc (.BinOp (.Attribute (.Name xn p1) hn p2) .Sub (.Name hn p3) p4) σ (.int (s.h - h)) σ := e_sub N.b N.h
end
theorem spl_run (X : Ok q) (hk : k < 18) (hb : os[b]? = some (binO k W H t ri si se)) (hi : os[i]? = some (s.o r)) (hs : os[se]? = some (.list l)) (hl : l.length + 1 < lim) (hw : 0 < w) (hh : 0 < h) (hw' : w ≤ s.w) (hh' : h ≤ s.h)
    {f : Nat} {fd : FuncData} {sn an rn xn wn hn : Str} {e : Expr} {p1 p2 p3 p4 p5 p6 p7 p8 p9 p10 p11 p12 p13 p14 p15 : Pos} (F : FnAt (cx q) f [4, 23, 7, 8] [.If e [.Return (some (.Call (.Attribute (.Name sn p1) an p2) [.Name xn p10, .Name wn p11, .Name hn p12] [] p3)) p4] [.Return (some (.Call (.Attribute (.Name sn p5) rn p6) [.Name xn p13, .Name wn p14, .Name hn p15] [] p7)) p8] p9] fd)
    (hbd : BindJ (cx q) fd [.obj b, .obj i, .int w, .int h] [] os [(4, .obj b), (23, .obj i), (7, .int w), (8, .int h)] os) (h1 : nm02 44 = an) (h2 : nm02 45 = rn) (h3 : nm02 4 = sn) (h4 : locB fd.scope sn = true) (h6 : (p2.endLine == p3.line) = true) (h6' : (p6.endLine == p7.line) = true)
    (N : SpE q (n + 4) fd.scope ⟨varsOf [(4, .obj b), (23, .obj i), (7, .int w), (8, .int h)], os⟩ s i w h xn wn hn)
    {tt : Bool} (ht : SpE q (n + 4) fd.scope ⟨varsOf [(4, .obj b), (23, .obj i), (7, .int w), (8, .int h)], os⟩ s i w h xn wn hn → EvT (cx q) (n + 4) fd.scope e ⟨varsOf [(4, .obj b), (23, .obj i), (7, .int w), (8, .int h)], os⟩ tt ⟨varsOf [(4, .obj b), (23, .obj i), (7, .int w), (8, .int h)], os⟩) :
    EvC (cx q) (n + 5) f [.obj b, .obj i, .int w, .int h] [] os .none (addS os se l (bif tt then newsH s w h else newsV s w h)) := by
  have w0 := Int.le_of_lt hw
  have h0 := Int.le_of_lt hh
  have run1 := splitH_run (n := n) (w := w) X hk hb hi hs hl (Int.le_trans w0 hw') h0
  have run2 := splitV_run (n := n) (h := h) X hk hb hi hs hl w0 (Int.le_trans h0 hh')
  refine c_fn (σ' := ⟨varsOf [(4, .obj b), (23, .obj i), (7, .int w), (8, .int h)], addS os se l (bif tt then newsH s w h else newsV s w h)⟩) X.g F rfl hbd (b_ret (s_if (ht N) ?_)) (.inl rfl)
  cases tt with
  | true => exact b_ret (s_ret (e_meth X.g 44 (e_loc X.g 4 h3 h4 rfl) h1 hb (at_k hk rfl) rfl rfl (a_pos rfl (l_cons N.x (l_cons N.w (l_cons N.h l_nil)))) run1 h6))
  | false => exact b_ret (s_ret (e_meth X.g 45 (e_loc X.g 4 h3 h4 rfl) h2 hb (at_k hk rfl) rfl rfl (a_pos rfl (l_cons N.x (l_cons N.w (l_cons N.h l_nil)))) run2 h6'))
theorem small_sub {a b : Int} (h0 : 0 ≤ b) (h1 : b ≤ a) (h : small a) : small (a - b) := small_mono (by omega) h
theorem split_run (X : Ok q) (hk : k < 18) (hb : os[b]? = some (binO k W H t ri si se)) (hi : os[i]? = some (s.o r)) (hs : os[se]? = some (.list l)) (hl : l.length + 1 < lim) (hw : 0 < w) (hh : 0 < h) (hw' : w ≤ s.w) (hh' : h ≤ s.h) (sw : small s.w) (sh : small s.h) :
    EvC (cx q) (n + 5) (561 + 19 * k) [.obj b, .obj i, .int w, .int h] [] os .none (addS os se l (splitL k s w h)) := by
  have m1 : small w := small_mono (by omega) sw
  have m2 : small h := small_mono (by omega) sh
  have m3 : small (s.w - w) := small_sub (by omega) hw' sw
  have m4 : small (s.h - h) := small_sub (by omega) hh' sh
  revert hb
  exact lt18 (P := fun k => os[b]? = some (binO k W H t ri si se) → EvC (cx q) (n + 5) (561 + 19 * k) [.obj b, .obj i, .int w, .int h] [] os .none (addS os se l (splitL k s w h)))
    (fun hb => spl_run X (by decide) hb hi hs hl hw hh hw' hh' (X.fn 17 rfl rfl) (bind4 fun _ _ _ _ => rfl) rfl rfl rfl rfl rfl rfl (spE X hi rfl rfl rfl rfl rfl rfl) fun N => t_cmp N.a N.b c_lt)
    (fun hb => spl_run X (by decide) hb hi hs hl hw hh hw' hh' (X.fn 18 rfl rfl) (bind4 fun _ _ _ _ => rfl) rfl rfl rfl rfl rfl rfl (spE X hi rfl rfl rfl rfl rfl rfl) fun N => t_cmp N.a N.b c_ge)
    (fun hb => spl_run X (by decide) hb hi hs hl hw hh hw' hh' (X.fn 19 rfl rfl) (bind4 fun _ _ _ _ => rfl) rfl rfl rfl rfl rfl rfl (spE X hi rfl rfl rfl rfl rfl rfl) fun N => t_cmp N.sw N.sh c_lt)
    (fun hb => spl_run X (by decide) hb hi hs hl hw hh hw' hh' (X.fn 20 rfl rfl) (bind4 fun _ _ _ _ => rfl) rfl rfl rfl rfl rfl rfl (spE X hi rfl rfl rfl rfl rfl rfl) fun N => t_cmp N.sw N.sh c_ge)
    (fun hb => spl_run X (by decide) hb hi hs hl hw hh hw' hh' (X.fn 21 rfl rfl) (bind4 fun _ _ _ _ => rfl) rfl rfl rfl rfl rfl rfl (spE X hi rfl rfl rfl rfl rfl rfl) fun N => t_cmp (e_mul m1 m4 N.w N.sh) (e_mul m2 m3 N.h N.sw) c_le)
    (fun hb => spl_run X (by decide) hb hi hs hl hw hh hw' hh' (X.fn 22 rfl rfl) (bind4 fun _ _ _ _ => rfl) rfl rfl rfl rfl rfl rfl (spE X hi rfl rfl rfl rfl rfl rfl) fun N => t_cmp (e_mul m1 m4 N.w N.sh) (e_mul m2 m3 N.h N.sw) c_ge)
    (fun hb => spl_run X (by decide) hb hi hs hl hw hh hw' hh' (X.fn 23 rfl rfl) (bind4 fun _ _ _ _ => rfl) rfl rfl rfl rfl rfl rfl (spE X hi rfl rfl rfl rfl rfl rfl) fun N => t_cmp N.a N.b c_lt)
    (fun hb => spl_run X (by decide) hb hi hs hl hw hh hw' hh' (X.fn 24 rfl rfl) (bind4 fun _ _ _ _ => rfl) rfl rfl rfl rfl rfl rfl (spE X hi rfl rfl rfl rfl rfl rfl) fun N => t_cmp N.a N.b c_ge)
    (fun hb => spl_run X (by decide) hb hi hs hl hw hh hw' hh' (X.fn 25 rfl rfl) (bind4 fun _ _ _ _ => rfl) rfl rfl rfl rfl rfl rfl (spE X hi rfl rfl rfl rfl rfl rfl) fun N => t_cmp N.sw N.sh c_lt)
    (fun hb => spl_run X (by decide) hb hi hs hl hw hh hw' hh' (X.fn 26 rfl rfl) (bind4 fun _ _ _ _ => rfl) rfl rfl rfl rfl rfl rfl (spE X hi rfl rfl rfl rfl rfl rfl) fun N => t_cmp N.sw N.sh c_ge)
    (fun hb => spl_run X (by decide) hb hi hs hl hw hh hw' hh' (X.fn 27 rfl rfl) (bind4 fun _ _ _ _ => rfl) rfl rfl rfl rfl rfl rfl (spE X hi rfl rfl rfl rfl rfl rfl) fun N => t_cmp (e_mul m1 m4 N.w N.sh) (e_mul m2 m3 N.h N.sw) c_le)
    (fun hb => spl_run X (by decide) hb hi hs hl hw hh hw' hh' (X.fn 28 rfl rfl) (bind4 fun _ _ _ _ => rfl) rfl rfl rfl rfl rfl rfl (spE X hi rfl rfl rfl rfl rfl rfl) fun N => t_cmp (e_mul m1 m4 N.w N.sh) (e_mul m2 m3 N.h N.sw) c_ge)
    (fun hb => spl_run X (by decide) hb hi hs hl hw hh hw' hh' (X.fn 29 rfl rfl) (bind4 fun _ _ _ _ => rfl) rfl rfl rfl rfl rfl rfl (spE X hi rfl rfl rfl rfl rfl rfl) fun N => t_cmp N.a N.b c_lt)
    (fun hb => spl_run X (by decide) hb hi hs hl hw hh hw' hh' (X.fn 30 rfl rfl) (bind4 fun _ _ _ _ => rfl) rfl rfl rfl rfl rfl rfl (spE X hi rfl rfl rfl rfl rfl rfl) fun N => t_cmp N.a N.b c_ge)
    (fun hb => spl_run X (by decide) hb hi hs hl hw hh hw' hh' (X.fn 31 rfl rfl) (bind4 fun _ _ _ _ => rfl) rfl rfl rfl rfl rfl rfl (spE X hi rfl rfl rfl rfl rfl rfl) fun N => t_cmp N.sw N.sh c_lt)
    (fun hb => spl_run X (by decide) hb hi hs hl hw hh hw' hh' (X.fn 32 rfl rfl) (bind4 fun _ _ _ _ => rfl) rfl rfl rfl rfl rfl rfl (spE X hi rfl rfl rfl rfl rfl rfl) fun N => t_cmp N.sw N.sh c_ge)
    (fun hb => spl_run X (by decide) hb hi hs hl hw hh hw' hh' (X.fn 33 rfl rfl) (bind4 fun _ _ _ _ => rfl) rfl rfl rfl rfl rfl rfl (spE X hi rfl rfl rfl rfl rfl rfl) fun N => t_cmp (e_mul m1 m4 N.w N.sh) (e_mul m2 m3 N.h N.sw) c_le)
    (fun hb => spl_run X (by decide) hb hi hs hl hw hh hw' hh' (X.fn 34 rfl rfl) (bind4 fun _ _ _ _ => rfl) rfl rfl rfl rfl rfl rfl (spE X hi rfl rfl rfl rfl rfl rfl) fun N => t_cmp (e_mul m1 m4 N.w N.sh) (e_mul m2 m3 N.h N.sw) c_ge) hk
end
end Rw
namespace Rw
open PySem PySem.W PySem.Calls PyProof.Rows
inductive All2 {α β : Type} (P : α → β → Prop) : List α → List β → Prop
  | nil : All2 P [] []
  | cons {a b l m} : P a b → All2 P l m → All2 P (a :: l) (b :: m)
section
variable {α β : Type} {P Q : α → β → Prop} {l l' : List α} {m m' : List β}
theorem All2.mono (h : ∀ a b, P a b → Q a b) (d : All2 P l m) : All2 Q l m := by
  induction d with
  | nil => exact .nil
  | cons a _ ih => exact .cons (h _ _ a) ih
theorem All2.len (d : All2 P l m) : l.length = m.length := by
  induction d with
  | nil => rfl
  | cons _ _ ih => exact congrArg (· + 1) ih
theorem All2.app (d : All2 P l m) (e : All2 P l' m') : All2 P (l ++ l') (m ++ m') := by
  induction d with
  | nil => exact e
  | cons a _ ih => exact .cons a ih
theorem All2.get (d : All2 P l m) : ∀ {j : Nat} {b : β}, m[j]? = some b → ∃ a, l[j]? = some a ∧ P a b := by
  induction d with
  | nil => exact fun h => nomatch h
  | cons a _ ih =>
    intro j b h
    cases j with
    | zero => cases h; exact ⟨_, rfl, a⟩
    | succ j => exact ih (j := j) h
theorem All2.erase (d : All2 P l m) : ∀ {j : Nat}, All2 P (l.eraseIdx j) (m.eraseIdx j) := by
  induction d with
  | nil => exact .nil
  | cons a d ih =>
    intro j
    cases j with
    | zero => exact d
    | succ j => exact .cons a ih
end
abbrev Rcs (os : List O) (l : List Nat) (m : List R) : Prop := All2 (fun i s => os[i]? = some (R.o s (.int 0))) l m
noncomputable def okR (s : R) : Prop := small s.w ∧ small s.h
abbrev Cd := Int × Nat × R × Bool
noncomputable def cand (k : Nat) (rev : Bool) (w h : Int) : List Nat → List R → List Cd
  | i :: l, s :: m => match fitF k s w h with
    | some f => (f, i, s, rev) :: cand k rev w h l m
    | none => cand k rev w h l m
  | _, _ => []
noncomputable def Cd.l (c : Cd) : List V := [.int c.1, .obj c.2.1, .bool c.2.2.2]
noncomputable def bestF {β : Type} : Option (Int × β) → List (Int × β) → Option (Int × β)
  | b, [] => b
  | none, c :: l => bestF (some c) l
  | some b, c :: l => if c.1 < b.1 then bestF (some c) l else bestF (some b) l
abbrev Cds (os : List O) (vs : List V) (cs : List Cd) : Prop := All2 (fun v c => ∃ p, v = .obj p ∧ os[p]? = some (.tup (Cd.l c))) vs cs
section
variable {os os' : List O} {vs us : List V} {cs ds : List Cd}
theorem Cds.mono (h : ∀ (p : Nat) (l : List V), os[p]? = some (O.tup l) → os'[p]? = some (O.tup l)) (d : Cds os vs cs) : Cds os' vs cs := All2.mono (fun _ _ ⟨p, e1, e2⟩ => ⟨p, e1, h _ _ e2⟩) d
theorem cand_len {k : Nat} {rev : Bool} {w h : Int} : ∀ {l : List Nat} {m : List R}, (cand k rev w h l m).length ≤ l.length
  | [], m => by unfold cand; exact Nat.le_refl _
  | i :: l, [] => by unfold cand; exact Nat.zero_le _
  | i :: l, s :: m => by
    unfold cand
    split
    · exact Nat.succ_le_succ cand_len
    · exact Nat.le_succ_of_le cand_len
theorem best_go {vs : List V} {cs : List Cd} (dd : Cds os vs cs) : ∀ (b : Option (Cd × Nat)), (∀ x, b = some x → os[x.2]? = some (.tup (Cd.l x.1))) → ∀ c, bestF (b.map (·.1)) cs = some c → ∃ p, MinGo os 0 vs (b.map fun x => (x.1.1, .obj x.2)) (.obj p) ∧ os[p]? = some (.tup (Cd.l c)) := by
  induction dd with
  | nil =>
    intro b hb c h
    cases b with
    | none => cases h
    | some x =>
      cases (show some x.1 = some c from h)
      exact ⟨x.2, .nil, hb x rfl⟩
  | @cons v d vs cs a e ih =>
    intro b hb c h
    obtain ⟨p, rfl, a⟩ := a
    have key : ∀ y : Cd × Nat, bestF (some y.1) _ = some c → os[y.2]? = some (.tup (Cd.l y.1)) → stepB (b.map fun x => (x.1.1, .obj x.2)) d.1 (.obj p) = (y.1.1, .obj y.2) → ∃ p', MinGo os 0 (.obj p :: _) (b.map fun x => (x.1.1, .obj x.2)) (.obj p') ∧ os[p']? = some (.tup (Cd.l c)) := fun y h1 h2 h3 => by
      obtain ⟨p', g, h4⟩ := ih (some y) (fun x hx => by cases hx; exact h2) c h1
      exact ⟨p', .cons a (show 3 < lim by decide) rfl (by rw [h3]; exact g), h4⟩
    cases b with
    | none => exact key (d, p) h a rfl
    | some x =>
      have h : (if d.1 < x.1.1 then bestF (some d) _ else bestF (some x.1) _) = some c := h
      by_cases hc : d.1 < x.1.1
      · rw [if_pos hc] at h; exact key (d, p) h a (if_pos hc)
      · rw [if_neg hc] at h; exact key x h (hb x rfl) (if_neg hc)
end
section
variable {c : Cx} {n : Nat} {csc : Scope} {e1 elt : Expr} {vs0 : Nat → Option V} {pre : List O} {k se : Nat} {a b : Int} {rev : Bool} {tg : Str} {tp : Pos}
theorem get_mid {x x' y : O} {post ext : List O} : (pre ++ x :: (post ++ y :: ext))[(pre ++ x' :: post).length]? = some y := by
  have : (pre ++ x :: (post ++ y :: ext)) = (pre ++ x :: post) ++ y :: ext := by rw [List.append_assoc]; rfl
  rw [this, show (pre ++ x' :: post).length = (pre ++ x :: post).length by rw [List.length_append, List.length_append]; rfl]
  exact get_end
theorem sub_upd {x : Nat} {u : V} (h : vs0 x = none) : Sub vs0 (upd vs0 x u) := fun y v hy => by
  unfold upd
  by_cases e : y = x
  · subst e; rw [h] at hy; cases hy
  · rw [if_neg e]; exact hy
theorem cand_go (ht : c.nm 26 = tg) (hb : bndB csc tg = true) (h0 : vs0 26 = none) {ss : List Nat} (hs : pre[se]? = some (.list (ss.map .obj)))
    (h1 : ∀ {os : List O} {si : Nat} {s : R}, (∀ (i : Nat) o, pre[i]? = some o → os[i]? = some o) → pre[si]? = some (s.o (.int 0)) → okR s → EvT c n csc e1 ⟨upd vs0 26 (.obj si), os⟩ (fitF k s a b).isSome ⟨upd vs0 26 (.obj si), os⟩)
    (h2 : ∀ {os : List O} {si : Nat} {s : R} {f : Int}, (∀ (i : Nat) o, pre[i]? = some o → os[i]? = some o) → pre[si]? = some (s.o (.int 0)) → okR s → fitF k s a b = some f → EvE c n csc elt ⟨upd vs0 26 (.obj si), os⟩ (.obj os.length) ⟨upd vs0 26 (.obj si), os ++ [.tup (Cd.l (f, si, s, rev))]⟩) :
    ∀ (ss2 : List Nat) (secs : List R) (j : Nat) (acc : List V) (post : List O), ss.drop j = ss2 → Rcs pre ss2 secs → (∀ s ∈ secs, okR s) → acc.length + ss2.length < lim →
      ∃ ext us, CompGo c n csc (.Name tg tp) [e1] elt (.live se) pre.length vs0 ss2.length j (pre ++ .list acc :: post) (pre ++ .list (acc ++ us) :: (post ++ ext)) ∧ Cds (pre ++ .list (acc ++ us) :: (post ++ ext)) us (cand k rev a b ss2 secs) := by
  intro ss2
  induction ss2 with
  | nil =>
    intro secs j acc post hd hr _ _
    cases hr
    refine ⟨[], [], ?_, .nil⟩
    rw [List.append_nil, List.append_nil]
    refine .done (get_app hs) ?_
    rw [List.length_map]
    have := congrArg List.length hd
    rw [List.length_drop, List.length_nil] at this
    omega
  | cons si ss2 ih =>
    intro secs j acc post hd hr hok hl
    cases hr with
    | @cons _ s _ m hi hr =>
    have hj : ss[j]? = some si := by
      have := congrArg (fun l => l[0]?) hd
      rwa [List.getElem?_drop] at this
    have hd2 : ss.drop (j + 1) = ss2 := by rw [← List.drop_drop, hd]; rfl
    have keep : ∀ (i : Nat) o, pre[i]? = some o → (pre ++ .list acc :: post)[i]? = some o := fun i o h => get_app h
    have hv : (ss.map V.obj)[j]? = some (.obj si) := by rw [List.getElem?_map, hj]; rfl
    have t1 := h1 keep hi (hok s (.head _))
    unfold cand
    cases hf : fitF k s a b with
    | none =>
      rw [hf] at t1
      obtain ⟨ext, us, g, d⟩ := ih m (j + 1) acc post hd2 hr (fun x hx => hok x (.tail _ hx)) (Nat.lt_of_succ_lt hl)
      exact ⟨ext, us, .skip (get_app hs) hv (.name 26 ht hb) (.no t1) (sub_upd h0) g, d⟩
    | some f =>
      rw [hf] at t1
      have t2 := h2 keep hi (hok s (.head _)) hf
      obtain ⟨ext, us, g, d⟩ := ih m (j + 1) (acc ++ [V.obj (pre ++ O.list acc :: post).length]) (post ++ [O.tup (Cd.l (f, si, s, rev))]) hd2 hr (fun x hx => hok x (.tail _ hx)) (by rw [List.length_append]; simp only [List.length_cons, List.length_nil] at *; omega)
      rw [List.append_assoc, List.append_assoc] at g d
      refine ⟨.tup (Cd.l (f, si, s, rev)) :: ext, .obj (pre ++ O.list acc :: post).length :: us, ?_, .cons ⟨_, rfl, ?_⟩ d⟩
      · refine .take (u := .obj (pre ++ O.list acc :: post).length) (ll := acc) (get_app hs) hv (.name 26 ht hb) (.yes t1 .nil) t2 (sub_upd h0) (get_app get_end) (by simp only [List.length_cons] at hl; omega) ?_
        have e : ((pre ++ O.list acc :: post) ++ [O.tup (Cd.l (f, si, s, rev))]).set pre.length (O.list (acc ++ [V.obj (pre ++ O.list acc :: post).length])) = pre ++ O.list (acc ++ [V.obj (pre ++ O.list acc :: post).length]) :: (post ++ [O.tup (Cd.l (f, si, s, rev))]) := by
          rw [List.append_assoc, List.cons_append, set_end]
        rw [e]; exact g
      · exact get_mid
end
end Rw
namespace Rw
open PySem PySem.W PySem.Calls PyProof.Rows
noncomputable def ndB : List Str → Bool
  | [] => true
  | x :: l => !l.contains x && ndB l
theorem ndB_of : ∀ {l : List Str}, ndB l = true → l.Nodup
  | [], _ => .nil
  | x :: l, h => by
    unfold ndB at h
    rw [Bool.and_eq_true] at h
    refine List.nodup_cons.mpr ⟨fun hm => ?_, ndB_of h.2⟩
    rw [List.contains_iff_mem.mpr hm] at h
    cases h.1
noncomputable def inScB (sc csc : Scope) : Bool := csc.kind == .function && ndB (csc.names.map (·.1)) && csc.names.all fun p => match p.2 with
  | .local => true
  | .globalImplicit => true
  | .free => match sc.names.lookup p.1 with
    | some .cell => true
    | some .free => true
    | _ => false
  | _ => false
theorem inSc_of {sc csc : Scope} (h : inScB sc csc = true) : InSc sc csc := by
  unfold inScB at h
  rw [Bool.and_eq_true, Bool.and_eq_true] at h
  obtain ⟨⟨h1, h2⟩, h3⟩ := h
  have h3 := List.all_eq_true.mp h3
  refine ⟨eq_of_beq h1, ndB_of h2, fun p hp => ?_, fun p hp e => ?_⟩
  · have := h3 p hp
    split at this
    · exact .inl (by assumption)
    · exact .inr (.inr (by assumption))
    · exact .inr (.inl (by assumption))
    · cases this
  · have := h3 p hp
    rw [e] at this
    dsimp only at this
    split at this
    · exact .inl (by assumption)
    · exact .inr (by assumption)
    · cases this
noncomputable def freeB (csc : Scope) (ks : List Nat) : Bool := ks.all fun k => match csc.names.lookup (nm02 k) with
  | some .free => true
  | _ => false
theorem lookN {β : Type} {x : Nat} {b : β} {l : List (Nat × β)} (h : l.lookup x = some b) : (x, b) ∈ l := by
  obtain ⟨l1, l2, e1, _⟩ := List.lookup_eq_some_iff.mp h
  rw [e1]; simp
theorem seen_of {q : Pm} {csc : Scope} {bl : List (Nat × V)} {vs : Nat → Option V} (h : freeB csc (bl.map (·.1)) = true) (hv : ∀ p ∈ bl, vs p.1 = some p.2) : Seen (cx q) csc (varsOf bl) vs := fun x u hx => by
  have hm := lookN (show bl.lookup x = some u from hx)
  have := List.all_eq_true.mp h x (List.mem_map_of_mem (f := (·.1)) hm)
  refine ⟨?_, hv _ hm⟩
  split at this
  · assumption
  · cases this
theorem mem_lookB {bl : List (Nat × V)} {p : Nat × V} (hn : (bl.map (·.1)).Nodup) (hp : p ∈ bl) : bl.lookup p.1 = some p.2 := by
  induction bl with
  | nil => cases hp
  | cons a bl ih =>
    rw [List.map_cons, List.nodup_cons] at hn
    rw [List.lookup_cons]
    rcases List.mem_cons.mp hp with rfl | h1
    · rw [beq_self_eq_true]
    · have q : p.1 ≠ a.1 := fun e => hn.1 (e ▸ (List.mem_map_of_mem (f := (·.1)) h1 : p.1 ∈ _))
      rw [beq_eq_false_iff_ne.mpr q]
      exact ih hn.2 h1
theorem seen_self {q : Pm} {csc : Scope} {bl : List (Nat × V)} (hn : (bl.map (·.1)).Nodup) (h : freeB csc (bl.map (·.1)) = true) : Seen (cx q) csc (varsOf bl) (varsOf bl) := seen_of h fun p hp => mem_lookB hn hp
noncomputable def cands (k : Nat) (t : Bool) (w h : Int) (ss : List Nat) (secs : List R) : List Cd := cand k false w h ss secs ++ bif t then cand k true h w ss secs else []
noncomputable def selL : Option Cd → List V
  | none => [.none, .none]
  | some c => [.obj c.2.1, .bool c.2.2.2]
theorem bestF_some {β : Type} : ∀ (l : List (Int × β)) (c : Int × β), ∃ d, bestF (some c) l = some d
  | [], c => ⟨c, rfl⟩
  | d :: l, c => by
    unfold bestF
    split
    · exact bestF_some l d
    · exact bestF_some l c
theorem bestF_none {β : Type} {l : List (Int × β)} (h : bestF none l = none) : l = [] := by
  cases l with
  | nil => rfl
  | cons c l =>
    obtain ⟨d, e⟩ := bestF_some l c
    rw [show bestF none (c :: l) = bestF (some c) l from rfl, e] at h
    cases h
theorem fitV_none {f : Option Int} : (fitV f).isNone = some f.isNone := by cases f <;> rfl
theorem isSome_not {f : Option Int} : (!f.isNone) = f.isSome := by cases f <;> rfl
noncomputable def gN (j : Nat) : Expr := match (bdy (me 9 6))[j]? with
  | some (.Assign _ e _) => e
  | _ => default
noncomputable def csN (j : Nat) : Scope := match gN j with
  | .GeneratorExp _ _ s _ => s
  | _ => default
noncomputable def tgN (j : Nat) : Expr := match gN j with
  | .GeneratorExp _ [⟨x, _, _, _⟩] _ _ => x
  | _ => default
noncomputable def elN (j : Nat) : Expr := match gN j with
  | .GeneratorExp e _ _ _ => e
  | _ => default
noncomputable def e1N (j : Nat) : Expr := match gN j with
  | .GeneratorExp _ [⟨_, _, [e], _⟩] _ _ => e
  | _ => default
structure Bin0 (os : List O) (b k : Nat) (W H : Int) (t : Bool) (ri se : Nat) (ss : List Nat) (secs : List R) : Prop where
  hk : k < 18
  hb : ∃ si, os[b]? = some (binO k W H t ri si se)
  hs : os[se]? = some (.list (ss.map .obj))
  sec : Rcs os ss secs
  ok : ∀ s ∈ secs, okR s
  lim : 2 * ss.length + 10 < lim
section
variable {q : Pm} {os os3 : List O} {n i b k ri se : Nat} {W H : Int} {t : Bool} {ss : List Nat} {secs : List R} {w h : Int} {L : List V}
theorem sel_tail (X : Ok q) {vs : Nat → Option V} (hi : os3[i]? = some (.list L)) {cs : List Cd} (hc : Cds os3 L cs) : ∃ p ext σ', σ'.os = os3 ++ ext ∧ (os3 ++ ext)[p]? = some (.tup (selL (bestF none cs))) ∧ EvB (cx q) n (scp (me 9 6)) ((bdy (me 9 6)).drop 4) ⟨upd vs 33 (.obj i), os3⟩ (.ret (.obj p)) σ' := by
  cases hb : bestF none cs with
  | none =>
    cases bestF_none hb
    cases hc
    exact ⟨_, _, ⟨_, _⟩, rfl, get_end, b_ret (s_tryMin0 X.g ⟨rfl, rfl, rfl, rfl, rfl, fun _ _ _ _ _ _ => rfl⟩ (e_glob X.g 127 rfl rfl rfl) (e_loc X.g 33 rfl rfl rfl) hi rfl)⟩
  | some c =>
    obtain ⟨p, g, hp⟩ := best_go hc none (fun _ h => nomatch h) c hb
    exact ⟨_, _, ⟨_, _⟩, rfl, get_end, b_cons (s_tryMin X.g ⟨rfl, rfl, rfl, rfl, rfl, fun _ _ _ _ _ _ => rfl⟩ (e_glob X.g 127 rfl rfl rfl) (e_loc X.g 33 rfl rfl rfl) hi g (.tup [34, 35, 11] (.cons 34 rfl rfl (.cons 35 rfl rfl (.cons 11 rfl rfl .nil))) hp rfl)) (b_ret (s_ret (e_tup (l_cons (e_loc X.g 35 rfl rfl rfl) (l_cons (e_loc X.g 11 rfl rfl rfl) l_nil)) (show 2 < lim by decide))))⟩
theorem genA (X : Ok q) {c1 c2 : Expr} {csc : Scope} {σ : Sg} {p : Pos} {f : Option Int} (h : EvE (cx q) n csc c1 σ (fitV f) σ) (h2 : EvE (cx q) n csc c2 σ .none σ) (hm : behindInMarks .IsNot c2 = false) : EvT (cx q) n csc (.Compare c1 [.IsNot] [c2] p) σ f.isSome σ := t_of (t_cmp h h2 (c_isnt fitV_none) hm) isSome_not
theorem cal_f (hk : k < 18) : (cx q).P.cal (542 - 19 * (k / 6)) = true := by
  have : k / 6 = 0 ∨ k / 6 = 1 ∨ k / 6 = 2 := by omega
  rcases this with e | e | e <;> rw [e] <;> rfl
theorem gen0_run (X : Ok q) (hk : k < 18) {pre : List O} {si : Nat} (hb : pre[b]? = some (binO k W H t ri si se)) (hs : pre[se]? = some (.list (ss.map .obj))) (hr : Rcs pre ss secs) (hok : ∀ s ∈ secs, okR s) (hl : ss.length < lim) (hw : small w) (hh : small h) :
    ∃ ext us, CompGo (cx q) (n + 2) (csN 0) (tgN 0) [e1N 0] (elN 0) (.live se) pre.length (varsOf [(4, .obj b), (29, .int w), (30, .int h)]) ss.length 0 (pre ++ [.list []]) (pre ++ .list us :: ext) ∧ Cds (pre ++ .list us :: ext) us (cand k false w h ss secs) :=
  cand_go (c := cx q) (a := w) (b := h) rfl rfl rfl hs (fun kp hi ok => genA X (e_meth X.g 37 (e_loc X.g 4 rfl rfl rfl) rfl (kp _ _ hb) (at_k hk rfl) rfl (cal_f hk) (a_pos rfl (l_cons (e_loc X.g 26 rfl rfl rfl) (l_cons (e_loc X.g 29 rfl rfl rfl) (l_cons (e_loc X.g 30 rfl rfl rfl) l_nil)))) (fit_run X (kp _ _ hi) ok.1 ok.2 hw hh hk) rfl) e_none rfl)
    (fun kp hi ok hf => e_tup (l_cons (e_of (e_meth X.g 37 (e_loc X.g 4 rfl rfl rfl) rfl (kp _ _ hb) (at_k hk rfl) rfl (cal_f hk) (a_pos rfl (l_cons (e_loc X.g 26 rfl rfl rfl) (l_cons (e_loc X.g 29 rfl rfl rfl) (l_cons (e_loc X.g 30 rfl rfl rfl) l_nil)))) (fit_run X (kp _ _ hi) ok.1 ok.2 hw hh hk) rfl) (by rw [hf]; rfl)) (l_cons (e_loc X.g 26 rfl rfl rfl) (l_cons e_bool l_nil))) (show 3 < lim by decide)) ss secs 0 [] [] rfl hr hok (by rw [List.length_nil, Nat.zero_add]; exact hl)
theorem gen1_run (X : Ok q) (hk : k < 18) {pre : List O} {si : Nat} (hb : pre[b]? = some (binO k W H t ri si se)) (hs : pre[se]? = some (.list (ss.map .obj))) (hr : Rcs pre ss secs) (hok : ∀ s ∈ secs, okR s) (hl : ss.length < lim) (hw : small w) (hh : small h) :
    ∃ ext us, CompGo (cx q) (n + 2) (csN 1) (tgN 1) [e1N 1] (elN 1) (.live se) pre.length (varsOf [(4, .obj b), (29, .int w), (30, .int h)]) ss.length 0 (pre ++ [.list []]) (pre ++ .list us :: ext) ∧ Cds (pre ++ .list us :: ext) us (cand k true h w ss secs) :=
  cand_go (c := cx q) (a := h) (b := w) rfl rfl rfl hs (fun kp hi ok => genA X (e_meth X.g 37 (e_loc X.g 4 rfl rfl rfl) rfl (kp _ _ hb) (at_k hk rfl) rfl (cal_f hk) (a_pos rfl (l_cons (e_loc X.g 26 rfl rfl rfl) (l_cons (e_loc X.g 30 rfl rfl rfl) (l_cons (e_loc X.g 29 rfl rfl rfl) l_nil)))) (fit_run X (kp _ _ hi) ok.1 ok.2 hh hw hk) rfl) e_none rfl)
    (fun kp hi ok hf => e_tup (l_cons (e_of (e_meth X.g 37 (e_loc X.g 4 rfl rfl rfl) rfl (kp _ _ hb) (at_k hk rfl) rfl (cal_f hk) (a_pos rfl (l_cons (e_loc X.g 26 rfl rfl rfl) (l_cons (e_loc X.g 30 rfl rfl rfl) (l_cons (e_loc X.g 29 rfl rfl rfl) l_nil)))) (fit_run X (kp _ _ hi) ok.1 ok.2 hh hw hk) rfl) (by rw [hf]; rfl)) (l_cons (e_loc X.g 26 rfl rfl rfl) (l_cons e_bool l_nil))) (show 3 < lim by decide)) ss secs 0 [] [] rfl hr hok (by rw [List.length_nil, Nat.zero_add]; exact hl)
theorem Rcs.mono {os os' : List O} (h : ∀ (i : Nat) o, os[i]? = some o → os'[i]? = some o) {ss : List Nat} {secs : List R} (r : Rcs os ss secs) : Rcs os' ss secs := All2.mono (fun _ _ e => h _ _ e) r
theorem select_run (X : Ok q) (B : Bin0 os b k W H t ri se ss secs) (hw : small w) (hh : small h) : ∃ ext p, EvC (cx q) (n + 4) 462 [.obj b, .int w, .int h] [] os (.obj p) (os ++ ext) ∧ (os ++ ext)[p]? = some (.tup (selL (bestF none (cands k t w h ss secs)))) := by
  obtain ⟨hk, ⟨si, hb⟩, hs, hr, hok, hlim⟩ := B
  have hl : ss.length < lim := by omega
  have cl : ∀ {us : List V} {cs : List Cd} {o : List O}, Cds o us cs → cs.length ≤ ss.length → us.length ≤ ss.length := fun d h => d.len ▸ h
  cases t with
  | true =>
    obtain ⟨x1, u1, g1, d1⟩ := gen0_run (n := n) X hk hb hs hr hok hl hw hh
    have k1 : ∀ (i : Nat) o, os[i]? = some o → (os ++ .list u1 :: x1)[i]? = some o := fun _ _ e => get_app e
    obtain ⟨x2, u2, g2, d2⟩ := gen1_run (n := n) X hk (k1 _ _ hb) (k1 _ _ hs) (hr.mono k1) hok hl hw hh
    have D : Cds ((os ++ .list u1 :: x1 ++ .list u2 :: x2) ++ [.list (u1 ++ u2)]) (u1 ++ u2) (cands k true w h ss secs) := Cds.mono (fun _ _ e => get_app e) ((d1.mono fun _ _ e => get_app e).app d2)
    obtain ⟨p, ext, σ', e1, hp, hB⟩ := sel_tail (n := n + 3) (vs := varsOf [(4, .obj b), (29, .int w), (30, .int h)]) X get_end D
    have hL : (u1 ++ u2).length < lim := by rw [List.length_append]; have := cl d1 cand_len; have := cl d2 cand_len; omega
    refine ⟨.list u1 :: x1 ++ .list u2 :: x2 ++ [.list (u1 ++ u2)] ++ ext, p, ?_, ?_⟩
    · rw [← List.append_assoc, ← List.append_assoc, ← List.append_assoc, ← e1]
      exact c_fn X.g (X.fn 10 rfl rfl) rfl (bind3 fun _ _ _ => rfl) (b_gens (b := true) X.g 31 32 33 131 rfl rfl rfl rfl (by decide) rfl rfl rfl rfl rfl rfl rfl (inSc_of rfl) rfl rfl (e_att X.g 25 (e_loc X.g 4 rfl rfl rfl) rfl hb (at_k hk rfl) rfl) (.list hs) (seen_self (show [4, 29, 30].Nodup by decide) rfl) (inSc_of rfl) rfl rfl (e_att X.g 25 (e_loc X.g 4 rfl rfl rfl) rfl hb (at_k hk rfl) rfl) (.list hs) (seen_self (show [4, 29, 30].Nodup by decide) rfl) (t_att (e_att X.g 11 (e_loc X.g 4 rfl rfl rfl) rfl hb (at_k hk rfl) rfl) tr_bool) g1 (fun _ => g2) (fun e => nomatch e) (get_app get_end) get_end hL hB) (.inl rfl)
    · rw [← List.append_assoc, ← List.append_assoc, ← List.append_assoc]; exact hp
  | false =>
    have k0 : ∀ (i : Nat) o, os[i]? = some o → (os ++ [.list []])[i]? = some o := fun _ _ e => get_app e
    obtain ⟨x1, u1, g1, d1⟩ := gen0_run (n := n) X hk (k0 _ _ hb) (k0 _ _ hs) (hr.mono k0) hok hl hw hh
    have D : Cds ((os ++ [.list []] ++ .list u1 :: x1 ++ [.list []]) ++ [.list (u1 ++ [])]) (u1 ++ []) (cands k false w h ss secs) := Cds.mono (fun _ _ e => get_app e) ((d1.mono fun _ _ e => get_app e).app .nil)
    obtain ⟨p, ext, σ', e1, hp, hB⟩ := sel_tail (n := n + 3) (vs := varsOf [(4, .obj b), (29, .int w), (30, .int h)]) X get_end D
    have hL : (u1 ++ []).length < lim := by rw [List.append_nil]; have := cl d1 cand_len; omega
    refine ⟨[.list []] ++ .list u1 :: x1 ++ [.list []] ++ [.list (u1 ++ [])] ++ ext, p, ?_, ?_⟩
    · rw [← List.append_assoc, ← List.append_assoc, ← List.append_assoc, ← List.append_assoc, ← e1]
      exact c_fn X.g (X.fn 10 rfl rfl) rfl (bind3 fun _ _ _ => rfl) (b_gens (b := false) (m2 := 0) X.g 31 32 33 131 rfl rfl rfl rfl (by decide) rfl rfl rfl rfl rfl rfl rfl (inSc_of rfl) rfl rfl (e_att X.g 25 (e_loc X.g 4 rfl rfl rfl) rfl hb (at_k hk rfl) rfl) (.list hs) (seen_self (show [4, 29, 30].Nodup by decide) rfl) (inSc_of rfl) rfl rfl (e_att X.g 25 (e_loc X.g 4 rfl rfl rfl) rfl hb (at_k hk rfl) rfl) (.list hs) (seen_self (show [4, 29, 30].Nodup by decide) rfl) (t_att (e_att X.g 11 (e_loc X.g 4 rfl rfl rfl) rfl hb (at_k hk rfl) rfl) tr_bool) g1 (fun e => nomatch e) (fun _ => ⟨by rw [List.append_assoc]; exact get_end, rfl⟩) (get_app get_end) get_end hL hB) (.inl rfl)
    · rw [← List.append_assoc, ← List.append_assoc, ← List.append_assoc, ← List.append_assoc]; exact hp
end
end Rw
namespace Rw
open PySem PySem.W PySem.Calls PyProof.Rows
theorem bestF_mem {β : Type} : ∀ {l : List (Int × β)} {b : Option (Int × β)} {c : Int × β}, bestF b l = some c → c ∈ l ∨ b = some c
  | [], b, c, h => .inr h
  | e :: l, none, c, h => (bestF_mem (l := l) (b := some e) h).elim (fun q => .inl (.tail _ q)) fun q => by cases q; exact .inl (.head _)
  | e :: l, some b, c, h => by
    unfold bestF at h
    split at h
    · exact (bestF_mem h).elim (fun q => .inl (.tail _ q)) fun q => by cases q; exact .inl (.head _)
    · exact (bestF_mem h).imp_left (.tail _)
theorem cand_mem {k : Nat} {rev : Bool} {w h : Int} {c : Cd} : ∀ {ss : List Nat} {secs : List R}, c ∈ cand k rev w h ss secs → c.2.2.2 = rev ∧ fitF k c.2.2.1 w h = some c.1 ∧ ∃ j : Nat, ss[j]? = some c.2.1 ∧ secs[j]? = some c.2.2.1
  | [], _, hm => by unfold cand at hm; cases hm
  | i :: l, [], hm => by unfold cand at hm; cases hm
  | i :: l, s :: m, hm => by
    unfold cand at hm
    have lift : c ∈ cand k rev w h l m → c.2.2.2 = rev ∧ fitF k c.2.2.1 w h = some c.1 ∧ ∃ j : Nat, (i :: l)[j]? = some c.2.1 ∧ (s :: m)[j]? = some c.2.2.1 := fun q =>
      let ⟨h1, h2, j, h3, h4⟩ := cand_mem q; ⟨h1, h2, j + 1, h3, h4⟩
    split at hm
    · rename_i f hf
      rcases List.mem_cons.mp hm with rfl | q
      · exact ⟨rfl, hf, 0, rfl, rfl⟩
      · exact lift q
    · exact lift hm
theorem cands_mem {k : Nat} {t : Bool} {w h : Int} {c : Cd} {ss : List Nat} {secs : List R} (hm : c ∈ cands k t w h ss secs) : (bif c.2.2.2 then t = true ∧ fitF k c.2.2.1 h w = some c.1 else fitF k c.2.2.1 w h = some c.1) ∧ ∃ j : Nat, ss[j]? = some c.2.1 ∧ secs[j]? = some c.2.2.1 := by
  unfold cands at hm
  rcases List.mem_append.mp hm with q | q
  · obtain ⟨h1, h2, h3⟩ := cand_mem q
    rw [h1]; exact ⟨h2, h3⟩
  · cases t with
    | true =>
      obtain ⟨h1, h2, h3⟩ := cand_mem q
      rw [h1]; exact ⟨⟨rfl, h2⟩, h3⟩
    | false => cases q
section
variable {os os' : List O} {ss : List Nat} {secs : List R}
theorem Rcs.at (r : Rcs os ss secs) {j i : Nat} {s : R} (h1 : ss[j]? = some i) (h2 : secs[j]? = some s) : os[i]? = some (s.o (.int 0)) := by
  obtain ⟨a, ha, h⟩ := r.get h2
  rw [h1] at ha; cases ha; exact h
abbrev Lrs (os : List O) (l : List Nat) (m : List (R × V)) : Prop := All2 (fun i p => os[i]? = some (R.o p.1 p.2)) l m
theorem Rcs.fr (h : ∀ (i : Nat) s r, os[i]? = some (R.o s r) → os'[i]? = some (R.o s r)) {l m} (d : Rcs os l m) : Rcs os' l m := All2.mono (fun _ _ e => h _ _ _ e) d
theorem Lrs.fr (h : ∀ (i : Nat) s r, os[i]? = some (R.o s r) → os'[i]? = some (R.o s r)) {l m} (d : Lrs os l m) : Lrs os' l m := All2.mono (fun _ _ e => h _ _ _ e) d
theorem rcs_new : ∀ (ns : List R) (os : List O), Rcs (os ++ ns.map fun s => s.o (.int 0)) ((List.range ns.length).map fun j => os.length + j) ns
  | [], os => .nil
  | s :: ns, os => by
    have ih := rcs_new ns (os ++ [s.o (.int 0)])
    rw [List.length_cons, List.range_succ_eq_map, List.map_cons, List.map_cons, List.map_map]
    refine .cons get_end ?_
    rw [List.append_assoc] at ih
    have e2 : (List.range ns.length).map ((fun j => os.length + j) ∘ Nat.succ) = (List.range ns.length).map fun j => (os ++ [s.o (.int 0)]).length + j :=
      List.map_congr_left fun j _ => by rw [List.length_append]; show os.length + (j + 1) = os.length + 1 + j; omega
    rw [e2]; exact ih
theorem map_erase {α β : Type} {f : α → β} : ∀ {l : List α} {j : Nat}, (l.map f).eraseIdx j = (l.eraseIdx j).map f
  | [], j => rfl
  | a :: l, 0 => rfl
  | a :: l, j + 1 => congrArg (f a :: ·) map_erase
end
section
variable {q : Pm} {os : List O} {n i j b k ri se : Nat} {W H : Int} {t : Bool} {ss : List Nat} {secs : List R} {w h : Int} {s s' : R}
theorem fitness_run (X : Ok q) (B : Bin0 os b k W H t ri se ss secs) (hw : 0 < w) (hh : 0 < h) (bw : small w) (bh : small h) : ∃ ext, EvC (cx q) (n + 5) 477 [.obj b, .int w, .int h] [] os (fitV ((bestF none (cands k t w h ss secs)).map (·.1))) (os ++ ext) := by
  obtain ⟨ext, p, sel, hp⟩ := select_run (n := n) X B bw bh
  obtain ⟨si, hb⟩ := B.hb
  have hk := B.hk
  refine ⟨ext, ?_⟩
  have A : ∀ {v1 v2 : V}, (os ++ ext)[p]? = some (.tup [v1, v2]) → ∀ {v : V}, EvB (cx q) (n + 4) (scp (me 9 8)) ((bdy (me 9 8)).drop 2) ⟨upd (upd (varsOf [(4, .obj b), (7, .int w), (8, .int h)]) 23 v1) 40 v2, os ++ ext⟩ (.ret v) ⟨upd (upd (varsOf [(4, .obj b), (7, .int w), (8, .int h)]) 23 v1) 40 v2, os ++ ext⟩ → EvC (cx q) (n + 5) 477 [.obj b, .int w, .int h] [] os v (os ++ ext) := fun hp v hB =>
    c_fn X.g (X.fn 12 rfl rfl) rfl (bind3 fun _ _ _ => rfl) (b_cons (s_assertT (t_andB (t_of (t_cmp (e_loc X.g 7 rfl rfl rfl) e_int c_gt) (decide_eq_true hw)) (t_andB (t_of (t_cmp (e_loc X.g 8 rfl rfl rfl) e_int c_gt) (decide_eq_true hh)) t_and0)) rfl)
    (b_cons (s_unp (e_meth X.g 41 (e_loc X.g 4 rfl rfl rfl) rfl hb (at_k hk rfl) rfl rfl (a_pos rfl (l_cons (e_loc X.g 7 rfl rfl rfl) (l_cons (e_loc X.g 8 rfl rfl rfl) l_nil))) sel rfl) (.tup [23, 40] (.cons 23 rfl rfl (.cons 40 rfl rfl .nil)) hp rfl))
    hB)) (.inl rfl)
  cases hc : bestF none (cands k t w h ss secs) with
  | none =>
    rw [hc] at hp
    exact A hp (b_ret (s_ifT (t_not (t_name (e_loc X.g 23 rfl rfl rfl) tr_none)) rfl (b_ret (s_ret e_none))))
  | some c =>
    rw [hc] at hp
    obtain ⟨hf, j, h1, h2⟩ := cands_mem ((bestF_mem hc).resolve_right nofun)
    have hi : (os ++ ext)[c.2.1]? = some (c.2.2.1.o (.int 0)) := get_app (B.sec.at h1 h2)
    have hsk := B.ok _ (List.mem_of_getElem? h2)
    have hb' : (os ++ ext)[b]? = some (binO k W H t ri si se) := get_app hb
    refine A hp (b_cons (s_ifF (t_not (t_name (e_loc X.g 23 rfl rfl rfl) (tr_inst X.g hi rfl))) rfl b_nil) (b_ret (s_if (t_name (e_loc X.g 40 rfl rfl rfl) tr_bool) ?_)))
    cases hr : c.2.2.2 with
    | true =>
      rw [hr] at hf
      exact (b_ret (s_ret (e_of (e_meth X.g 37 (e_loc X.g 4 rfl rfl rfl) rfl hb' (at_k hk rfl) rfl (cal_f hk) (a_pos rfl (l_cons (e_loc X.g 23 rfl rfl rfl) (l_cons (e_loc X.g 8 rfl rfl rfl) (l_cons (e_loc X.g 7 rfl rfl rfl) l_nil)))) (fit_run X hi hsk.1 hsk.2 bh bw hk) rfl) (by rw [hf.2]; rfl))))
    | false =>
      rw [hr] at hf
      exact (b_ret (s_ret (e_of (e_meth X.g 37 (e_loc X.g 4 rfl rfl rfl) rfl hb' (at_k hk rfl) rfl (cal_f hk) (a_pos rfl (l_cons (e_loc X.g 23 rfl rfl rfl) (l_cons (e_loc X.g 7 rfl rfl rfl) (l_cons (e_loc X.g 8 rfl rfl rfl) l_nil)))) (fit_run X hi hsk.1 hsk.2 bw bh hk) rfl) (by rw [show fitF k c.2.2.1 w h = some c.1 from hf]; rfl))))
theorem eq_run (X : Ok q) (hi : os[i]? = some (s.o (.int 0))) (hj : os[j]? = some (s'.o (.int 0))) : EqJ (cx q) (n + 1) (.obj i) (.obj j) os (decide (s = s')) := by
  by_cases e : i = j
  · subst e
    rw [hi] at hj
    have : s = s' := by
      cases s; cases s'
      unfold R.o rectO at hj
      simp only [Option.some.injEq, O.inst.injEq, List.cons.injEq, Prod.mk.injEq, V.int.injEq, true_and, and_true] at hj
      simp only [R.mk.injEq]
      exact ⟨hj.2.2.1, hj.2.2.2, hj.1, hj.2.1⟩
    rw [decide_eq_true this]
    exact eq_same
  · have h := eq_inst X.g e hi hj rfl (rect_eq (n := n) X hi hj)
    have : (s.w == s'.w && (s.h == s'.h && (s.x == s'.x && s.y == s'.y))) = decide (s = s') := by
      rw [Bool.eq_iff_iff]
      cases s; cases s'
      simp only [Bool.and_eq_true, beq_iff_eq, decide_eq_true_eq, R.mk.injEq]
      constructor
      · rintro ⟨h1, h2, h3, h4⟩; exact ⟨h3, h4, h1, h2⟩
      · rintro ⟨h1, h2, h3, h4⟩; exact ⟨h3, h4, h1, h2⟩
    rw [this] at h; exact h
theorem rem_keys (X : Ok q) (r : Rcs os ss secs) (hi : os[i]? = some (s.o (.int 0))) (hm : s ∈ secs) : secs.idxOf s < (ss.map V.obj).length ∧ (∀ j u, j < secs.idxOf s → (ss.map V.obj)[j]? = some u → EqJ (cx q) (n + 1) u (.obj i) os false) ∧ ∀ u, (ss.map V.obj)[secs.idxOf s]? = some u → EqJ (cx q) (n + 1) u (.obj i) os true := by
  have hl := List.idxOf_lt_length_of_mem hm
  have key : ∀ (j : Nat) u, (ss.map V.obj)[j]? = some u → ∃ s', secs[j]? = some s' ∧ EqJ (cx q) (n + 1) u (.obj i) os (decide (s' = s)) := fun j u hu => by
    rw [List.getElem?_map] at hu
    obtain ⟨i', h1, rfl⟩ := Option.map_eq_some_iff.mp hu
    have hj := (List.getElem?_eq_some_iff.mp h1).1
    rw [r.len] at hj
    obtain ⟨s', h2⟩ : ∃ s', secs[j]? = some s' := ⟨_, List.getElem?_eq_getElem hj⟩
    exact ⟨s', h2, eq_run X (r.at h1 h2) hi⟩
  refine ⟨by rw [List.length_map, r.len]; exact hl, fun j u hj hu => ?_, fun u hu => ?_⟩
  · obtain ⟨s', h2, h3⟩ := key j u hu
    have : s' ≠ s := fun e => by
      subst e
      have h4 := List.not_of_lt_findIdx (p := (· == s')) hj
      obtain ⟨h5, h6⟩ := List.getElem?_eq_some_iff.mp h2
      rw [h6] at h4
      simp at h4
    rw [decide_eq_false this] at h3; exact h3
  · obtain ⟨s', h2, h3⟩ := key _ u hu
    have : s' = s := by
      obtain ⟨h5, h6⟩ := List.getElem?_eq_some_iff.mp h2
      rw [← h6]; exact List.getElem_idxOf h5
    rw [decide_eq_true this] at h3; exact h3
end
end Rw
namespace Rw
open PySem PySem.W PySem.Calls PyProof.Rows
structure Bin (os : List O) (b k : Nat) (W H : Int) (t : Bool) (ri se : Nat) (ss : List Nat) (secs : List R) (rs : List Nat) (rects : List (R × V)) : Prop extends Bin0 os b k W H t ri se ss secs where
  hl : os[ri]? = some (.list (rs.map .obj))
  lrec : Lrs os rs rects
  ne : se ≠ ri
  rlim : rs.length + 10 < Rw.lim
noncomputable def Frm (os os' : List O) (se ri : Nat) : Prop := os.length ≤ os'.length ∧ ∀ (i : Nat) o, os[i]? = some o → i ≠ se → i ≠ ri → os'[i]? = some o
theorem fitF_le {k : Nat} {s : R} {w h f : Int} (e : fitF k s w h = some f) : w ≤ s.w ∧ h ≤ s.h := by
  unfold fitF at e
  split at e
  · cases e
  · rename_i q
    exact ⟨Int.not_lt.mp fun h => q (.inl h), Int.not_lt.mp fun h => q (.inr h)⟩
theorem news_of {k : Nat} {s : R} {w h : Int} {r : R} (hr : r ∈ splitL k s w h) : (r.w = s.w ∨ r.w = w ∨ r.w = s.w - w) ∧ (r.h = s.h ∨ r.h = h ∨ r.h = s.h - h) := by
  unfold splitL newsH newsV at hr
  have one : ∀ {c : Bool} {x : R}, r ∈ (bif c then [x] else []) → r = x := fun {c x} h => by
    cases c
    · cases h
    · exact List.mem_singleton.mp h
  cases hc : horB (k % 6) s w h <;> rw [hc] at hr <;> rcases List.mem_append.mp hr with q | q <;> have e := one q <;> subst e <;> simp
theorem small3 {a s w : Int} (h : a = s ∨ a = w ∨ a = s - w) (hw : 0 < w) (hl : w ≤ s) (hs : small s) : small a := by
  rcases h with rfl | rfl | rfl
  · exact hs
  · exact small_mono (by omega) hs
  · exact small_mono (by omega) hs
theorem splitL_ok {k : Nat} {s : R} {w h : Int} (hs : okR s) (hw : 0 < w) (hh : 0 < h) (hw' : w ≤ s.w) (hh' : h ≤ s.h) : ∀ r ∈ splitL k s w h, okR r := fun r hr => by
  obtain ⟨h1, h2⟩ := news_of hr
  exact ⟨small3 h1 hw hw' hs.1, small3 h2 hh hh' hs.2⟩
theorem news_len {k : Nat} {s : R} {w h : Int} : (splitL k s w h).length ≤ 2 := by
  have one : ∀ {c : Bool} {x : R}, (bif c then [x] else []).length ≤ 1 := fun {c x} => by
    cases c
    · exact Nat.zero_le _
    · exact Nat.le_refl _
  have two : ∀ {a b : Bool} {x y : R}, ((bif a then [x] else []) ++ (bif b then [y] else [])).length ≤ 2 := fun {a b x y} => by rw [List.length_append]; exact Nat.add_le_add one one
  unfold splitL newsH newsV
  cases horB (k % 6) s w h <;> exact two
section
variable {q : Pm} {os : List O} {n b k ri se : Nat} {W H : Int} {t : Bool} {ss : List Nat} {secs : List R} {rs : List Nat} {rects : List (R × V)} {w h : Int} {l : List O}
theorem Bin0.app (B : Bin0 os b k W H t ri se ss secs) : Bin0 (os ++ l) b k W H t ri se ss secs := ⟨B.hk, B.hb.imp fun _ h => get_app h, get_app B.hs, B.sec.fr fun _ _ _ h => get_app h, B.ok, B.lim⟩
theorem Bin.app (B : Bin os b k W H t ri se ss secs rs rects) : Bin (os ++ l) b k W H t ri se ss secs rs rects := ⟨B.toBin0.app, get_app B.hl, B.lrec.fr fun _ _ _ h => get_app h, B.ne, B.rlim⟩
theorem EvE.toO {c : Cx} {sc : Scope} {e : Expr} {σ : Sg} {v : V} {vs : Nat → Option V} {o1 o2 : List O} (h : EvE c n sc e σ v ⟨vs, o1⟩) (e1 : o1 = o2) : EvE c n sc e σ v ⟨vs, o2⟩ := e1 ▸ h
theorem cal_s (hk : k < 18) : (cx q).P.cal (561 + 19 * k) = true := (by decide +kernel : ∀ k < 18, ((FT.map (·.1)).contains (561 + 19 * k) || (initT.map (·.1)).contains (561 + 19 * k)) = true) k hk
theorem add_tail (X : Ok q) (B : Bin os b k W H t ri se ss secs rs rects) {i : Nat} {s : R} {rid : V} {vs : Nat → Option V} (hi : os[i]? = some (s.o (.int 0))) (hm : s ∈ secs) (hw : 0 < w) (hh : 0 < h) (hw' : w ≤ s.w) (hh' : h ≤ s.h)
    (v4 : vs 4 = some (.obj b)) (v23 : vs 23 = some (.obj i)) (v7 : vs 7 = some (.int w)) (v8 : vs 8 = some (.int h)) (v9 : vs 9 = some rid) :
    ∃ σ' idx ss', EvB (cx q) (n + 5) (scp (me 9 7)) ((bdy (me 9 7)).drop 4) ⟨vs, os⟩ (.ret (.obj idx)) σ' ∧
      (2 * ss'.length + 10 < lim → rs.length + 12 < lim → Bin σ'.os b k W H t ri se ss' (secs.erase s ++ splitL k s w h) (rs ++ [idx]) (rects ++ [(⟨s.x, s.y, w, h⟩, rid)])) ∧ Frm os σ'.os se ri ∧ os.length ≤ idx ∧ ss'.length ≤ ss.length + 2 ∧ σ'.os[idx]? = some (R.o ⟨s.x, s.y, w, h⟩ rid) := by
  have hk := B.hk
  obtain ⟨si, hb⟩ := B.hb
  have hs := B.hs
  have hok := B.ok s hm
  have hsl := (List.getElem?_eq_some_iff.mp hs).1
  have ise := ne_lst hs hi
  have iri := ne_lst B.hl hi
  have bse := Ne.symm (ne_lb hs hb)
  have bri := Ne.symm (ne_lb B.hl hb)
  have lim1 := B.lim
  have lim2 := B.rlim
  obtain ⟨r1, r2, r3⟩ := rem_keys (n := n + 3) X B.sec hi hm
  have e1 : os.set se (.list ((ss.map V.obj).eraseIdx (secs.idxOf s))) = os.set se (.list ((ss.eraseIdx (secs.idxOf s)).map .obj)) := by rw [map_erase]
  generalize hess : ss.eraseIdx (secs.idxOf s) = ess at e1
  have hesl : ess.length ≤ ss.length := by rw [← hess]; exact List.length_eraseIdx_le ..
  have o1s : (os.set se (.list (ess.map .obj)))[se]? = some (.list (ess.map .obj)) := get_set hs
  have o1b := get_ne (o' := .list (ess.map .obj)) hb (Ne.symm bse)
  have o1i := get_ne (o' := .list (ess.map .obj)) hi (Ne.symm ise)
  have o1r := get_ne (o' := .list (ess.map .obj)) B.hl B.ne
  have o1l : (os.set se (.list (ess.map .obj))).length = os.length := List.length_set
  have k1 : ∀ (i : Nat) o, os[i]? = some o → i ≠ se → (os.set se (.list (ess.map .obj)))[i]? = some o := fun i o e q => get_ne e (Ne.symm q)
  generalize hos1 : os.set se (.list (ess.map .obj)) = os1 at *
  have hse1 : se < os1.length := by rw [o1l]; exact hsl
  have o2b := addS_get (l := ess.map .obj) (ns := splitL k s w h) o1b bse
  have o2i := addS_get (l := ess.map .obj) (ns := splitL k s w h) o1i ise
  have o2r := addS_get (l := ess.map .obj) (ns := splitL k s w h) o1r (Ne.symm B.ne)
  have s2 := addS_se (l := ess.map .obj) (ns := splitL k s w h) hse1
  have k2 : ∀ (i : Nat) o, os[i]? = some o → i ≠ se → (addS os1 se (ess.map .obj) (splitL k s w h))[i]? = some o := fun i o e q => addS_get (k1 i o e q) q
  have o2l := addS_len (os := os1) (se := se) (l := ess.map .obj) (ns := splitL k s w h)
  have nw := (rcs_new (splitL k s w h) os1)
  have nw : Rcs (addS os1 se (ess.map .obj) (splitL k s w h)) ((List.range (splitL k s w h).length).map fun j => os1.length + j) (splitL k s w h) := nw.fr fun i s r e => by
    unfold addS
    rw [List.getElem?_set_ne]
    · exact e
    · intro q
      subst q
      rw [List.getElem?_append_left hse1, o1s] at e
      cases e
  have hnl := news_len (k := k) (s := s) (w := w) (h := h)
  have lim3 : (ess.map V.obj).length + 1 < lim := by rw [List.length_map]; omega
  have hrl : (rs.map V.obj).length < lim := by rw [List.length_map]; omega
  have sp := split_run (n := n) X hk (i := i) (w := w) (h := h) o1b o1i o1s lim3 hw hh hw' hh' hok.1 hok.2
  generalize hos2 : addS os1 se (ess.map .obj) (splitL k s w h) = os2 at *
  have b3 : (os2 ++ [rectO s.x s.y w h rid])[b]? = some (binO k W H t ri si se) := get_app o2b
  have r3' : (os2 ++ [rectO s.x s.y w h rid])[ri]? = some (.list (rs.map .obj)) := get_app o2r
  have lr : (rs.map V.obj ++ [V.obj os2.length]) = (rs ++ [os2.length]).map .obj := by rw [List.map_append]; rfl
  have ri2 := (List.getElem?_eq_some_iff.mp o2r).1
  refine ⟨⟨upd vs 39 (.obj os2.length), (os2 ++ [rectO s.x s.y w h rid]).set ri (.list (rs.map .obj ++ [.obj os2.length]))⟩, os2.length, ess ++ (List.range (splitL k s w h).length).map fun j => os1.length + j, ?_, fun q1 q2 => ?_, ?_, by omega, by rw [List.length_append, List.length_map, List.length_range]; omega, ?_⟩
  · exact (b_cons (s_expr (EvE.toO (e_remove (e_att X.g 25 (e_loc X.g 4 rfl rfl v4) rfl hb (at_k hk rfl) rfl) hs (a_pos rfl (l_cons (e_loc X.g 23 rfl rfl v23) l_nil)) hs (by rw [List.length_map]; omega) r1 r2 r3 rfl) e1))
    (b_cons (s_expr (e_meth X.g 42 (e_loc X.g 4 rfl rfl v4) rfl o1b (at_k hk rfl) rfl (cal_s hk) (a_pos rfl (l_cons (e_loc X.g 23 rfl rfl v23) (l_cons (e_loc X.g 7 rfl rfl v7) (l_cons (e_loc X.g 8 rfl rfl v8) l_nil)))) sp rfl))
    (b_cons (s_asg 39 rfl rfl (e_call X.g (e_glob X.g 133 rfl rfl rfl) (a_pos rfl (l_cons (e_att X.g 5 (e_loc X.g 23 rfl rfl v23) rfl o2i rfl rfl) (l_cons (e_att X.g 6 (e_loc X.g 23 rfl rfl v23) rfl o2i rfl rfl) (l_cons (e_loc X.g 7 rfl rfl v7) (l_cons (e_loc X.g 8 rfl rfl v8) (l_cons (e_loc X.g 9 rfl rfl v9) l_nil)))))) rfl (f_top (rect_newR X (Int.le_of_lt hw) (Int.le_of_lt hh)))))
    (b_cons (s_expr (e_append (e_att X.g 15 (e_loc X.g 4 rfl rfl v4) rfl b3 (at_k hk rfl) rfl) r3' (a_pos rfl (l_cons (e_loc X.g 39 rfl rfl rfl) l_nil)) r3' hrl rfl))
    (b_ret (s_ret (e_loc X.g 39 rfl rfl rfl)))))))
  · have g4 : ∀ (i : Nat) o, os2[i]? = some o → i ≠ ri → ((os2 ++ [rectO s.x s.y w h rid]).set ri (.list (rs.map .obj ++ [.obj os2.length])))[i]? = some o := fun i o e q => get_ne (get_app e) (Ne.symm q)
    have f0 : ∀ (i : Nat) s r, os[i]? = some (R.o s r) → os2[i]? = some (R.o s r) := fun i s r e => k2 i _ e (ne_lst hs e)
    have f2 : ∀ (i : Nat) s' r, os2[i]? = some (R.o s' r) → ((os2 ++ [rectO s.x s.y w h rid]).set ri (.list (rs.map .obj ++ [.obj os2.length])))[i]? = some (R.o s' r) := fun i s' r e => g4 i _ e (ne_lst o2r e)
    have er : secs.erase s = secs.eraseIdx (secs.idxOf s) := List.erase_eq_eraseIdx_of_idxOf rfl
    refine ⟨⟨hk, ⟨si, g4 _ _ o2b bri⟩, ?_, ?_, fun r hr => (List.mem_append.mp hr).elim (fun q => B.ok r (List.mem_of_mem_erase q)) (splitL_ok hok hw hh hw' hh' r), q1⟩, ?_, ?_, B.ne, by rw [List.length_append]; exact Nat.le_of_lt_succ (Nat.lt_succ_of_lt (by simpa using q2))⟩
    · rw [g4 _ _ s2 B.ne, List.map_append, List.map_map]; rfl
    · rw [er, ← hess]
      exact Rcs.fr f2 ((Rcs.fr f0 B.sec.erase).app nw)
    · rw [← lr]; exact get_set (get_app o2r)
    · exact ((B.lrec.fr f0).fr f2).app (.cons (get_ne get_end (Nat.ne_of_lt ri2)) .nil)
  · refine ⟨by rw [List.length_set, List.length_append]; omega, fun i o e q1 q2 => get_ne (get_app (k2 i o e q1)) (Ne.symm q2)⟩
  · exact get_ne get_end (Nat.ne_of_lt ri2)
theorem Frm.pre {os' : List O} (f : Frm (os ++ l) os' se ri) : Frm os os' se ri := ⟨Nat.le_trans (by rw [List.length_append]; exact Nat.le_add_right _ _) f.1, fun i o e => f.2 i o (get_app e)⟩
theorem bind470 (X : Ok q) {a b c d : V} : BindJ (cx q) (FT.getD 11 default).2.2 [a, b, c, d] [] os [(4, a), (7, b), (8, c), (9, d)] os := by
  intro A fs ρ s vs' ks' Q E sr rv rk qq
  cases rk
  cases rv with | cons r1 rv =>
  obtain ⟨y2, y3, y4, rfl, r2, r3, r4⟩ := rv.three
  obtain ⟨k, hk⟩ := X.df 463 _ (.tail _ (.tail _ (.tail _ (.head _))))
  refine wpAny_bind (m := seqItems? (.ref 463)) (wpAny_seqItems (sr.old _ _ hk) rfl ?_)
  exact wpAny_pure (qq _ _ [(nm02 4, _), (nm02 7, _), (nm02 8, _), (nm02 9, _)] .refl .refl sr (.cons r1 (.cons r2 (.cons r3 (.cons r4 .nil)))))
theorem add_head (X : Ok q) (hk : k < 18) {si : Nat} (hb : os[b]? = some (binO k W H t ri si se)) (hw : 0 < w) (hh : 0 < h) {rid : V} {p : Nat} {ext : List O} {v1 v2 : V} (sel : EvC (cx q) (n + 5) 462 [.obj b, .int w, .int h] [] os (.obj p) (os ++ ext)) (hp : (os ++ ext)[p]? = some (.tup [v1, v2])) {v : V} {σ' : Sg}
    (hB : EvB (cx q) (n + 5) (scp (me 9 7)) ((bdy (me 9 7)).drop 2) ⟨upd (upd (varsOf [(4, .obj b), (7, .int w), (8, .int h), (9, rid)]) 23 v1) 40 v2, os ++ ext⟩ (.ret v) σ') : EvC (cx q) (n + 6) 470 [.obj b, .int w, .int h, rid] [] os v σ'.os :=
  c_fn X.g (X.fn 11 rfl rfl) rfl (bind470 X) (b_cons (s_assertT (t_andB (t_of (t_cmp (e_loc X.g 7 rfl rfl rfl) e_int c_gt) (decide_eq_true hw)) (t_andB (t_of (t_cmp (e_loc X.g 8 rfl rfl rfl) e_int c_gt) (decide_eq_true hh)) t_and0)) rfl)
    (b_cons (s_unp (e_meth X.g 41 (e_loc X.g 4 rfl rfl rfl) rfl hb (at_k hk rfl) rfl rfl (a_pos rfl (l_cons (e_loc X.g 7 rfl rfl rfl) (l_cons (e_loc X.g 8 rfl rfl rfl) l_nil))) sel rfl) (.tup [23, 40] (.cons 23 rfl rfl (.cons 40 rfl rfl .nil)) hp rfl))
    hB)) (.inl rfl)
theorem add_none (X : Ok q) (B : Bin0 os b k W H t ri se ss secs) (hw : 0 < w) (hh : 0 < h) (bw : small w) (bh : small h) {rid : V} (hc : bestF none (cands k t w h ss secs) = none) : ∃ ext, EvC (cx q) (n + 6) 470 [.obj b, .int w, .int h, rid] [] os .none (os ++ ext) := by
  obtain ⟨ext, p, sel, hp⟩ := select_run (n := n + 1) X B bw bh
  obtain ⟨si, hb⟩ := B.hb
  rw [hc] at hp
  exact ⟨ext, add_head (σ' := ⟨_, os ++ ext⟩) X B.hk hb hw hh sel hp (b_ret (s_ifT (t_not (t_name (e_loc X.g 23 rfl rfl rfl) tr_none)) rfl (b_ret (s_ret e_none))))⟩
theorem add_some (X : Ok q) (B : Bin os b k W H t ri se ss secs rs rects) (hw : 0 < w) (hh : 0 < h) (bw : small w) (bh : small h) {rid : V} {c : Cd} (hc : bestF none (cands k t w h ss secs) = some c) :
    ∃ os' idx ss', EvC (cx q) (n + 6) 470 [.obj b, .int w, .int h, rid] [] os (.obj idx) os' ∧
      (2 * ss'.length + 10 < lim → rs.length + 12 < lim → Bin os' b k W H t ri se ss' (secs.erase c.2.2.1 ++ splitL k c.2.2.1 (bif c.2.2.2 then h else w) (bif c.2.2.2 then w else h)) (rs ++ [idx]) (rects ++ [(⟨c.2.2.1.x, c.2.2.1.y, bif c.2.2.2 then h else w, bif c.2.2.2 then w else h⟩, rid)])) ∧
      Frm os os' se ri ∧ os.length ≤ idx ∧ ss'.length ≤ ss.length + 2 ∧ os'[idx]? = some (R.o ⟨c.2.2.1.x, c.2.2.1.y, bif c.2.2.2 then h else w, bif c.2.2.2 then w else h⟩ rid) := by
  obtain ⟨ext, p, sel, hp⟩ := select_run (n := n + 1) X B.toBin0 bw bh
  obtain ⟨si, hb⟩ := B.hb
  rw [hc] at hp
  have hp : (os ++ ext)[p]? = some (.tup [.obj c.2.1, .bool c.2.2.2]) := hp
  obtain ⟨hf, j, h1, h2⟩ := cands_mem ((bestF_mem hc).resolve_right nofun)
  have hi : (os ++ ext)[c.2.1]? = some (c.2.2.1.o (.int 0)) := get_app (B.sec.at h1 h2)
  have hm := List.mem_of_getElem? h2
  cases hr : c.2.2.2 with
  | true =>
    rw [hr] at hf hp
    obtain ⟨f1, f2⟩ := fitF_le hf.2
    obtain ⟨σ', idx, ss', g, r1, r2, r3, r4, r5⟩ := add_tail (n := n) (w := h) (h := w) (vs := upd (upd (upd (upd (varsOf [(4, .obj b), (7, .int w), (8, .int h), (9, rid)]) 23 (.obj c.2.1)) 40 (.bool true)) 8 (.int w)) 7 (.int h)) (rid := rid) X (B.app (l := ext)).app (get_app (l := [.tup [.int h, .int w]]) hi) hm hh hw f1 f2 rfl rfl rfl rfl rfl
    refine ⟨σ'.os, idx, ss', add_head X B.hk hb hw hh sel hp (b_cons (s_ifF (t_not (t_name (e_loc X.g 23 rfl rfl rfl) (tr_inst X.g hi rfl))) rfl b_nil) (b_cons (s_ifT (t_name (e_loc X.g 40 rfl rfl rfl) tr_bool) rfl (b_cons (s_swap X.g 7 8 rfl rfl (by decide) rfl rfl rfl (e_tup (l_cons (e_loc X.g 8 rfl rfl rfl) (l_cons (e_loc X.g 7 rfl rfl rfl) l_nil)) (show 2 < lim by decide)) get_end) b_nil)) g)), r1, r2.pre.pre, ?_, r4, r5⟩
    rw [List.length_append, List.length_append] at r3
    omega
  | false =>
    rw [hr] at hf hp
    obtain ⟨f1, f2⟩ := fitF_le (show fitF k c.2.2.1 w h = some c.1 from hf)
    obtain ⟨σ', idx, ss', g, r1, r2, r3, r4, r5⟩ := add_tail (n := n) (vs := upd (upd (varsOf [(4, .obj b), (7, .int w), (8, .int h), (9, rid)]) 23 (.obj c.2.1)) 40 (.bool false)) (rid := rid) X (B.app (l := ext)) hi hm hw hh f1 f2 rfl rfl rfl rfl rfl
    refine ⟨σ'.os, idx, ss', add_head X B.hk hb hw hh sel hp (b_cons (s_ifF (t_not (t_name (e_loc X.g 23 rfl rfl rfl) (tr_inst X.g hi rfl))) rfl b_nil) (b_cons (s_ifF (t_name (e_loc X.g 40 rfl rfl rfl) tr_bool) rfl b_nil) g)), r1, r2.pre, ?_, r4, r5⟩
    rw [List.length_append] at r3
    omega
end
end Rw
namespace Rw
open PySem PySem.W PySem.Calls PyProof.Rows
noncomputable def rowL (p : R × V) : List V := [.int p.1.x, .int p.1.y, .int p.1.w, .int p.1.h, p.2]
abbrev Rws (os : List O) (us : List V) (l : List (R × V)) : Prop := All2 (fun u p => ∃ t, u = .obj t ∧ os[t]? = some (.tup (rowL p))) us l
theorem Rws.mono {os os' : List O} {us : List V} {l : List (R × V)} (h : ∀ (p : Nat) (l : List V), os[p]? = some (O.tup l) → os'[p]? = some (O.tup l)) (d : Rws os us l) : Rws os' us l := All2.mono (fun _ _ ⟨p, e1, e2⟩ => ⟨p, e1, h _ _ e2⟩) d
noncomputable def lpT : Expr := match ((bdy (me 7 8))[1]? : Option Stmt) with
  | some (.For t _ _ _ _) => t
  | _ => default
noncomputable def lpB : List Stmt := match ((bdy (me 7 8))[1]? : Option Stmt) with
  | some (.For _ _ b _ _) => b
  | _ => default
section
variable {q : Pm} {os pre : List O} {n b k ri se : Nat} {W H : Int} {t : Bool} {ss : List Nat} {secs : List R} {rs : List Nat} {rects : List (R × V)}
theorem rows_go (X : Ok q) (hl : pre[ri]? = some (.list (rs.map .obj))) : ∀ (rs2 : List Nat) (rects : List (R × V)) (j : Nat) (acc : List V) (post : List O) (vs : Nat → Option V), rs.drop j = rs2 → Lrs pre rs2 rects → vs 19 = some (.obj pre.length) → acc.length + rs2.length < lim →
    ∃ ext us vs', ForGo (cx q) n (scp (me 7 8)) lpT lpB (.live ri) rs2.length j ⟨vs, pre ++ .list acc :: post⟩ .nxt ⟨vs', pre ++ .list (acc ++ us) :: (post ++ ext)⟩ ∧ Rws (pre ++ .list (acc ++ us) :: (post ++ ext)) us rects ∧ vs' 19 = some (.obj pre.length) := by
  intro rs2
  induction rs2 with
  | nil =>
    intro rects j acc post vs hd hr hv _
    cases hr
    refine ⟨[], [], vs, ?_, .nil, hv⟩
    rw [List.append_nil, List.append_nil]
    refine .done (get_app hl) ?_
    rw [List.length_map]
    have := congrArg List.length hd
    rw [List.length_drop, List.length_nil] at this
    omega
  | cons i rs2 ih =>
    intro rects j acc post vs hd hr hv hlim
    cases hr with
    | @cons _ sr _ m hi hr =>
    have hj : rs[j]? = some i := by
      have := congrArg (fun l => l[0]?) hd
      rwa [List.getElem?_drop] at this
    have hd2 : rs.drop (j + 1) = rs2 := by rw [← List.drop_drop, hd]; rfl
    have hv2 : (rs.map V.obj)[j]? = some (.obj i) := by rw [List.getElem?_map, hj]; rfl
    have hi' : (pre ++ O.list acc :: post)[i]? = some (R.o sr.1 sr.2) := get_app hi
    obtain ⟨ext, us, vs', g, d, hv'⟩ := ih m (j + 1) (acc ++ [V.obj (pre ++ O.list acc :: post).length]) (post ++ [O.tup (rowL sr)]) (upd vs 18 (.obj i)) hd2 hr hv (by rw [List.length_append]; simp only [List.length_cons, List.length_nil] at *; omega)
    rw [List.append_assoc, List.append_assoc] at g d
    refine ⟨.tup (rowL sr) :: ext, .obj (pre ++ O.list acc :: post).length :: us, vs', ?_, (.cons ⟨_, rfl, get_mid⟩ d), hv'⟩
    have e : ((pre ++ O.list acc :: post) ++ [O.tup (rowL sr)]).set pre.length (O.list (acc ++ [V.obj (pre ++ O.list acc :: post).length])) = pre ++ O.list (acc ++ [V.obj (pre ++ O.list acc :: post).length]) :: (post ++ [O.tup (rowL sr)]) := by
      rw [List.append_assoc, List.cons_append, set_end]
    have hal : acc.length < lim := by simp only [List.length_cons] at hlim; omega
    refine .step (get_app hl) hv2 (.name 18 rfl rfl) (b_cons (s_expr (EvE.toO (e_append (e_loc X.g 19 rfl rfl hv) get_end (a_pos rfl (l_cons (e_tup (l_cons (e_att X.g 5 (e_loc X.g 18 rfl rfl rfl) rfl hi' rfl rfl) (l_cons (e_att X.g 6 (e_loc X.g 18 rfl rfl rfl) rfl hi' rfl rfl) (l_cons (e_att X.g 7 (e_loc X.g 18 rfl rfl rfl) rfl hi' rfl rfl) (l_cons (e_att X.g 8 (e_loc X.g 18 rfl rfl rfl) rfl hi' rfl rfl) (l_cons (e_att X.g 9 (e_loc X.g 18 rfl rfl rfl) rfl hi' rfl rfl) l_nil))))) (show 5 < lim by decide)) l_nil)) (get_app get_end) hal rfl) e)) b_nil) g
theorem list_run (X : Ok q) (B : Bin os b k W H t ri se ss secs rs rects) : ∃ ext us, EvC (cx q) (n + 1) 377 [.obj b] [] os (.obj os.length) (os ++ .list us :: ext) ∧ Rws (os ++ .list us :: ext) us rects := by
  obtain ⟨si, hb⟩ := B.hb
  have hl : (os)[ri]? = some (.list (rs.map .obj)) := B.hl
  obtain ⟨ext, us, vs', g, d, hv⟩ := rows_go (n := n) X hl rs rects 0 [] [] (upd (varsOf [(4, .obj b)]) 19 (.obj os.length)) rfl B.lrec rfl (by have := B.rlim; rw [List.length_nil]; omega)
  refine ⟨ext, us, ?_, d⟩
  exact c_fn X.g (X.fn 4 rfl rfl) rfl (bind1 fun _ => rfl) (b_cons (s_asg 19 rfl rfl (e_list l_nil (show 0 < lim by decide)))
    (b_cons (s_forSelf (fld := 15) (f := 333) (fd := fdI) (rn := Str.ofString "r") (k := 4) X.g ⟨X.itr.1, X.itr.2.2.2 k B.hk, X.itr.2.1, (at_k B.hk rfl), rfl, rfl, rfl, rfl, rfl, rfl, rfl, rfl, X.itr.2.2.1, rfl, rfl, rfl, rfl⟩ (e_loc X.g 4 rfl rfl rfl) (get_app hb) rfl (bind1 fun _ => rfl) g)
    (b_ret (s_ret (e_loc X.g 19 rfl rfl hv))))) (.inl rfl)
end
end Rw
namespace Rw
open PySem PySem.W PySem.Calls PyProof.Rows
section
variable {q : Pm} {os : List O} {a b c d e f g : V} {A : Around} {E : Value → Shared → Prop} {fs : List Env} {ρ : Rho} {s : Shared}
theorem KR.append {c : Cx} {l m : List (Nat × V)} {xs ys : List (Str × Value)} (h : KR c ρ l xs) (k : KR c ρ m ys) : KR c ρ (l ++ m) (xs ++ ys) := by
  induction h with
  | nil => exact k
  | cons a _ ih => exact .cons a ih
theorem star0 (sr : SR (cx q) fs ρ os s) {Q : List (Str × Value) → Shared → Prop} {bS : List (Str × Value)} {bl : List (Nat × V)} (kr : KR (cx q) ρ bl bS) (qq : ∀ ρ' s' bs, Qu s s' → Le (cx q) [] fs ρ s ρ' s' → SR (cx q) fs ρ' (os ++ [.tup [], .dict [] []]) s' → KR (cx q) ρ' (bl ++ [(13, .obj os.length), (14, .obj (os.length + 1))]) bs → Q bs s') :
    wpAny (model (cx q).prog (cx q).w) A (do let t ← newTuple []; let d ← alloc { cls := .type "dict", data := .dict #[] }; pure (bS ++ [(nm02 13, t)] ++ [(nm02 14, .ref d)])) Q E s := by
  refine wpAny_bind (wpAny_newTuple ?_ (Nat.zero_le _))
  obtain ⟨a1, b1, c1⟩ := new_objS (t := s.toks) sr (OR.newT (l := []) (ys := []) .nil)
  refine wpAny_bind (wpAny_alloc ?_)
  obtain ⟨a2, b2, c2⟩ := new_objS (t := s.toks) (o := { cls := .type "dict", data := .dict #[] }) (o' := .dict [] []) b1 (.dict (Heap.get?_push_size _ rfl) .nil)
  rw [show os ++ [O.tup []] ++ [O.dict [] []] = os ++ [O.tup [], O.dict [] []] from List.append_assoc ..] at b2
  rw [List.length_append] at c2
  refine wpAny_pure (qq _ _ _ ((Qu.push (t := s.toks)).trans (Qu.push (t := s.toks))) (a1.trans a2) b2 ?_)
  rw [List.append_assoc bS]
  exact (kr.pre.pre).append (.cons (n := 13) (a2.vr c1) (.cons (n := 14) c2 .nil))
theorem bind319 (X : Ok q) : BindJ (cx q) (FT.getD 3 default).2.2 [a, b, c, d] [] os [(4, a), (7, b), (8, c), (11, d), (12, .none), (13, .obj os.length), (14, .obj (os.length + 1))] (os ++ [.tup [], .dict [] []]) := by
  intro A fs ρ s vs' ks' Q E sr rv rk qq
  cases rk
  cases rv with | cons r1 rv =>
  obtain ⟨y2, y3, y4, rfl, r2, r3, r4⟩ := rv.three
  obtain ⟨k, hk⟩ := X.df 312 _ (.tail _ (.head _))
  refine wpAny_bind (m := seqItems? (.ref 312)) (wpAny_seqItems (sr.old _ _ hk) rfl ?_)
  exact star0 (bl := [(4, a), (7, b), (8, c), (11, d), (12, .none)]) (bS := [(nm02 4, _), (nm02 7, _), (nm02 8, _), (nm02 11, _), (nm02 12, _)]) sr (.cons r1 (.cons r2 (.cons r3 (.cons r4 (.cons rfl .nil))))) qq
theorem star2 (sr : SR (cx q) fs ρ os s) {Q : List (Str × Value) → Shared → Prop} {bS : List (Str × Value)} {bl : List (Nat × V)} (kr : KR (cx q) ρ bl bS) {k1 k2 : Nat} (hk : k2 ≠ k1) {x1 x2 : Value} (ra : VR (cx q) ρ a x1) (rb : VR (cx q) ρ b x2) (qq : ∀ ρ' s' bs, Qu s s' → Le (cx q) [] fs ρ s ρ' s' → SR (cx q) fs ρ' (os ++ [.tup [], .dict [k1, k2] [a, b]]) s' → KR (cx q) ρ' (bl ++ [(13, .obj os.length), (14, .obj (os.length + 1))]) bs → Q bs s') :
    wpAny (model (cx q).prog (cx q).w) A (do let t ← newTuple []; let d ← alloc { cls := .type "dict", data := .dict #[] }; forIn [(nm02 k1, x1), (nm02 k2, x2)] PUnit.unit (fun x _ => do nsSet d x.1 x.2; pure (ForInStep.yield PUnit.unit)); pure (bS ++ [(nm02 13, t)] ++ [(nm02 14, .ref d)])) Q E s := by
  refine wpAny_bind (wpAny_newTuple ?_ (Nat.zero_le _))
  obtain ⟨l1, b1, c1⟩ := new_objS (t := s.toks) sr (OR.newT (l := []) (ys := []) .nil)
  generalize hs1 : ({ s with heap := s.heap.push { cls := .type "tuple", data := .seq ([] : List Value).toArray }, toks := s.toks } : Shared) = s1 at l1 b1
  have u1 : Qu s s1 := hs1 ▸ Qu.push
  have kr1 := l1.kr kr
  have ra1 := l1.vr ra
  have rb1 := l1.vr rb
  generalize ρ ++ [(s.heap.objs.size, s.heap.objs.size)] = ρ1 at *
  refine wpAny_bind (wpAny_alloc ?_)
  have gD : (s1.heap.push { cls := .type "dict", data := .dict #[] }).get? s1.heap.objs.size = some (dictOf [] 0) := Heap.get?_push_size _ rfl
  have u2 : Qu s1 { s1 with heap := s1.heap.push { cls := .type "dict", data := .dict #[] } } := Qu.push (t := s1.toks)
  refine wpAny_bind ?_
  rw [List.forIn_cons]
  refine wpAny_bind (wpAny_bind (raw_nsSet gD rfl (Nat.zero_le _) fun s2 u3 g2 => wpAny_pure ?_))
  dsimp only
  rw [List.forIn_cons]
  refine wpAny_bind (wpAny_bind (raw_nsSet g2 rfl (show 1 ≤ 1000 by decide) fun s3 u4 g3 => wpAny_pure ?_))
  dsimp only
  rw [List.forIn_nil]
  refine wpAny_pure (wpAny_pure ?_)
  have u5 : Qu s1 s3 := (u2.up u3 (Nat.le_refl _)).up u4 (Nat.le_refl _)
  have hz := Heap.lt_size g3
  have e0 : EntR (cx q) ρ1 ([(k1, a)].map (·.1)) ([(k1, a)].map (·.2)) _ := EntR.put (f := []) (t := s1.toks) ra1 .nil
  have e1 := EntR.put (n := k2) (t := s2.toks) rb1 e0
  have eq1 : setF [(k1, a)] k2 b = [(k1, a), (k2, b)] := by
    unfold setF
    dsimp only
    rw [if_neg (Ne.symm hk)]
    rfl
  rw [eq1] at e1
  obtain ⟨sr3, l3⟩ := b1.add (W := []) (p := (s1.heap.objs.size, s1.heap.objs.size)) (o := .dict [k1, k2] [a, b]) u5 ⟨Nat.le_refl _, Nat.le_refl _⟩ ⟨hz, hz⟩ (.dict g3 e1.pre)
  · refine qq _ _ _ (u1.trans u5) (l1.trans l3) ?_ ?_
    · rw [show os ++ [O.tup []] ++ [O.dict [k1, k2] [a, b]] = os ++ [O.tup [], O.dict [k1, k2] [a, b]] from List.append_assoc ..] at sr3
      exact sr3
    · rw [List.append_assoc bS]
      refine (l3.kr kr1).append (.cons (n := 13) (l3.vr c1) (.cons (n := 14) ⟨(s1.heap.objs.size, s1.heap.objs.size), ?_, rfl⟩ .nil))
      have := b1.len
      rw [List.length_append] at this
      show (ρ1 ++ _)[os.length + 1]? = _
      rw [show os.length + 1 = ρ1.length from this.symm, List.getElem?_concat_length]
theorem bind422 (X : Ok q) : BindJ (cx q) (FT.getD 6 default).2.2 [a, b, c] [(11, d), (20, e)] os [(4, a), (7, b), (8, c), (11, d), (20, e), (13, .obj os.length), (14, .obj (os.length + 1))] (os ++ [.tup [], .dict [] []]) := by
  intro A fs ρ s vs' ks' Q E sr rv rk qq
  cases rk with | cons r4 rk =>
  cases rk with | cons r5 rk =>
  cases rk
  obtain ⟨y1, y2, y3, rfl, r1, r2, r3⟩ := rv.three
  obtain ⟨k, hk⟩ := X.df 414 _ (.tail _ (.tail _ (.head _)))
  refine wpAny_bind (m := seqItems? (.ref 414)) (wpAny_seqItems (sr.old _ _ hk) rfl ?_)
  exact star0 (bl := [(4, a), (7, b), (8, c), (11, d), (20, e)]) (bS := [(nm02 4, _), (nm02 7, _), (nm02 8, _), (nm02 11, _), (nm02 20, _)]) sr (.cons r1 (.cons r2 (.cons r3 (.cons r4 (.cons r5 .nil))))) qq
theorem bind1322 : BindJ (cx q) (FT.getD 35 default).2.2 [a, b, c] [(11, d), (20, e)] os [(46, a), (7, b), (8, c), (13, .obj os.length), (14, .obj (os.length + 1))] (os ++ [.tup [], .dict [11, 20] [d, e]]) := by
  intro A fs ρ s vs' ks' Q E sr rv rk qq
  cases rk with | cons r4 rk =>
  cases rk with | cons r5 rk =>
  cases rk
  obtain ⟨y1, y2, y3, rfl, r1, r2, r3⟩ := rv.three
  exact star2 (bl := [(46, a), (7, b), (8, c)]) (bS := [(nm02 46, _), (nm02 7, _), (nm02 8, _)]) sr (.cons r1 (.cons r2 (.cons r3 .nil))) (by decide) r4 r5 qq
theorem bind1336 : BindJ (cx q) (FT.getD 36 default).2.2 [a, b, c, f, g] [(11, d), (20, e)] os [(4, a), (7, b), (8, c), (76, f), (46, g), (13, .obj os.length), (14, .obj (os.length + 1))] (os ++ [.tup [], .dict [11, 20] [d, e]]) := by
  intro A fs ρ s vs' ks' Q E sr rv rk qq
  cases rk with | cons r4 rk =>
  cases rk with | cons r5 rk =>
  cases rk
  cases rv with | cons r1 rv =>
  cases rv with | cons r2 rv =>
  obtain ⟨y3, y4, y5, rfl, r3, r6, r7⟩ := rv.three
  exact star2 (bl := [(4, a), (7, b), (8, c), (76, f), (46, g)]) (bS := [(nm02 4, _), (nm02 7, _), (nm02 8, _), (nm02 76, _), (nm02 46, _)]) sr (.cons r1 (.cons r2 (.cons r3 (.cons r6 (.cons r7 .nil))))) (by decide) r4 r5 qq
end
end Rw
namespace Rw
open PySem PySem.W PySem.Calls PyProof.Rows
noncomputable def binF (W H : Int) (t : Bool) (ri si : Nat) : List (Nat × V) := [(21, .bool false), (7, .int W), (8, .int H), (11, .bool t), (15, .obj ri), (12, .none), (16, .obj si)]
theorem s_asgB {c : Cx} {n : Nat} {sc : Scope} {s : Stmt} {σ : Sg} {vs : Nat → Option V} {o1 o2 : List O} {fl : Fl} (h : EvS c n sc s σ fl ⟨vs, o1⟩) (e : o1 = o2) : EvS c n sc s σ fl ⟨vs, o2⟩ := e ▸ h
theorem get_end1 {os l : List O} {a b : O} : (os ++ a :: b :: l)[os.length + 1]? = some b := by rw [List.getElem?_append_right (Nat.le_add_right _ 1), Nat.add_sub_cancel_left]; rfl
theorem set_app {os l : List O} {i : Nat} {o o' : O} (h : i < os.length) : (os.set i o ++ l).set i o' = (os ++ l).set i o' := by
  rw [← List.set_append_left _ _ h, List.set_set]
theorem lt_of {os : List O} {i : Nat} {o : O} (h : os[i]? = some o) : i < os.length := (List.getElem?_eq_some_iff.mp h).1
theorem s_attJ {c : Cx} {n : Nat} {sc : Scope} {a e : Expr} {v : V} {vs : Nat → Option V} {os l : List O} {pos ap : Pos} {i cl : Nat} {x : Str} {f : List (Nat × V)} (G : Gd c) (k : Nat) (hn : c.nm k = x) (hi : i < os.length) (h : EvE c n sc e ⟨vs, os.set i (.inst cl f)⟩ v ⟨vs, os.set i (.inst cl f) ++ l⟩) (h2 : EvE c n sc a ⟨vs, os.set i (.inst cl f) ++ l⟩ (.obj i) ⟨vs, os.set i (.inst cl f) ++ l⟩) (ha : c.P.att cl k = some .no) (hf : Nat.ble f.length 100 = true) :
    EvS c n sc (.Assign [.Attribute a x ap] e pos) ⟨vs, os.set i (.inst cl f)⟩ .nxt ⟨vs, (os ++ l).set i (.inst cl (setF f k v))⟩ := by
  have := s_att G k (ap := ap) (pos := pos) hn h h2 (get_app (List.getElem?_set_self hi)) ha (Nat.le_of_ble_eq_true hf)
  rwa [set_app hi] at this
section
variable {q : Pm} {os : List O} {n b k si r0 : Nat} {W H : Int} {t : Bool} {cl : Nat} {f : List (Nat × V)}
theorem reset0_run (X : Ok q) (hk : k < 18) (hb : os[b]? = some (.inst (564 + 19 * k) f)) (hf : f.length ≤ 100) : EvC (cx q) (n + 1) 398 [.obj b] [] os .none ((os ++ [O.list []]).set b (.inst (564 + 19 * k) (setF f 15 (.obj os.length)))) :=
  c_fn X.g (X.fn 5 rfl rfl) rfl (bind1 fun _ => rfl) (b_cons (s_att X.g 15 rfl (e_list l_nil (show 0 < lim by decide)) (e_loc X.g 4 rfl rfl rfl) (get_app hb) (at_k hk rfl) hf)
    b_nil) (.inr ⟨rfl, rfl⟩)
theorem reset_run (X : Ok q) (hk : k < 18) (hW : 0 ≤ W) (hH : 0 ≤ H) (hb : os[b]? = some (.inst (564 + 19 * k) (binF W H t r0 si))) : ∃ os', EvC (cx q) (n + 4) 485 [.obj b] [] os .none os' ∧ os'[b]? = some (binO k W H t os.length si (os.length + 1)) ∧ os'[os.length]? = some (.list []) ∧ os'[os.length + 1]? = some (.list [.obj (os.length + 2)]) ∧ os'[os.length + 2]? = some (rectO 0 0 W H (.int 0)) ∧ ∀ (i : Nat) o, os[i]? = some o → i ≠ b → os'[i]? = some o := by
  have lb := lt_of hb
  have r1 := reset0_run (n := n + 2) X hk hb (Nat.le_of_ble_eq_true rfl)
  generalize ho1 : (os ++ [O.list []]).set b (.inst (564 + 19 * k) (setF (binF W H t r0 si) 15 (.obj os.length))) = os1 at r1
  have l1 : os1.length = os.length + 1 := by rw [← ho1, List.length_set, List.length_append]; rfl
  have b1 : os1[b]? = some (.inst (564 + 19 * k) (binF W H t os.length si)) := ho1 ▸ get_set (get_app hb)
  have g1 : os1[os.length]? = some (.list []) := ho1 ▸ get_ne get_end (Nat.ne_of_lt lb)
  have k1 : ∀ (i : Nat) o, os[i]? = some o → i ≠ b → os1[i]? = some o := fun i o e h => ho1 ▸ get_ne (get_app e) (Ne.symm h)
  generalize ho2 : (os1 ++ [O.list []]).set b (binO k W H t os.length si os1.length) = os2
  have l2 : os2.length = os.length + 2 := by rw [← ho2, List.length_set, List.length_append, l1]; rfl
  have b2 : os2[b]? = some (binO k W H t os.length si os1.length) := ho2 ▸ get_set (get_app b1)
  have lb1 : b < os1.length := lt_of b1
  have s2 : os2[os1.length]? = some (.list []) := ho2 ▸ get_ne get_end (Nat.ne_of_lt lb1)
  have k2 : ∀ (i : Nat) o, os1[i]? = some o → i ≠ b → os2[i]? = some o := fun i o e h => ho2 ▸ get_ne (get_app e) (Ne.symm h)
  have ad := (addsec_run (n := n + 1) (os := os2 ++ [rectO 0 0 W H .none]) X hk (get_app b2) get_end (get_app s2) (show 0 < lim by decide)).to new_to
  have ls : os1.length < (os2 ++ [rectO 0 0 W H (.int 0)]).length := by rw [List.length_append, l2, l1]; exact Nat.lt_succ_of_lt (Nat.lt_succ_self _)
  refine ⟨(os2 ++ [rectO 0 0 W H (.int 0)]).set os1.length (.list ([] ++ [.obj os2.length])), ?_, ?_, ?_, ?_, ?_, fun i o e h => ?_⟩
  · exact c_fn X.g (X.fn 13 rfl rfl) rfl (bind1 fun _ => rfl) (b_cons (s_expr (e_super X.g 17 rfl rfl (e_glob X.g 134 rfl rfl rfl) (e_loc X.g 4 rfl rfl rfl) hb (su_r hk) (a_pos rfl l_nil) r1))
    (b_cons (s_asgB (s_att X.g 25 rfl (e_list l_nil (show 0 < lim by decide)) (e_loc X.g 4 rfl rfl rfl) (get_app b1) (at_k hk rfl) (Nat.le_of_ble_eq_true rfl)) ho2)
    (b_cons (s_expr (e_meth X.g 28 (e_loc X.g 4 rfl rfl rfl) rfl b2 (at_k hk rfl) rfl rfl (a_pos rfl (l_cons (e_call X.g (e_glob X.g 133 rfl rfl rfl) (a_pos rfl (l_cons e_int (l_cons e_int (l_cons (e_att X.g 7 (e_loc X.g 4 rfl rfl rfl) rfl b2 (at_k hk rfl) rfl) (l_cons (e_att X.g 8 (e_loc X.g 4 rfl rfl rfl) rfl b2 (at_k hk rfl) rfl) l_nil))))) rfl (f_top (rect_new X hW hH))) l_nil)) ad rfl))
    b_nil))) (.inr ⟨rfl, rfl⟩)
  · rw [← l1]; exact get_ne (get_app b2) (Nat.ne_of_gt lb1)
  · exact get_ne (get_app (k2 _ _ g1 (Nat.ne_of_gt lb))) (by omega)
  · rw [← l1, ← l2]; exact List.getElem?_set_self ls
  · rw [← l2]; exact get_ne get_end (by omega)
  · have hi := lt_of e
    exact get_ne (get_app (k2 _ _ (k1 _ _ e h) h)) (by omega)
theorem bin_of {os' : List O} {L : Nat} (hk : k < 18) (h1 : os'[b]? = some (binO k W H t L si (L + 1))) (h2 : os'[L]? = some (.list [])) (h3 : os'[L + 1]? = some (.list [.obj (L + 2)])) (h4 : os'[L + 2]? = some (rectO 0 0 W H (.int 0))) (ok : okR ⟨0, 0, W, H⟩) : Bin os' b k W H t L (L + 1) [L + 2] [⟨0, 0, W, H⟩] [] [] :=
  ⟨⟨hk, ⟨si, h1⟩, h3, .cons h4 .nil, fun s hs => by cases List.mem_singleton.mp hs; exact ok, show 12 < lim by decide⟩, h2, .nil, Nat.succ_ne_self _, show 10 < lim by decide⟩
noncomputable def Kp (os os' : List O) (b : Nat) : Prop := ∀ (i : Nat) o, os[i]? = some o → i ≠ b → os'[i]? = some o
theorem pack_run (X : Ok q) (hk : k < 18) (ok : okR ⟨0, 0, W, H⟩) (hW : 0 ≤ W) (hH : 0 ≤ H) (hb : os[b]? = some (.inst (564 + 19 * k) [(21, .bool false)])) : ∃ os' L, EvC (cx q) (n + 5) 319 [.obj b, .int W, .int H, .bool t] [] os .none os' ∧ Bin os' b k W H t L (L + 1) [L + 2] [⟨0, 0, W, H⟩] [] [] ∧ Kp os os' b ∧ os.length ≤ L := by
  have lb : b < (os ++ [O.tup [], O.dict [] []]).length := lt_of (get_app hb)
  generalize h1 : os ++ [O.tup [], O.dict [] []] = os1 at lb
  have lb2 : b < (os1 ++ [O.list []]).length := by rw [List.length_append]; exact Nat.lt_of_lt_of_le lb (Nat.le_add_right _ _)
  have lb3 : b < (os1 ++ [O.list []] ++ [rectO 0 0 W H .none]).length := by rw [List.length_append]; exact Nat.lt_of_lt_of_le lb2 (Nat.le_add_right _ _)
  generalize hr0 : (os1.set b (.inst (564 + 19 * k) [(21, .bool false), (7, .int W), (8, .int H), (11, .bool t)])).length = r0
  generalize hsi : ((os1 ++ [O.list []]).set b (.inst (564 + 19 * k) [(21, .bool false), (7, .int W), (8, .int H), (11, .bool t), (15, .obj r0), (12, .none)])).length = si
  obtain ⟨os', r, g1, g2, g3, g4, g5⟩ := reset_run (n := n) (os := (os1 ++ [O.list []] ++ [rectO 0 0 W H .none]).set b (.inst (564 + 19 * k) (binF W H t r0 si))) X hk hW hH (List.getElem?_set_self lb3)
  refine ⟨os', _, ?_, bin_of hk g1 g2 g3 g4 ok, fun i o e hi => g5 i o (get_ne (get_app (get_app (h1 ▸ get_app e))) (Ne.symm hi)) hi, by rw [List.length_set, ← h1, List.append_assoc, List.append_assoc, List.length_append]; exact Nat.le_add_right _ _⟩
  subst hsi hr0
  exact c_fn X.g (X.fn 3 rfl rfl) rfl (h1 ▸ bind319 X) (b_cons (s_att X.g 7 rfl (e_loc X.g 7 rfl rfl rfl) (e_loc X.g 4 rfl rfl rfl) (h1 ▸ get_app hb) (at_k hk rfl) (Nat.le_of_ble_eq_true rfl))
    (b_cons (s_attI X.g 8 rfl lb (e_loc X.g 8 rfl rfl rfl) (e_loc X.g 4 rfl rfl rfl) (at_k hk rfl) rfl)
    (b_cons (s_attI X.g 11 rfl lb (e_loc X.g 11 rfl rfl rfl) (e_loc X.g 4 rfl rfl rfl) (at_k hk rfl) rfl)
    (b_cons (s_attJ X.g 15 rfl lb (e_list l_nil (show 0 < lim by decide)) (e_loc X.g 4 rfl rfl rfl) (at_k hk rfl) rfl)
    (b_cons (s_attI X.g 12 rfl lb2 (e_loc X.g 12 rfl rfl rfl) (e_loc X.g 4 rfl rfl rfl) (at_k hk rfl) rfl)
    (b_cons (s_attJ X.g 16 rfl lb2 (e_call (σ'' := ⟨_, (os1 ++ [O.list []]).set b _⟩) X.g (e_glob X.g 133 rfl rfl rfl) (a_pos rfl (l_cons e_int (l_cons e_int (l_cons (e_loc X.g 7 rfl rfl rfl) (l_cons (e_loc X.g 8 rfl rfl rfl) l_nil))))) rfl (f_top (rect_new X hW hH))) (e_loc X.g 4 rfl rfl rfl) (at_k hk rfl) rfl)
    (b_cons (s_expr (e_meth X.g 17 (e_loc X.g 4 rfl rfl rfl) rfl (List.getElem?_set_self lb3) (at_k hk rfl) rfl rfl (a_pos rfl l_nil) r rfl))
    b_nil))))))) (.inr ⟨rfl, rfl⟩)
theorem guil_run (X : Ok q) (hk : k < 18) (ok : okR ⟨0, 0, W, H⟩) (hW : 0 ≤ W) (hH : 0 ≤ H) (hb : os[b]? = some (.inst (564 + 19 * k) [])) : ∃ os' L, EvC (cx q) (n + 6) 422 [.obj b, .int W, .int H] [(11, .bool t), (20, .bool false)] os .none os' ∧ Bin os' b k W H t L (L + 1) [L + 2] [⟨0, 0, W, H⟩] [] [] ∧ Kp os os' b ∧ os.length ≤ L := by
  have lb : b < (os ++ [O.tup [], O.dict [] []]).length := lt_of (get_app hb)
  have nb := lt_of hb
  obtain ⟨os', L, r, B, K, hL⟩ := pack_run (n := n) (t := t) (os := (os ++ [O.tup [], O.dict [] []]).set b (.inst (564 + 19 * k) [(21, .bool false)])) X hk ok hW hH (List.getElem?_set_self lb)
  refine ⟨os', L, ?_, B, fun i o e hi => K i o (get_ne (get_app e) (Ne.symm hi)) hi, Nat.le_trans (by rw [List.length_set, List.length_append]; exact Nat.le_add_right _ _) hL⟩
  exact c_fn X.g (X.fn 6 rfl rfl) rfl (bind422 X) (b_cons (s_att X.g 21 rfl (e_loc X.g 20 rfl rfl rfl) (e_loc X.g 4 rfl rfl rfl) (get_app hb) (at_k hk rfl) (Nat.le_of_ble_eq_true rfl))
    (b_cons (s_expr (e_super X.g 22 rfl rfl (e_glob X.g 134 rfl rfl rfl) (e_loc X.g 4 rfl rfl rfl) (List.getElem?_set_self lb) (su_k hk) (a_dict X.g rfl (l_cons (e_loc X.g 7 rfl rfl rfl) (l_cons (e_loc X.g 8 rfl rfl rfl) (l_cons (e_loc X.g 11 rfl rfl rfl) (l_star (e_loc X.g 13 rfl rfl rfl) (get_ne get_end (Nat.ne_of_lt nb)) (show 0 < lim by decide) l_nil)))) (e_loc X.g 14 rfl rfl rfl) (get_ne get_end1 (Nat.ne_of_lt (Nat.lt_succ_of_lt nb))) .nil (Nat.zero_le _)) r))
    b_nil)) (.inr ⟨rfl, rfl⟩)
theorem cls_run (X : Ok q) (hk : k < 18) (ok : okR ⟨0, 0, W, H⟩) (hW : 0 ≤ W) (hH : 0 ≤ H) : ∃ os' L, EvC (cx q) (n + 7) (564 + 19 * k) [.int W, .int H] [(11, .bool t), (20, .bool false)] os (.obj os.length) os' ∧ Bin os' os.length k W H t L (L + 1) [L + 2] [⟨0, 0, W, H⟩] [] [] ∧ (∀ (i : Nat) o, os[i]? = some o → os'[i]? = some o) ∧ os.length < L := by
  obtain ⟨os', L, r, B, K, hL⟩ := guil_run (n := n) (t := t) (os := os ++ [.inst (564 + 19 * k) []]) X hk ok hW hH get_end
  exact ⟨os', L, c_make X.g (in_k hk) r, B, fun i o e => K i o (get_app e) (Nat.ne_of_lt (lt_of e)), by rw [List.length_append] at hL; exact hL⟩
end
end Rw
namespace Rw
open PySem PySem.W PySem.Calls PyProof.Rows
inductive SkL (sc : Scope) : Nat → List Stmt → Prop
  | nil {i} : SkL sc i []
  | cons {i x y p1 kk p2 p3 bd p4 l} : nm02 46 = x → locB sc x = true → nm02 (47 + i) = y → SkL sc (i + 1) l → SkL sc i (.If (.Compare (.Name x p1) [.Eq] [.Constant (.str y) kk p2] p3) bd [] p4 :: l)
theorem b_skips {q : Pm} {n : Nat} {sc : Scope} {σ σ' : Sg} {a : Nat} {fl : Fl} {rest : List Stmt} (G : Gd (cx q)) (h : σ.vs 46 = some (.str (47 + a))) (hr : EvB (cx q) n sc rest σ fl σ') {l : List Stmt} {i : Nat} (hs : SkL sc i l) : ∀ m, i + m ≤ a → EvB (cx q) n sc (l.take m ++ rest) σ fl σ' := by
  induction hs with
  | nil => intro m _; rw [List.take_nil]; exact hr
  | cons h1 h2 h3 _ ih =>
    intro m hm
    cases m with
    | zero => exact hr
    | succ m => exact b_cons (s_ifF (t_cmp (e_loc G 46 h1 h2 h) (e_str h3) c_eqS) (beq_eq_false_iff_ne.mpr (by omega)) b_nil) (ih m (by omega))
theorem sk28 : SkL (scp (st 49)) 0 ((bdy (st 49)).take 28) :=
  .cons rfl rfl rfl (.cons rfl rfl rfl (.cons rfl rfl rfl (.cons rfl rfl rfl (.cons rfl rfl rfl (.cons rfl rfl rfl (.cons rfl rfl rfl (.cons rfl rfl rfl (.cons rfl rfl rfl (.cons rfl rfl rfl (.cons rfl rfl rfl (.cons rfl rfl rfl (.cons rfl rfl rfl (.cons rfl rfl rfl (.cons rfl rfl rfl (.cons rfl rfl rfl (.cons rfl rfl rfl (.cons rfl rfl rfl (.cons rfl rfl rfl (.cons rfl rfl rfl (.cons rfl rfl rfl (.cons rfl rfl rfl (.cons rfl rfl rfl (.cons rfl rfl rfl (.cons rfl rfl rfl (.cons rfl rfl rfl (.cons rfl rfl rfl (.cons rfl rfl rfl .nil)))))))))))))))))))))))))))
section
variable {q : Pm} {os : List O} {n b k si r0 : Nat} {W H : Int} {t : Bool}
noncomputable def vsW (k : Nat) (W H : Int) (L : Nat) : Nat → Option V := varsOf [(46, .str (57 + k)), (7, .int W), (8, .int H), (13, .obj L), (14, .obj (L + 1))]
theorem way_one (X : Ok q) (hk : k < 18) (ok : okR ⟨0, 0, W, H⟩) (hW : 0 ≤ W) (hH : 0 ≤ H) {x y cn wn hn an kn : Str} {kk : Nat} {p1 p2 p3 p4 p5 p6 p7 p8 p9 p10 p11 p12 p13 : Pos} {rest : List Stmt}
    (hd : (bdy (st 49)).drop (10 + k) = .If (.Compare (.Name x p1) [.Eq] [.Constant (.str y) kk p2] p3) [.Return (some (.Call (.Name cn p4) [.Name wn p5, .Name hn p6, .Starred (.Name an p7) p8] [⟨none, .Name kn p9, p10⟩] p11)) p12] [] p13 :: rest)
    (h1 : nm02 46 = x) (h2 : nm02 (57 + k) = y) (h3 : nm02 (57 + k) = cn) (h4 : nm02 7 = wn) (h5 : nm02 8 = hn) (h6 : nm02 13 = an) (h7 : nm02 14 = kn) (l1 : locB (scp (st 49)) x = true) (l2 : (scp (st 49)).names.lookup cn = some .globalImplicit) (l3 : locB (scp (st 49)) wn = true) (l4 : locB (scp (st 49)) hn = true) (l5 : locB (scp (st 49)) an = true) (l6 : locB (scp (st 49)) kn = true)
    (g : gl02.lookup (57 + k) = some (.top (564 + 19 * k))) (cl : (cx q).P.cal (564 + 19 * k) = true) :
    ∃ os' b L, EvC (cx q) (n + 8) 1322 [.str (57 + k), .int W, .int H] [(11, .bool t), (20, .bool false)] os (.obj b) os' ∧ Bin os' b k W H t L (L + 1) [L + 2] [⟨0, 0, W, H⟩] [] [] ∧ (∀ (i : Nat) o, os[i]? = some o → os'[i]? = some o) ∧ os.length ≤ b ∧ os.length ≤ L := by
  obtain ⟨os', L, r, B, K, hL⟩ := cls_run (n := n) (t := t) (os := os ++ [O.tup [], O.dict [11, 20] [.bool t, .bool false]]) X hk ok hW hH
  have hl : os.length ≤ (os ++ [O.tup [], O.dict [11, 20] [.bool t, .bool false]]).length := by rw [List.length_append]; exact Nat.le_add_right _ _
  refine ⟨os', _, L, ?_, B, fun i o e => K i o (get_app e), hl, Nat.le_trans hl (Nat.le_of_lt hL)⟩
  have call := e_call (pos := p11) X.g (e_glob (sc := scp (st 49)) (σ := ⟨vsW k W H os.length, os ++ [O.tup [], O.dict [11, 20] [.bool t, .bool false]]⟩) (pos := p4) X.g (57 + k) h3 l2 g) (a_dict (ep := p10) X.g rfl (l_cons (e_loc (pos := p5) X.g 7 h4 l3 rfl) (l_cons (e_loc (pos := p6) X.g 8 h5 l4 rfl) (l_star (p0 := p8) (e_loc (pos := p7) X.g 13 h6 l5 rfl) get_end (show 0 < lim by decide) l_nil))) (e_loc (pos := p9) X.g 14 h7 l6 rfl) get_end1 (by decide) (show 2 ≤ 100 by decide)) cl (f_top r)
  have tail : EvB (cx q) (n + 7) (scp (st 49)) ((bdy (st 49)).drop (10 + k)) ⟨vsW k W H os.length, os ++ [O.tup [], O.dict [11, 20] [.bool t, .bool false]]⟩ (.ret (.obj (os ++ [O.tup [], O.dict [11, 20] [.bool t, .bool false]]).length)) ⟨vsW k W H os.length, os'⟩ := by
    rw [hd]
    exact b_ret (s_ifT (t_cmp (e_loc X.g 46 h1 l1 rfl) (e_str (k := 57 + k) h2) c_eqS) (beq_self_eq_true _) (b_ret (s_ret call)))
  have sk := b_skips (a := 10 + k) X.g (show vsW k W H os.length 46 = some (.str (47 + (10 + k))) by rw [← Nat.add_assoc]; rfl) tail sk28 (10 + k) (Nat.le_of_eq (Nat.zero_add _))
  rw [List.take_take, Nat.min_eq_left (by omega), List.take_append_drop] at sk
  exact c_fn X.g (X.fn 35 rfl rfl) rfl bind1322 sk (.inl rfl)
theorem way_run (X : Ok q) (hk : k < 18) (ok : okR ⟨0, 0, W, H⟩) (hW : 0 ≤ W) (hH : 0 ≤ H) :
    ∃ os' b L, EvC (cx q) (n + 8) 1322 [.str (57 + k), .int W, .int H] [(11, .bool t), (20, .bool false)] os (.obj b) os' ∧ Bin os' b k W H t L (L + 1) [L + 2] [⟨0, 0, W, H⟩] [] [] ∧ (∀ (i : Nat) o, os[i]? = some o → os'[i]? = some o) ∧ os.length ≤ b ∧ os.length ≤ L :=
  lt18 (P := fun k => ∃ os' b L, EvC (cx q) (n + 8) 1322 [.str (57 + k), .int W, .int H] [(11, .bool t), (20, .bool false)] os (.obj b) os' ∧ Bin os' b k W H t L (L + 1) [L + 2] [⟨0, 0, W, H⟩] [] [] ∧ (∀ (i : Nat) o, os[i]? = some o → os'[i]? = some o) ∧ os.length ≤ b ∧ os.length ≤ L)
    (way_one X (by decide) ok hW hH rfl rfl rfl rfl rfl rfl rfl rfl rfl rfl rfl rfl rfl rfl rfl rfl) (way_one X (by decide) ok hW hH rfl rfl rfl rfl rfl rfl rfl rfl rfl rfl rfl rfl rfl rfl rfl rfl) (way_one X (by decide) ok hW hH rfl rfl rfl rfl rfl rfl rfl rfl rfl rfl rfl rfl rfl rfl rfl rfl) (way_one X (by decide) ok hW hH rfl rfl rfl rfl rfl rfl rfl rfl rfl rfl rfl rfl rfl rfl rfl rfl) (way_one X (by decide) ok hW hH rfl rfl rfl rfl rfl rfl rfl rfl rfl rfl rfl rfl rfl rfl rfl rfl) (way_one X (by decide) ok hW hH rfl rfl rfl rfl rfl rfl rfl rfl rfl rfl rfl rfl rfl rfl rfl rfl) (way_one X (by decide) ok hW hH rfl rfl rfl rfl rfl rfl rfl rfl rfl rfl rfl rfl rfl rfl rfl rfl) (way_one X (by decide) ok hW hH rfl rfl rfl rfl rfl rfl rfl rfl rfl rfl rfl rfl rfl rfl rfl rfl) (way_one X (by decide) ok hW hH rfl rfl rfl rfl rfl rfl rfl rfl rfl rfl rfl rfl rfl rfl rfl rfl) (way_one X (by decide) ok hW hH rfl rfl rfl rfl rfl rfl rfl rfl rfl rfl rfl rfl rfl rfl rfl rfl) (way_one X (by decide) ok hW hH rfl rfl rfl rfl rfl rfl rfl rfl rfl rfl rfl rfl rfl rfl rfl rfl) (way_one X (by decide) ok hW hH rfl rfl rfl rfl rfl rfl rfl rfl rfl rfl rfl rfl rfl rfl rfl rfl) (way_one X (by decide) ok hW hH rfl rfl rfl rfl rfl rfl rfl rfl rfl rfl rfl rfl rfl rfl rfl rfl) (way_one X (by decide) ok hW hH rfl rfl rfl rfl rfl rfl rfl rfl rfl rfl rfl rfl rfl rfl rfl rfl) (way_one X (by decide) ok hW hH rfl rfl rfl rfl rfl rfl rfl rfl rfl rfl rfl rfl rfl rfl rfl rfl) (way_one X (by decide) ok hW hH rfl rfl rfl rfl rfl rfl rfl rfl rfl rfl rfl rfl rfl rfl rfl rfl) (way_one X (by decide) ok hW hH rfl rfl rfl rfl rfl rfl rfl rfl rfl rfl rfl rfl rfl rfl rfl rfl) (way_one X (by decide) ok hW hH rfl rfl rfl rfl rfl rfl rfl rfl rfl rfl rfl rfl rfl rfl rfl rfl) hk
end
end Rw
namespace Rw
open PySem PySem.W PySem.Calls PyProof.Rows
noncomputable def waysL : List V := [.str 63, .str 64, .str 65, .str 66, .str 67, .str 68, .str 69, .str 70, .str 71, .str 72, .str 73, .str 74]
theorem ways_at {k : Nat} (hk : k < 12) : waysL[k]? = some (.str (57 + (6 + k))) := by
  have e : waysL = (List.range 12).map fun k => .str (57 + (6 + k)) := rfl
  rw [e, List.getElem?_map, List.getElem?_range hk]; rfl
theorem nmS {q : Pm} {k : Nat} {x : String} (h : N02[k]? = some x) : (cx q).nm k = Str.ofString x := by show nm02 k = _; unfold nm02; rw [h]
inductive StrL (c : Cx) : List Expr → List V → Prop
  | nil : StrL c [] []
  | cons {x : Str} {kk p k es us} : c.nm k = x → StrL c es us → StrL c (.Constant (.str x) kk p :: es) (.str k :: us)
theorem e_strs {c : Cx} {n : Nat} {sc : Scope} {σ : Sg} {es : List Expr} {us : List V} (h : StrL c es us) : EvL c n sc es σ us σ := by
  induction h with
  | nil => exact l_nil
  | cons a _ ih => exact l_cons (e_str a) ih
theorem strs_fn {c : Cx} {n f : Nat} {os : List O} {fd : FuncData} {es : List Expr} {us : List V} {p1 p2 : Pos} (G : Gd c) (F : FnAt c f [] [.Return (some (.List es p1)) p2] fd) (hb : BindJ c fd [] [] os [] os) (h : StrL c es us) (hl : us.length < lim) : EvC c (n + 1) f [] [] os (.obj os.length) (os ++ [.list us]) :=
  c_fn G F rfl hb (b_ret (s_ret (e_list (e_strs h) hl))) (.inl rfl)
noncomputable def facO (W H : Int) (c : Int) (k L : Nat) : O := .inst 1388 [(77, .int W), (78, .int H), (79, .int c), (80, .str (57 + k)), (81, .obj (L + 2)), (82, .obj (L + 1)), (83, .none), (84, .none)]
section
variable {q : Pm} {os : List O} {n b k si r0 : Nat} {W H : Int} {t : Bool}
theorem fac_run (X : Ok q) (ht : os = os) : EvC (cx q) (n + 2) 1388 [.int W, .int H, .int 1, .str (57 + k)] [(11, .bool t), (20, .bool false)] os (.obj os.length) (os ++ [facO W H 1 k os.length, .tup [], .dict [11, 20] [.bool t, .bool false]]) := by
  have lb : os.length < (os ++ [O.inst 1388 []] ++ [O.tup [], O.dict [11, 20] [.bool t, .bool false]]).length := lt_of (get_app get_end)
  have L1 : (os ++ [O.inst 1388 []]).length = os.length + 1 := by rw [List.length_append]; rfl
  have e1 : ∀ o : O, (os ++ [O.inst 1388 []] ++ [O.tup [], O.dict [11, 20] [.bool t, .bool false]]).set os.length o = os ++ [o, .tup [], .dict [11, 20] [.bool t, .bool false]] := fun o => by rw [List.append_assoc]; exact set_end
  have gd : ∀ o : O, ((os ++ [O.inst 1388 []] ++ [O.tup [], O.dict [11, 20] [.bool t, .bool false]]).set os.length o)[(os ++ [O.inst 1388 []]).length + 1]? = some (.dict [11, 20] [.bool t, .bool false]) := fun o => by rw [e1, L1]; exact (by rw [List.getElem?_append_right (Nat.le_add_right _ 2), Nat.add_sub_cancel_left]; rfl)
  refine c_make X.g rfl (EvC.to (os' := (os ++ [O.inst 1388 []] ++ [O.tup [], O.dict [11, 20] [.bool t, .bool false]]).set os.length (.inst 1388 [(77, .int W), (78, .int H), (79, .int 1), (80, .str (57 + k)), (81, .obj ((os ++ [O.inst 1388 []]).length + 1)), (82, .obj (os ++ [O.inst 1388 []]).length), (83, .none), (84, .none)])) ?_ (by rw [e1, L1]; rfl))
  exact c_fn X.g (X.fn 36 rfl rfl) rfl bind1336 (b_cons (s_att X.g 77 rfl (e_loc X.g 7 rfl rfl rfl) (e_loc X.g 4 rfl rfl rfl) (get_app get_end) rfl (Nat.le_of_ble_eq_true rfl))
    (b_cons (s_attI X.g 78 rfl lb (e_loc X.g 8 rfl rfl rfl) (e_loc X.g 4 rfl rfl rfl) rfl rfl)
    (b_cons (s_attI X.g 79 rfl lb (e_loc X.g 76 rfl rfl rfl) (e_loc X.g 4 rfl rfl rfl) rfl rfl)
    (b_cons (s_attI X.g 80 rfl lb (e_loc X.g 46 rfl rfl rfl) (e_loc X.g 4 rfl rfl rfl) rfl rfl)
    (b_cons (s_attI X.g 81 rfl lb (e_loc X.g 14 rfl rfl rfl) (e_loc X.g 4 rfl rfl rfl) rfl rfl)
    (b_cons (s_attI X.g 82 rfl lb (e_loc X.g 13 rfl rfl rfl) (e_loc X.g 4 rfl rfl rfl) rfl rfl)
    (b_cons (s_attI X.g 83 rfl lb e_none (e_loc X.g 4 rfl rfl rfl) rfl rfl)
    (b_cons (s_attI X.g 84 rfl lb (e_get X.g (e_loc X.g 14 rfl rfl rfl) (gd _) (a_pos rfl (l_cons (e_str (k := 12) rfl) (l_cons e_none l_nil))) (gd _) rfl rfl) (e_loc X.g 4 rfl rfl rfl) rfl rfl)
    b_nil)))))))) (.inr ⟨rfl, rfl⟩)
theorem create_run (X : Ok q) (hk : k < 18) (ok : okR ⟨0, 0, W, H⟩) (hW : 0 ≤ W) (hH : 0 ≤ H) {z : Int} {L0 : Nat} (hb : os[b]? = some (facO W H z k L0)) (h1 : os[L0 + 1]? = some (.tup [])) (h2 : os[L0 + 2]? = some (.dict [11, 20] [.bool t, .bool false])) :
    ∃ os' b' L, EvC (cx q) (n + 9) 1343 [.obj b] [] os (.obj b') os' ∧ Bin os' b' k W H t L (L + 1) [L + 2] [⟨0, 0, W, H⟩] [] [] ∧ (∀ (i : Nat) o, os[i]? = some o → os'[i]? = some o) ∧ os.length ≤ b' ∧ os.length ≤ L := by
  obtain ⟨os', b', L, r, B, K, h3, h4⟩ := way_run (n := n) (t := t) (os := os) X hk ok hW hH
  refine ⟨os', b', L, ?_, B, K, h3, h4⟩
  exact c_fn X.g (X.fn 37 rfl rfl) rfl (bind1 fun _ => rfl) (b_ret (s_ret (e_call X.g (e_glob X.g 136 rfl rfl rfl) (a_dict X.g rfl (l_cons (e_att X.g 80 (e_loc X.g 4 rfl rfl rfl) rfl hb rfl rfl) (l_cons (e_att X.g 77 (e_loc X.g 4 rfl rfl rfl) rfl hb rfl rfl) (l_cons (e_att X.g 78 (e_loc X.g 4 rfl rfl rfl) rfl hb rfl rfl) (l_star (e_att X.g 82 (e_loc X.g 4 rfl rfl rfl) rfl hb rfl rfl) h1 (show 0 < lim by decide) l_nil)))) (e_att X.g 81 (e_loc X.g 4 rfl rfl rfl) rfl hb rfl rfl) h2 (show [11, 20].Nodup by decide) (show 2 ≤ 100 by decide)) rfl (f_top r)))) (.inl rfl)
theorem newbin_run (X : Ok q) (hk : k < 18) (ok : okR ⟨0, 0, W, H⟩) (hW : 0 ≤ W) (hH : 0 ≤ H) {L0 : Nat} (hb : os[b]? = some (facO W H 1 k L0)) (h1 : os[L0 + 1]? = some (.tup [])) (h2 : os[L0 + 2]? = some (.dict [11, 20] [.bool t, .bool false])) (n1 : b ≠ L0 + 1) (n2 : b ≠ L0 + 2) :
    ∃ os' b' L, EvC (cx q) (n + 10) 1371 [.obj b] [] os (.obj b') os' ∧ Bin os' b' k W H t L (L + 1) [L + 2] [⟨0, 0, W, H⟩] [] [] ∧ Kp os os' b ∧ os.length ≤ b' ∧ os.length ≤ L := by
  have hb2 : (os.set b (facO W H (1 - 1) k L0))[b]? = some (facO W H (1 - 1) k L0) := get_set hb
  obtain ⟨os', b', L, r, B, K, h3, h4⟩ := create_run (n := n) (t := t) X hk ok hW hH hb2 (get_ne h1 n1) (get_ne h2 n2)
  rw [List.length_set] at h3 h4
  refine ⟨os', b', L, ?_, B, fun i o e hi => K i o (get_ne e (Ne.symm hi)), h3, h4⟩
  exact c_fn X.g (X.fn 38 rfl rfl) rfl (bind1 fun _ => rfl) (b_ret (s_ifT (t_cmp (e_att X.g 79 (e_loc X.g 4 rfl rfl rfl) rfl hb rfl rfl) e_int c_gt) rfl (b_cons (s_attSub X.g 79 rfl (e_loc X.g 4 rfl rfl rfl) hb rfl rfl e_int hb (show 8 ≤ 100 by decide))
    (b_ret (s_ret (e_meth X.g 85 (e_loc X.g 4 rfl rfl rfl) rfl hb2 rfl rfl rfl (a_pos rfl l_nil) r rfl)))))) (.inl rfl)
theorem ways_run (X : Ok q) : EvC (cx q) (n + 1) 1399 [] [] os (.obj os.length) (os ++ [.list waysL]) := by
  refine strs_fn X.g (X.fn 39 rfl rfl) (bind0 rfl) ?_ (show 12 < lim by decide)
  refine .cons (k := 63) (nmS rfl) ?_
  refine .cons (k := 64) (nmS rfl) ?_
  refine .cons (k := 65) (nmS rfl) ?_
  refine .cons (k := 66) (nmS rfl) ?_
  refine .cons (k := 67) (nmS rfl) ?_
  refine .cons (k := 68) (nmS rfl) ?_
  refine .cons (k := 69) (nmS rfl) ?_
  refine .cons (k := 70) (nmS rfl) ?_
  refine .cons (k := 71) (nmS rfl) ?_
  refine .cons (k := 72) (nmS rfl) ?_
  refine .cons (k := 73) (nmS rfl) ?_
  refine .cons (k := 74) (nmS rfl) ?_
  exact .nil
end
end Rw
namespace Rw
open PySem PySem.W PySem.Calls PyProof.Rows
noncomputable def sideL (number most : Int) : Int := 1 + Int.fdiv (Int.fmod (Int.fdiv (number.natAbs : Int) 3) (most + 1)) (1 + Int.fmod (number.natAbs : Int) 3)
noncomputable def withinB (g p : R) : Bool := decide (g.x ≥ p.x) && (decide (g.y ≥ p.y) && (decide (g.x + g.w ≤ p.x + p.w) && decide (g.y + g.h ≤ p.y + p.h)))
noncomputable def partL (p : R) : List V := [.int p.x, .int p.y, .int p.w, .int p.h]
section
variable {q : Pm} {os : List O} {n i j k : Nat} {o : Int} {g p : R} {r : V}
theorem at_run (X : Ok q) (hl : q.is.length < lim) : EvC (cx q) (n + 1) 1406 [.scr, .int (k : Nat), .int o] [] os (.int ((q.is[k]?).getD o)) os := by
  by_cases hk : k < q.is.length
  · have e : q.is[k]? = some q.is[k] := List.getElem?_eq_getElem hk
    rw [e]
    exact c_fn X.g (X.fn 40 rfl rfl) rfl (bind3 fun _ _ _ => rfl) (b_ret (s_ret (e_if (t_of (t_cmp (e_call X.g (e_glob X.g 126 rfl rfl rfl) (a_pos rfl (l_cons (e_loc X.g 86 rfl rfl rfl) l_nil)) rfl (f_lenS X.g hl)) (e_loc X.g 87 rfl rfl rfl) c_gt) (decide_eq_true (Int.ofNat_lt.mpr hk))) (e_itemS X.g (e_loc X.g 86 rfl rfl rfl) (e_loc X.g 87 rfl rfl rfl) hl e)))) (.inl rfl)
  · have e : q.is[k]? = none := List.getElem?_eq_none (Nat.not_lt.mp hk)
    rw [e]
    exact c_fn X.g (X.fn 40 rfl rfl) rfl (bind3 fun _ _ _ => rfl) (b_ret (s_ret (e_if (t_of (t_cmp (e_call X.g (e_glob X.g 126 rfl rfl rfl) (a_pos rfl (l_cons (e_loc X.g 86 rfl rfl rfl) l_nil)) rfl (f_lenS X.g hl)) (e_loc X.g 87 rfl rfl rfl) c_gt) (decide_eq_false fun h => hk (Int.ofNat_lt.mp h))) (e_loc X.g 10 rfl rfl rfl)))) (.inl rfl)
theorem side_run (X : Ok q) {number most : Int} (hm : 0 ≤ most) : EvC (cx q) (n + 1) 1413 [.int number, .int most] [] os (.int (sideL number most)) os := by
  have h3 : 0 ≤ Int.fmod (number.natAbs : Int) 3 := Int.fmod_nonneg_of_pos _ (by decide)
  have h4 : Int.fmod (number.natAbs : Int) 3 < 3 := Int.fmod_lt_of_pos _ (by decide)
  exact c_fn X.g (X.fn 41 rfl rfl) rfl (bind2 fun _ _ => rfl) (b_cons (s_asg 90 rfl rfl (e_call X.g (e_glob X.g 129 rfl rfl rfl) (a_pos rfl (l_cons (e_loc X.g 88 rfl rfl rfl) l_nil)) rfl f_abs))
    (b_ret (s_ret (e_add e_int (e_bin (e_bin (e_bin (e_loc X.g 90 rfl rfl rfl) e_int (b_div (.inr (.inr rfl)))) (e_add (e_loc X.g 89 rfl rfl rfl) e_int) (b_mod (by omega))) (e_add e_int (e_bin (e_loc X.g 90 rfl rfl rfl) e_int (b_mod (by decide)))) (b_div (by omega))))))) (.inl rfl)
theorem within_run (X : Ok q) (hi : os[i]? = some (.tup (partL g))) (hj : os[j]? = some (.tup (partL p))) : EvC (cx q) (n + 1) 1425 [.obj i, .obj j] [] os (.bool (withinB g p)) os :=
  c_fn X.g (X.fn 44 rfl rfl) rfl (bind2 fun _ _ => rfl) (b_ret (s_ret (e_andB (e_cmp (e_itemT (e_loc X.g 38 rfl rfl rfl) (e_int (i := (0 : Nat))) hi (show 4 < lim by decide) rfl) (e_itemT (e_loc X.g 103 rfl rfl rfl) (e_int (i := (0 : Nat))) hj (show 4 < lim by decide) rfl) c_ge) (e_andB (e_cmp (e_itemT (e_loc X.g 38 rfl rfl rfl) (e_int (i := (1 : Nat))) hi (show 4 < lim by decide) rfl) (e_itemT (e_loc X.g 103 rfl rfl rfl) (e_int (i := (1 : Nat))) hj (show 4 < lim by decide) rfl) c_ge) (e_andB (e_cmp (e_add (e_itemT (e_loc X.g 38 rfl rfl rfl) (e_int (i := (0 : Nat))) hi (show 4 < lim by decide) rfl) (e_itemT (e_loc X.g 38 rfl rfl rfl) (e_int (i := (2 : Nat))) hi (show 4 < lim by decide) rfl)) (e_add (e_itemT (e_loc X.g 103 rfl rfl rfl) (e_int (i := (0 : Nat))) hj (show 4 < lim by decide) rfl) (e_itemT (e_loc X.g 103 rfl rfl rfl) (e_int (i := (2 : Nat))) hj (show 4 < lim by decide) rfl)) c_le) (e_one (e_cmp (e_add (e_itemT (e_loc X.g 38 rfl rfl rfl) (e_int (i := (1 : Nat))) hi (show 4 < lim by decide) rfl) (e_itemT (e_loc X.g 38 rfl rfl rfl) (e_int (i := (3 : Nat))) hi (show 4 < lim by decide) rfl)) (e_add (e_itemT (e_loc X.g 103 rfl rfl rfl) (e_int (i := (1 : Nat))) hj (show 4 < lim by decide) rfl) (e_itemT (e_loc X.g 103 rfl rfl rfl) (e_int (i := (3 : Nat))) hj (show 4 < lim by decide) rfl)) c_le))))))) (.inl rfl)
theorem used_run (X : Ok q) {b k ri se : Nat} {W H : Int} {t : Bool} {ss : List Nat} {secs : List R} {rs : List Nat} {rects : List (R × V)} (B : Bin os b k W H t ri se ss secs rs rects) (hs : ∀ p ∈ rects, small p.1.w ∧ small p.1.h) : EvC (cx q) (n + 3) 354 [.obj b] [] os (.int (rects.map fun p => p.1.w * p.1.h).sum) os := by
  obtain ⟨si, hb⟩ := B.hb
  refine c_fn X.g (X.fn 42 rfl rfl) rfl (bind1 fun _ => rfl) (b_ret (s_retSum (fld := 15) (f := 333) (fd := fdI) (rn := Str.ofString "r") (kk := 4) (vals := rects.map fun p => p.1.w * p.1.h) X.g ⟨X.itr.1, X.itr.2.2.2 k B.hk, X.itr.2.1, (at_k B.hk rfl), rfl, rfl, rfl, rfl, rfl, rfl, rfl, rfl, X.itr.2.2.1, rfl, rfl, rfl, rfl⟩ (bind1 fun _ => rfl) (inSc_of rfl) rfl rfl (fun _ => rfl) rfl X.sm (e_loc X.g 4 rfl rfl rfl) hb rfl B.hl ?_ ?_)) (.inl rfl)
  · have := All2.len B.lrec
    rw [List.length_map, List.length_map]; exact this.symm
  · intro j v hj
    obtain ⟨i, hi, rfl⟩ := Option.map_eq_some_iff.mp (by rw [← List.getElem?_map]; exact hj)
    have hl := All2.len B.lrec
    obtain ⟨p, hp⟩ : ∃ p, rects[j]? = some p := ⟨_, List.getElem?_eq_getElem (hl ▸ (List.getElem?_eq_some_iff.mp hi).1)⟩
    obtain ⟨i', hi', hr⟩ := All2.get B.lrec hp
    rw [hi] at hi'; cases hi'
    have hsp := hs p (List.mem_of_getElem? hp)
    refine ⟨_, p.1.w * p.1.h, _, .name 18 rfl rfl, e_meth X.g 43 (e_loc X.g 18 rfl rfl rfl) rfl hr rfl rfl rfl (a_pos rfl l_nil) (area_run X hr hsp.1 hsp.2) rfl, ?_⟩
    rw [List.getElem?_map, hp]; rfl
end
theorem Kp.refl {os : List O} {i : Nat} : Kp os os i := fun _ _ e _ => e
theorem Kp.trans {os os' os'' : List O} {i : Nat} (a : Kp os os' i) (b : Kp os' os'' i) : Kp os os'' i := fun j o e h => b j o (a j o e h) h
section
variable {c : Cx} {n : Nat} {sc : Scope} {tg elt : Expr} {ifs : List Expr} {S : Sc} {i : Nat} {vs0 : Nat → Option V} {os0 : List O} {l : List V} {β : Type}
theorem comp_all (f : Nat → Option β) (P : List O → V → β → Prop) (hm : ∀ os os' u b, Kp os0 os i → Kp os os' i → P os u b → P os' u b) (hsrc : ∀ os, Kp os0 os i → Src os S l)
    (hno : ∀ (j : Nat) v acc os, l[j]? = some v → Kp os0 os i → os[i]? = some (.list acc) → f j = none → ∃ σ1 σ2, BindT c sc tg v ⟨vs0, os⟩ σ1 ∧ Tests c n sc ifs σ1 false σ2 ∧ Sub vs0 σ2.vs ∧ Kp os σ2.os i ∧ σ2.os[i]? = some (.list acc))
    (hyes : ∀ (j : Nat) v acc os b, l[j]? = some v → Kp os0 os i → os[i]? = some (.list acc) → f j = some b → ∃ σ1 σ2 σ3 u, BindT c sc tg v ⟨vs0, os⟩ σ1 ∧ Tests c n sc ifs σ1 true σ2 ∧ EvE c n sc elt σ2 u σ3 ∧ Sub vs0 σ3.vs ∧ Kp os σ3.os i ∧ σ3.os[i]? = some (.list acc) ∧ P σ3.os u b) :
    ∀ (m j : Nat) (acc : List V) (os : List O), j + m = l.length → Kp os0 os i → os[i]? = some (.list acc) → acc.length + m < lim → ∃ os' us, CompGo c n sc tg ifs elt S i vs0 m j os os' ∧ Kp os os' i ∧ os'[i]? = some (.list (acc ++ us)) ∧ All2 (P os') us ((List.range' j m).filterMap f) := by
  intro m
  induction m with
  | zero => exact fun j acc os hj k hi _ => ⟨os, [], .done (hsrc os k) (Nat.le_of_eq hj.symm), .refl, by rw [List.append_nil]; exact hi, .nil⟩
  | succ m ih =>
    intro j acc os hj k hi hl
    obtain ⟨v, hv⟩ : ∃ v, l[j]? = some v := ⟨_, List.getElem?_eq_getElem (by omega)⟩
    rw [List.range'_succ, List.filterMap_cons]
    cases hf : f j with
    | none =>
      obtain ⟨σ1, σ2, h1, h2, h3, h4, h5⟩ := hno j v acc os hv k hi hf
      obtain ⟨os', us, g, k', e, a⟩ := ih (j + 1) acc σ2.os (by omega) (k.trans h4) h5 (Nat.lt_of_succ_lt hl)
      exact ⟨os', us, .skip (hsrc os k) hv h1 h2 h3 g, h4.trans k', e, a⟩
    | some b =>
      obtain ⟨σ1, σ2, σ3, u, h1, h2, h3, h4, h5, h6, h7⟩ := hyes j v acc os b hv k hi hf
      have k1 : Kp σ3.os (σ3.os.set i (.list (acc ++ [u]))) i := fun t o e ht => get_ne e (Ne.symm ht)
      obtain ⟨os', us, g, k', e, a⟩ := ih (j + 1) (acc ++ [u]) (σ3.os.set i (.list (acc ++ [u]))) (by omega) ((k.trans h5).trans k1) (get_set h6) (by rw [List.length_append]; show acc.length + 1 + m < lim; omega)
      exact ⟨os', u :: us, .take (hsrc os k) hv h1 h2 h3 h4 h6 (by omega) g, (h5.trans k1).trans k', by rw [e, List.append_assoc]; rfl, .cons (hm _ _ _ _ (k.trans h5) (k1.trans k') h7) a⟩
end
theorem fm_congr {α β : Type} {f g : α → Option β} : ∀ {l : List α}, (∀ x ∈ l, f x = g x) → l.filterMap f = l.filterMap g
  | [], _ => rfl
  | a :: l, h => by rw [List.filterMap_cons, List.filterMap_cons, h a (.head _), fm_congr fun x hx => h x (.tail _ hx)]
theorem rng_fm' {α β : Type} (g : α → Option β) : ∀ (l : List α) (k : Nat), (List.range' k l.length).filterMap (fun j => (l[j - k]?).bind g) = l.filterMap g
  | [], _ => rfl
  | a :: l, k => by
    have e : (List.range' (k + 1) l.length).filterMap (fun j => ((a :: l)[j - k]?).bind g) = (List.range' (k + 1) l.length).filterMap (fun j => (l[j - (k + 1)]?).bind g) := fm_congr fun j hj => by
      have := List.mem_range'_1.mp hj
      rw [show j - k = j - (k + 1) + 1 by omega]; rfl
    rw [List.length_cons, List.range'_succ, List.filterMap_cons, Nat.sub_self, List.filterMap_cons, e, rng_fm' g l (k + 1)]; rfl
theorem rng_fm {α β : Type} (g : α → Option β) (l : List α) : (List.range' 0 l.length).filterMap (fun j => (l[j]?).bind g) = l.filterMap g := rng_fm' g l 0
theorem fm_if {α β : Type} {f : α → β} {c : α → Bool} : ∀ {l : List α}, l.filterMap (fun p => if c p = true then some (f p) else none) = (l.filter c).map f
  | [] => rfl
  | a :: l => by
    rw [List.filterMap_cons, List.filter_cons, fm_if]
    cases c a <;> rfl
end Rw
namespace Rw
open PySem PySem.W PySem.Calls PyProof.Rows
noncomputable def Ext (os os' : List O) : Prop := ∀ (i : Nat) o, os[i]? = some o → os'[i]? = some o
theorem Ext.refl {os : List O} : Ext os os := fun _ _ e => e
theorem Ext.trans {os os' os'' : List O} (a : Ext os os') (b : Ext os' os'') : Ext os os'' := fun i o e => b i o (a i o e)
theorem Ext.app {os l : List O} : Ext os (os ++ l) := fun _ _ e => get_app e
theorem Ext.len {os os' : List O} (e : Ext os os') : os.length ≤ os'.length := by
  rcases Nat.eq_zero_or_pos os.length with h | h
  · rw [h]; exact Nat.zero_le _
  · have := lt_of (e (os.length - 1) _ (List.getElem?_eq_getElem (by omega)))
    omega
theorem Kp.ext {os os' l : List O} {o : O} (k : Kp (os ++ o :: l) os' os.length) : Ext os os' := fun i _ e => k i _ (get_app e) (Nat.ne_of_lt (lt_of e))
noncomputable def Pt (os : List O) (v : V) (p : R) : Prop := ∃ t, v = .obj t ∧ os[t]? = some (.tup (partL p))
theorem Pt.ext {os os' : List O} (e : Ext os os') {v : V} {p : R} (h : Pt os v p) : Pt os' v p := let ⟨t, h1, h2⟩ := h; ⟨t, h1, e _ _ h2⟩
theorem tests_one {c : Cx} {n : Nat} {sc : Scope} {e : Expr} {σ σ' : Sg} {b : Bool} (h : EvT c n sc e σ b σ') : Tests c n sc [e] σ b σ' := by
  cases b
  · exact .no h
  · exact .yes h .nil
theorem pt_comp {c : Cx} {os : List O} {n si kn : Nat} {sc : Scope} {ifs : List Expr} {pn : Str} {z0 z4 : Pos} {vs0 : Nat → Option V} {us : List V} {l : List R} {cond : R → Bool} (G : Gd c) (hs : os[si]? = some (.list us)) (hu : All2 (Pt os) us l) (hl : l.length < lim) (g1 : c.nm kn = pn) (t1 : bndB sc pn = true) (t2 : locB sc pn = true) (hv : vs0 kn = none)
    (ht : ∀ os' t r, Ext os os' → os'[t]? = some (.tup (partL r)) → Tests c n sc ifs ⟨upd vs0 kn (.obj t), os'⟩ (cond r) ⟨upd vs0 kn (.obj t), os'⟩) :
    ∃ os' us', CompGo c n sc (.Name pn z4) ifs (.Name pn z0) (.live si) os.length vs0 us.length 0 (os ++ [.list []]) os' ∧ os'[os.length]? = some (.list us') ∧ All2 (Pt os') us' (l.filter cond) ∧ Ext os os' := by
  have hx := fun {os'} (K : Kp (os ++ [O.list []]) os' os.length) => Kp.ext K
  have hsub : ∀ u : V, Sub vs0 (upd vs0 kn u) := fun u => sub_upd hv
  obtain ⟨os', us', go, K, hl', ha⟩ := comp_all (c := c) (n := n) (sc := sc) (tg := .Name pn z4) (elt := .Name pn z0) (ifs := ifs) (S := .live si) (i := os.length) (vs0 := vs0) (os0 := os ++ [.list []]) (l := us)
    (fun j => (l[j]?).bind fun x => if cond x = true then some x else none) (fun os' u x => ∃ t, u = .obj t ∧ os'[t]? = some (.tup (partL x)) ∧ t ≠ os.length) (fun os1 os2 u x k1 k2 ⟨t, h1, h2, h3⟩ => ⟨t, h1, k2 _ _ h2 h3, h3⟩) (fun os' K => hx K _ _ hs)
    (fun j v acc os' hv' K he hf => by
      obtain ⟨x, hp⟩ : ∃ x, l[j]? = some x := ⟨_, List.getElem?_eq_getElem (hu.len ▸ (List.getElem?_eq_some_iff.mp hv').1)⟩
      obtain ⟨v', hv2, t, rfl, h⟩ := hu.get hp
      rw [hv'] at hv2; cases hv2
      rw [hp] at hf
      have hc : cond x = false := by
        cases h : cond x with
        | false => rfl
        | true => rw [Option.bind_some, if_pos h] at hf; cases hf
      exact ⟨_, _, .name kn g1 t1, hc ▸ ht _ _ _ (hx K) (hx K _ _ h), hsub _, .refl, he⟩)
    (fun j v acc os' b hv' K he hf => by
      obtain ⟨x, hp, hf⟩ := Option.bind_eq_some_iff.mp hf
      obtain ⟨v', hv2, t, rfl, h⟩ := hu.get hp
      rw [hv'] at hv2; cases hv2
      have hc : cond x = true := by
        cases h : cond x with
        | true => rfl
        | false => rw [if_neg (by rw [h]; exact Bool.false_ne_true)] at hf; cases hf
      rw [if_pos hc] at hf
      cases hf
      exact ⟨_, _, _, _, .name kn g1 t1, hc ▸ ht _ _ _ (hx K) (hx K _ _ h), e_loc G kn g1 t2 (if_pos rfl), hsub _, .refl, he, t, rfl, hx K _ _ h, Nat.ne_of_lt (lt_of h)⟩)
    us.length 0 [] (os ++ [.list []]) (Nat.zero_add _) .refl get_end (by rw [hu.len, List.length_nil, Nat.zero_add]; exact hl)
  have e : l.filterMap (fun x => if cond x = true then some x else none) = l.filter cond := (fm_if (f := id) (c := cond)).trans (List.map_id _)
  rw [hu.len, rng_fm (l := l), e] at ha
  exact ⟨os', us', go, by rw [List.nil_append] at hl'; exact hl', ha.mono fun _ _ ⟨t, h1, h2, _⟩ => ⟨t, h1, h2⟩, hx K⟩
noncomputable def cutP (o : R) (a b : Int) : List R := [⟨o.x, o.y + b, o.w, o.h - b⟩, ⟨o.x + a, o.y, o.w - a, b⟩]
noncomputable def cutU (o : R) (a b : Int) : List R := [⟨o.x, o.y + b, a, o.h - b⟩, ⟨o.x + a, o.y, o.w - a, o.h⟩]
noncomputable def minA (l : List R) : Int := match l with
  | [p, q] => min (p.w * p.h) (q.w * q.h)
  | _ => 0
noncomputable def horC (j : Nat) (o : R) (a b : Int) : Bool := match j with
  | 0 => decide (o.w < o.h)
  | 1 => decide (o.w ≥ o.h)
  | 2 => decide (o.w - a < o.h - b)
  | 3 => decide (o.w - a ≥ o.h - b)
  | 4 => decide (minA (cutP o a b) ≥ minA (cutU o a b))
  | _ => decide (minA (cutP o a b) ≤ minA (cutU o a b))
noncomputable def cutL (j : Nat) (o : R) (a b : Int) : List R := (bif horC j o a b then cutP o a b else cutU o a b).filter fun p => decide (p.w > 0) && decide (p.h > 0)
section
variable {q : Pm} {os : List O} {n i j k : Nat} {p1 p2 : R} {vs vs0 : Nat → Option V} {sc csc : Scope}
theorem pair_run {c : Cx} {es1 es2 : List Expr} {c1 c2 : Nat} {z1 z2 z3 : Pos} (h1 : ∀ os, EvL c n sc es1 ⟨vs, os⟩ (partL p1) ⟨vs, os⟩) (h2 : ∀ os, EvL c n sc es2 ⟨vs, os⟩ (partL p2) ⟨vs, os⟩) :
    ∃ i os' us, EvE c n sc (.List [.Tuple es1 c1 z1, .Tuple es2 c2 z2] z3) ⟨vs, os⟩ (.obj i) ⟨vs, os'⟩ ∧ os'[i]? = some (.list us) ∧ All2 (Pt os') us [p1, p2] ∧ Ext os os' :=
  ⟨_, _, _, e_list (l_cons (e_tup (h1 _) (show 4 < lim by decide)) (l_cons (e_tup (h2 _) (show 4 < lim by decide)) l_nil)) (show 2 < lim by decide), get_end, .cons ⟨_, rfl, get_app (get_app get_end)⟩ (.cons ⟨_, rfl, get_app get_end⟩ .nil), (Ext.app.trans Ext.app).trans Ext.app⟩
theorem ints_of {us : List V} {ns : List Int} (h : All2 (fun u (b : Int) => u = .int b) us ns) : us = ns.map .int := by
  induction h with
  | nil => rfl
  | cons a _ ih => rw [a, ih]; rfl
theorem min_run (X : Ok q) {us : List V} {s : Nat} (hi : os[i]? = some (.list us)) (hu : All2 (Pt os) us [p1, p2]) (b1 : small p1.w ∧ small p1.h) (b2 : small p2.w ∧ small p2.h) {mn ln1 ln2 cn dn sn : Str} {ct : Nat} {z0 z1 z2 z3 z4 z5 z6 z7 z8 z9 z10 z11 : Pos}
    (hv : vs s = some (.obj i)) (g1 : nm02 127 = mn) (g2 : sc.names.lookup mn = some .globalImplicit) (g3 : nm02 104 = ln1) (g4 : nm02 105 = ln2) (g5 : nm02 106 = cn) (g6 : nm02 107 = dn) (g7 : nm02 s = sn) (g8 : locB sc sn = true) (hin : InSc sc csc) (t1 : bndB csc ln1 = true) (t2 : bndB csc ln2 = true) (t3 : bndB csc cn = true) (t4 : bndB csc dn = true) (t5 : locB csc cn = true) (t6 : locB csc dn = true) :
    ∃ os', EvE (cx q) n sc (.Call (.Name mn z0) [.ListComp (.BinOp (.Name cn z1) .Mult (.Name dn z2) z3) [⟨.Tuple [.Name ln1 z4, .Name ln2 z5, .Name cn z6, .Name dn z7] ct z8, .Name sn z9, [], 0⟩] csc z10] [] z11) ⟨vs, os⟩ (.int (minA [p1, p2])) ⟨vs, os'⟩ ∧ Ext os os' := by
  have hk := fun {os'} (k : Kp (os ++ [O.list []]) os' os.length) => Kp.ext k
  obtain ⟨os', us', g, k, hl, ha⟩ := comp_all (c := cx q) (n := n) (sc := csc) (tg := .Tuple [.Name ln1 z4, .Name ln2 z5, .Name cn z6, .Name dn z7] ct z8) (elt := .BinOp (.Name cn z1) .Mult (.Name dn z2) z3) (ifs := []) (S := .live i) (i := os.length) (vs0 := fun _ => none) (os0 := os ++ [.list []]) (l := us)
    (fun j => ([p1, p2][j]?).map fun p => p.w * p.h) (fun _ u b => u = .int b) (fun _ _ _ _ _ _ h => h) (fun os' k => hk k _ _ hi)
    (fun j v acc os' hv k _ hf => by
      have := (List.getElem?_eq_some_iff.mp hv).1
      rw [hu.len] at this
      rw [List.getElem?_eq_getElem this] at hf
      cases hf)
    (fun j v acc os' b hv k he hf => by
      obtain ⟨p, hp, rfl⟩ := Option.map_eq_some_iff.mp hf
      obtain ⟨v', hv', t, rfl, ht⟩ := hu.get hp
      rw [hv] at hv'; cases hv'
      have sm : small p.w ∧ small p.h := by
        rcases List.mem_cons.mp (List.mem_of_getElem? hp) with rfl | h
        · exact b1
        · rw [List.mem_singleton.mp h]; exact b2
      exact ⟨_, _, _, _, .tup [104, 105, 106, 107] (.cons 104 g3 t1 (.cons 105 g4 t2 (.cons 106 g5 t3 (.cons 107 g6 t4 .nil)))) (hk k _ _ ht) rfl, .nil, e_mul sm.1 sm.2 (e_loc X.g 106 g5 t5 rfl) (e_loc X.g 107 g6 t6 rfl), (fun _ _ h => nomatch h), Kp.refl, he, rfl⟩)
    us.length 0 [] (os ++ [.list []]) (Nat.zero_add _) .refl get_end (by rw [hu.len]; show 2 < lim; decide)
  have e2 : (List.range' 0 us.length).filterMap (fun j => ([p1, p2][j]?).map fun p => p.w * p.h) = [p1.w * p1.h, p2.w * p2.h] := by rw [hu.len]; rfl
  rw [e2] at ha
  rw [ints_of ha] at hl
  refine ⟨os', e_call X.g (e_glob X.g 127 g1 g2 rfl) (a_pos rfl (l_cons (e_comp hin (e_loc X.g s g7 g8 hv) (.list hi) (fun _ _ h => by cases h) g) l_nil)) rfl (f_minL hl ?_ ?_), hk k⟩
  · show min _ _ ∈ _
    rcases Int.le_total (p1.w * p1.h) (p2.w * p2.h) with h | h
    · rw [Int.min_eq_left h]; exact .head _
    · rw [Int.min_eq_right h]; exact .tail _ (.head _)
  · intro b hb
    rcases List.mem_cons.mp hb with rfl | hb
    · exact Int.min_le_left ..
    · rw [List.mem_singleton.mp hb]; exact Int.min_le_right ..
end
end Rw
namespace Rw
open PySem PySem.W PySem.Calls PyProof.Rows
noncomputable def stE : Stmt → Expr
  | .Assign _ e _ => e
  | .If e _ _ _ => e
  | .Expr e _ => e
  | .Return (some e) _ => e
  | .For t _ _ _ _ => t
  | _ => default
noncomputable def exE (l : List Stmt) (i : Nat) : Expr := stE ((l[i]?).getD default)
noncomputable def asE (i k : Nat) : Expr := exE (bdy (st i)) k
section
variable {q : Pm} {os : List O} {n j r : Nat} {o : R} {a b : Int}
noncomputable def vsC (r j : Nat) (o : R) (a b : Int) : Nat → Option V := ([5, 6, 29, 30].zip (partL o)).foldl (fun f p => upd f p.1 p.2) (varsOf [(96, .int (r : Nat)), (38, .obj j), (97, .int a), (98, .int b)])
theorem flt_run {n : Nat} {sc csc : Scope} {vs : Nat → Option V} (X : Ok q) {i : Nat} {us : List V} {ps : List R} (hi : os[i]? = some (.list us)) (hu : All2 (Pt os) us ps) (hl : ps.length < lim) {it : Expr} {pn : Str} {k2 k3 k4 k5 : Nat} {z0 z1 z2 z3 z4 z5 z6 z7 z8 z9 z10 z11 z12 z13 : Pos}
    (hit : EvE (cx q) n sc it ⟨vs, os⟩ (.obj i) ⟨vs, os⟩) (g1 : nm02 103 = pn) (t1 : bndB csc pn = true) (t2 : locB csc pn = true) (hin : InSc sc csc) (hf : ∀ env x, foldedSetIterable it env x = pure x) {m0 : Nat} (hm0 : m0 ≤ os.length) :
    ∃ i' os' us', EvE (cx q) n sc (.ListComp (.Name pn z0) [⟨.Name pn z1, it, [.BoolOp .And [.Compare (.Subscript (.Name pn z2) (.Constant (.int 2) k2 z3) z4) [.Gt] [.Constant (.int 0) k3 z5] z6, .Compare (.Subscript (.Name pn z7) (.Constant (.int 3) k4 z8) z9) [.Gt] [.Constant (.int 0) k5 z10] z11] z12], 0⟩] csc z13) ⟨vs, os⟩ (.obj i') ⟨vs, os'⟩ ∧ os'[i']? = some (.list us') ∧ All2 (Pt os') us' (ps.filter fun p => decide (p.w > 0) && decide (p.h > 0)) ∧ Ext os os' ∧ m0 ≤ i' := by
  obtain ⟨os', us', g, hl', ha, x⟩ := pt_comp (c := cx q) (kn := 103) (n := n) (z0 := z0) (z4 := z1) (ifs := [.BoolOp .And [.Compare (.Subscript (.Name pn z2) (.Constant (.int 2) k2 z3) z4) [.Gt] [.Constant (.int 0) k3 z5] z6, .Compare (.Subscript (.Name pn z7) (.Constant (.int 3) k4 z8) z9) [.Gt] [.Constant (.int 0) k5 z10] z11] z12]) (vs0 := fun _ => none) (cond := fun p : R => decide (p.w > 0) && decide (p.h > 0)) X.g hi hu hl g1 t1 t2 rfl
    fun os' t p _ ht => tests_one (t_of (t_andB (t_cmp (e_itemT (l := partL p) (e_loc X.g 103 g1 t2 rfl) (e_int (i := (2 : Nat))) ht (show 4 < lim by decide) rfl) e_int c_gt) (t_andB (t_cmp (e_itemT (l := partL p) (e_loc X.g 103 g1 t2 rfl) (e_int (i := (3 : Nat))) ht (show 4 < lim by decide) rfl) e_int c_gt) t_and0)) (congrArg _ (Bool.and_true _)))
  exact ⟨os.length, os', us', e_comp hin hit (.list hi) (fun _ _ h => by cases h) g hf, hl', ha, x, hm0⟩
theorem get6 {α : Type} {r : Nat} (hr : r < 6) (f : Nat → α) : [f 0, f 1, f 2, f 3, f 4, f 5][r]? = some (f r) := by
  rcases r with _ | _ | _ | _ | _ | _ | r
  · rfl
  · rfl
  · rfl
  · rfl
  · rfl
  · rfl
  · omega
theorem cut_run (X : Ok q) (hr : r < 6) (hj : os[j]? = some (.tup (partL o))) (s1 : small o.w) (s2 : small o.h) (s3 : small a) (s4 : small b) (s5 : small (o.w - a)) (s6 : small (o.h - b)) : ∃ i os' us, EvC (cx q) (n + 1) 1418 [.int (r : Nat), .obj j, .int a, .int b] [] os (.obj i) os' ∧ os'[i]? = some (.list us) ∧ All2 (Pt os') us (cutL r o a b) ∧ Ext os os' ∧ os.length ≤ i := by
  obtain ⟨i1, os1, u1, e1, l1, a1, x1⟩ : ∃ i os' us, EvE (cx q) n (scp (st 55)) (asE 55 1) ⟨vsC r j o a b, os⟩ (.obj i) ⟨vsC r j o a b, os'⟩ ∧ os'[i]? = some (.list us) ∧ All2 (Pt os') us (cutP o a b) ∧ Ext os os' :=
    pair_run (fun os => (l_cons (e_loc X.g 5 rfl rfl rfl) (l_cons (e_add (e_loc X.g 6 rfl rfl rfl) (e_loc X.g 98 rfl rfl rfl)) (l_cons (e_loc X.g 29 rfl rfl rfl) (l_cons (e_sub (e_loc X.g 30 rfl rfl rfl) (e_loc X.g 98 rfl rfl rfl)) l_nil))))) (fun os => (l_cons (e_add (e_loc X.g 5 rfl rfl rfl) (e_loc X.g 97 rfl rfl rfl)) (l_cons (e_loc X.g 6 rfl rfl rfl) (l_cons (e_sub (e_loc X.g 29 rfl rfl rfl) (e_loc X.g 97 rfl rfl rfl)) (l_cons (e_loc X.g 98 rfl rfl rfl) l_nil)))))
  obtain ⟨i2, os2, u2, e2, l2, a2, x2⟩ : ∃ i os' us, EvE (cx q) n (scp (st 55)) (asE 55 2) ⟨upd (vsC r j o a b) 99 (.obj i1), os1⟩ (.obj i) ⟨upd (vsC r j o a b) 99 (.obj i1), os'⟩ ∧ os'[i]? = some (.list us) ∧ All2 (Pt os') us (cutU o a b) ∧ Ext os1 os' :=
    pair_run (fun os => (l_cons (e_loc X.g 5 rfl rfl rfl) (l_cons (e_add (e_loc X.g 6 rfl rfl rfl) (e_loc X.g 98 rfl rfl rfl)) (l_cons (e_loc X.g 97 rfl rfl rfl) (l_cons (e_sub (e_loc X.g 30 rfl rfl rfl) (e_loc X.g 98 rfl rfl rfl)) l_nil))))) (fun os => (l_cons (e_add (e_loc X.g 5 rfl rfl rfl) (e_loc X.g 97 rfl rfl rfl)) (l_cons (e_loc X.g 6 rfl rfl rfl) (l_cons (e_sub (e_loc X.g 29 rfl rfl rfl) (e_loc X.g 97 rfl rfl rfl)) (l_cons (e_loc X.g 30 rfl rfl rfl) l_nil)))))
  obtain ⟨os3, e3, x3⟩ : ∃ os', EvE (cx q) n (scp (st 55)) (asE 55 3) ⟨upd (upd (vsC r j o a b) 99 (.obj i1)) 100 (.obj i2), os2⟩ (.int (minA (cutP o a b))) ⟨upd (upd (vsC r j o a b) 99 (.obj i1)) 100 (.obj i2), os'⟩ ∧ Ext os2 os' :=
    min_run X (s := 99) (x2 _ _ l1) (a1.mono fun _ _ => Pt.ext x2) ⟨s1, s6⟩ ⟨s5, s4⟩ rfl rfl rfl rfl rfl rfl rfl rfl rfl (inSc_of rfl) rfl rfl rfl rfl rfl rfl
  obtain ⟨os4, e4, x4⟩ : ∃ os', EvE (cx q) n (scp (st 55)) (asE 55 4) ⟨upd (upd (upd (vsC r j o a b) 99 (.obj i1)) 100 (.obj i2)) 101 (.int (minA (cutP o a b))), os3⟩ (.int (minA (cutU o a b))) ⟨upd (upd (upd (vsC r j o a b) 99 (.obj i1)) 100 (.obj i2)) 101 (.int (minA (cutP o a b))), os'⟩ ∧ Ext os3 os' :=
    min_run X (s := 100) (x3 _ _ l2) (a2.mono fun _ _ => Pt.ext x3) ⟨s3, s6⟩ ⟨s5, s2⟩ rfl rfl rfl rfl rfl rfl rfl rfl rfl (inSc_of rfl) rfl rfl rfl rfl rfl rfl
  have x14 := ((x1.trans x2).trans x3).trans x4
  have lv : os4[i1]? = some (.list u1) := x4 _ _ (x3 _ _ (x2 _ _ l1))
  have lu : os4[i2]? = some (.list u2) := x4 _ _ (x3 _ _ l2)
  have av : All2 (Pt os4) u1 (cutP o a b) := a1.mono fun _ _ h => (h.ext x2).ext (x3.trans x4)
  have au : All2 (Pt os4) u2 (cutU o a b) := a2.mono fun _ _ h => h.ext (x3.trans x4)
  have hx : [V.bool (decide (o.w < o.h)), .bool (decide (o.w ≥ o.h)), .bool (decide (o.w - a < o.h - b)), .bool (decide (o.w - a ≥ o.h - b)), .bool (decide (minA (cutP o a b) ≥ minA (cutU o a b))), .bool (decide (minA (cutP o a b) ≤ minA (cutU o a b)))][r]? = some (.bool (horC r o a b)) := get6 hr fun j => V.bool (horC j o a b)
  have ef : EvE (cx q) n (scp (st 55)) (asE 55 5) ⟨upd (upd (upd (upd (vsC r j o a b) 99 (.obj i1)) 100 (.obj i2)) 101 (.int (minA (cutP o a b)))) 10 (.int (minA (cutU o a b))), os4⟩ (.bool (horC r o a b)) ⟨upd (upd (upd (upd (vsC r j o a b) 99 (.obj i1)) 100 (.obj i2)) 101 (.int (minA (cutP o a b)))) 10 (.int (minA (cutU o a b))), os4 ++ [.list [V.bool (decide (o.w < o.h)), .bool (decide (o.w ≥ o.h)), .bool (decide (o.w - a < o.h - b)), .bool (decide (o.w - a ≥ o.h - b)), .bool (decide (minA (cutP o a b) ≥ minA (cutU o a b))), .bool (decide (minA (cutP o a b) ≤ minA (cutU o a b)))]]⟩ :=
    e_item (e_list (l_cons (e_cmp (e_loc X.g 29 rfl rfl rfl) (e_loc X.g 30 rfl rfl rfl) c_lt) (l_cons (e_cmp (e_loc X.g 29 rfl rfl rfl) (e_loc X.g 30 rfl rfl rfl) c_ge) (l_cons (e_cmp (e_sub (e_loc X.g 29 rfl rfl rfl) (e_loc X.g 97 rfl rfl rfl)) (e_sub (e_loc X.g 30 rfl rfl rfl) (e_loc X.g 98 rfl rfl rfl)) c_lt) (l_cons (e_cmp (e_sub (e_loc X.g 29 rfl rfl rfl) (e_loc X.g 97 rfl rfl rfl)) (e_sub (e_loc X.g 30 rfl rfl rfl) (e_loc X.g 98 rfl rfl rfl)) c_ge) (l_cons (e_cmp (e_loc X.g 101 rfl rfl rfl) (e_loc X.g 10 rfl rfl rfl) c_ge) (l_cons (e_cmp (e_loc X.g 101 rfl rfl rfl) (e_loc X.g 10 rfl rfl rfl) c_le) l_nil)))))) (show 6 < lim by decide)) (e_loc X.g 96 rfl rfl rfl) get_end (show 6 < lim by decide) hx
  have fin : ∃ i os' us, EvE (cx q) n (scp (st 55)) (asE 55 6) ⟨upd (upd (upd (upd (upd (vsC r j o a b) 99 (.obj i1)) 100 (.obj i2)) 101 (.int (minA (cutP o a b)))) 10 (.int (minA (cutU o a b)))) 102 (.bool (horC r o a b)), os4 ++ [.list [V.bool (decide (o.w < o.h)), .bool (decide (o.w ≥ o.h)), .bool (decide (o.w - a < o.h - b)), .bool (decide (o.w - a ≥ o.h - b)), .bool (decide (minA (cutP o a b) ≥ minA (cutU o a b))), .bool (decide (minA (cutP o a b) ≤ minA (cutU o a b)))]]⟩ (.obj i) ⟨upd (upd (upd (upd (upd (vsC r j o a b) 99 (.obj i1)) 100 (.obj i2)) 101 (.int (minA (cutP o a b)))) 10 (.int (minA (cutU o a b)))) 102 (.bool (horC r o a b)), os'⟩ ∧ os'[i]? = some (.list us) ∧ All2 (Pt os') us (cutL r o a b) ∧ Ext (os4 ++ [.list [V.bool (decide (o.w < o.h)), .bool (decide (o.w ≥ o.h)), .bool (decide (o.w - a < o.h - b)), .bool (decide (o.w - a ≥ o.h - b)), .bool (decide (minA (cutP o a b) ≥ minA (cutU o a b))), .bool (decide (minA (cutP o a b) ≤ minA (cutU o a b)))]]) os' ∧ os4.length ≤ i := by
    unfold cutL
    cases hc : horC r o a b with
    | true => exact flt_run X (get_app lv) (av.mono fun _ _ => Pt.ext Ext.app) (show 2 < lim by decide) (e_if (t_name (e_loc X.g 102 rfl rfl rfl) tr_bool) (e_loc X.g 99 rfl rfl rfl)) rfl rfl rfl (inSc_of rfl) (fun _ _ => rfl) (by rw [List.length_append]; exact Nat.le_add_right _ _)
    | false => exact flt_run X (get_app lu) (au.mono fun _ _ => Pt.ext Ext.app) (show 2 < lim by decide) (e_if (t_name (e_loc X.g 102 rfl rfl rfl) tr_bool) (e_loc X.g 100 rfl rfl rfl)) rfl rfl rfl (inSc_of rfl) (fun _ _ => rfl) (by rw [List.length_append]; exact Nat.le_add_right _ _)
  have x14' := x14.len
  obtain ⟨i5, os5, u5, e5, l5, a5, x5, i6⟩ := fin
  refine ⟨i5, os5, u5, ?_, l5, a5, (x14.trans Ext.app).trans x5, by omega⟩
  exact c_fn X.g (X.fn 43 rfl rfl) rfl (bind4 fun _ _ _ _ => rfl) (b_cons (s_unp (e_loc X.g 38 rfl rfl rfl) (.tup [5, 6, 29, 30] (.cons 5 rfl rfl (.cons 6 rfl rfl (.cons 29 rfl rfl (.cons 30 rfl rfl .nil)))) hj rfl))
    (b_cons (s_asg 99 rfl rfl e1)
    (b_cons (s_asg 100 rfl rfl e2)
    (b_cons (s_asg 101 rfl rfl e3)
    (b_cons (s_asg 10 rfl rfl e4)
    (b_cons (s_asg 102 rfl rfl ef)
    (b_ret (s_ret e5)))))))) (.inl rfl)
end
end Rw
namespace Rw
open PySem PySem.W PySem.Calls PyProof.Rows
theorem bestF_map {β γ : Type} {f : β → γ} : ∀ (l : List (Int × β)) (b : Option (Int × β)), bestF (b.map fun c => (c.1, f c.2)) (l.map fun c => (c.1, f c.2)) = (bestF b l).map fun c => (c.1, f c.2)
  | [], b => rfl
  | c :: l, none => bestF_map l (some c)
  | c :: l, some b => by
    have h1 := bestF_map (f := f) l (some c)
    have h2 := bestF_map (f := f) l (some b)
    simp only [List.map_cons, Option.map_some, bestF] at h1 h2 ⊢
    split
    · exact h1
    · exact h2
theorem bestF_le {β : Type} : ∀ {l : List (Int × β)} {b : Option (Int × β)} {c : Int × β}, bestF b l = some c → (∀ e ∈ l, c.1 ≤ e.1) ∧ ∀ d, b = some d → c.1 ≤ d.1
  | [], b, c, h => ⟨(fun _ h => nomatch h), (fun d e => by cases h; cases e; exact Int.le_refl _)⟩
  | e :: l, none, c, h => by
    obtain ⟨h1, h2⟩ := bestF_le (l := l) (b := some e) h
    refine ⟨fun x hx => ?_, fun d q => by cases q⟩
    rcases List.mem_cons.mp hx with rfl | hx
    · exact h2 _ rfl
    · exact h1 x hx
  | e :: l, some b, c, h => by
    unfold bestF at h
    split at h
    · rename_i hlt
      obtain ⟨h1, h2⟩ := bestF_le h
      have := h2 _ rfl
      refine ⟨fun x hx => ?_, fun d q => by cases q; omega⟩
      rcases List.mem_cons.mp hx with rfl | hx
      · exact this
      · exact h1 x hx
    · rename_i hlt
      obtain ⟨h1, h2⟩ := bestF_le h
      have := h2 _ rfl
      refine ⟨fun x hx => ?_, fun d q => by cases q; exact this⟩
      rcases List.mem_cons.mp hx with rfl | hx
      · omega
      · exact h1 x hx
noncomputable def candR (k : Nat) (rev : Bool) (w h : Int) (secs : List R) : List (Int × R × Bool) := secs.filterMap fun s => (fitF k s w h).map fun f => (f, s, rev)
noncomputable def candsR (k : Nat) (t : Bool) (w h : Int) (secs : List R) : List (Int × R × Bool) := candR k false w h secs ++ bif t then candR k true h w secs else []
noncomputable def pick (k : Nat) (t : Bool) (w h : Int) (secs : List R) : Option (Int × R × Bool) := bestF none (candsR k t w h secs)
theorem cand_R {k : Nat} {rev : Bool} {w h : Int} : ∀ {ss : List Nat} {secs : List R}, ss.length = secs.length → (cand k rev w h ss secs).map (fun c => (c.1, c.2.2)) = candR k rev w h secs
  | [], [], _ => rfl
  | [], _ :: _, h => by simp at h
  | _ :: _, [], h => by simp at h
  | i :: l, s :: m, hl => by
    have ih := cand_R (k := k) (rev := rev) (w := w) (h := h) (ss := l) (secs := m) (by simpa using hl)
    unfold candR at ih ⊢
    rw [List.filterMap_cons]
    cases hf : fitF k s w h <;> simp [cand, hf, ih]
theorem cands_R {k : Nat} {t : Bool} {w h : Int} {ss : List Nat} {secs : List R} (hl : ss.length = secs.length) : (bestF none (cands k t w h ss secs)).map (fun c => (c.1, c.2.2)) = pick k t w h secs := by
  have := bestF_map (f := fun c : Nat × R × Bool => c.2) (cands k t w h ss secs) none
  rw [Option.map_none] at this
  rw [← this]
  unfold pick cands candsR
  rw [List.map_append, cand_R hl]
  cases t
  · rfl
  · simp only [cond_true, cand_R hl]
noncomputable def Dis (p q : R) : Prop := p.x + p.w ≤ q.x ∨ q.x + q.w ≤ p.x ∨ p.y + p.h ≤ q.y ∨ q.y + q.h ≤ p.y
theorem within_other {p q g : R} (d : Dis p q) (hw : 0 < g.w) (hh : 0 < g.h) (hp : withinB g p = true) : withinB g q = false := by
  cases hq : withinB g q with
  | false => rfl
  | true =>
    unfold withinB Dis at *
    simp only [Bool.and_eq_true, decide_eq_true_eq] at hp hq
    omega
theorem pos_l (x y : R) (c1 c2 : Bool) (h1 : (decide (x.w > 0) && decide (x.h > 0)) = c1) (h2 : (decide (y.w > 0) && decide (y.h > 0)) = c2) : ([x, y].filter fun p => decide (p.w > 0) && decide (p.h > 0)) = (bif c1 then [x] else []) ++ (bif c2 then [y] else []) := by
  rw [List.filter_cons, List.filter_cons, List.filter_nil, h1, h2]
  cases c1 <;> cases c2 <;> rfl
theorem dec_and {p q r : Prop} [Decidable p] [Decidable q] [Decidable r] (h : (p ∧ q) ↔ r) : (decide p && decide q) = decide r := by rw [← Bool.decide_and, decide_eq_decide]; exact h
theorem cut_split {k : Nat} {o : R} {a b : Int} (ho : 0 < o.w) (ho' : 0 < o.h) (ha : 0 < a) (hb : 0 < b) (ha' : a ≤ o.w) (hb' : b ≤ o.h) : cutL (k % 6) o a b = splitL k o a b := by
  have lev : (cutP o a b).filter (fun p => decide (p.w > 0) && decide (p.h > 0)) = newsH o a b := pos_l _ _ _ _ (dec_and (by dsimp only; omega)) (dec_and (by dsimp only; omega))
  have upr : (cutU o a b).filter (fun p => decide (p.w > 0) && decide (p.h > 0)) = newsV o a b := pos_l _ _ _ _ (dec_and (by dsimp only; omega)) (dec_and (by dsimp only; omega))
  have same : o.w = a ∨ o.h = b → newsH o a b = newsV o a b := by
    intro e
    unfold newsH newsV
    rcases e with e | e
    · subst e
      rw [show decide (o.w < o.w) = false from decide_eq_false (Int.lt_irrefl _)]; rfl
    · subst e
      rw [show decide (o.h < o.h) = false from decide_eq_false (Int.lt_irrefl _)]; rfl
  have key : (bif horC (k % 6) o a b then newsH o a b else newsV o a b) = bif horB (k % 6) o a b then newsH o a b else newsV o a b := by
    by_cases e : o.w = a ∨ o.h = b
    · rw [same e, Bool.cond_self, Bool.cond_self]
    · have hr : 0 < (o.w - a) * (o.h - b) := Int.mul_pos (by omega) (by omega)
      have i1 : o.w * (o.h - b) = a * (o.h - b) + (o.w - a) * (o.h - b) := by rw [← Int.add_mul]; congr 1; omega
      have i2 : (o.w - a) * o.h = b * (o.w - a) + (o.w - a) * (o.h - b) := by rw [Int.mul_comm b, ← Int.mul_add]; congr 1; omega
      have i3 : (o.w - a) * b = b * (o.w - a) := Int.mul_comm _ _
      have : horC (k % 6) o a b = horB (k % 6) o a b := by
        generalize k % 6 = j
        match j with
        | 0 => rfl
        | 1 => rfl
        | 2 => rfl
        | 3 => rfl
        | 4 => exact decide_eq_decide.mpr (by show min _ _ ≥ min _ _ ↔ _; dsimp only; rw [i1, i2, i3]; generalize (o.w - a) * (o.h - b) = r at hr; generalize a * (o.h - b) = p; generalize b * (o.w - a) = q; omega)
        | j + 5 => exact decide_eq_decide.mpr (by show min _ _ ≤ min _ _ ↔ _; dsimp only; rw [i1, i2, i3]; generalize (o.w - a) * (o.h - b) = r at hr; generalize a * (o.h - b) = p; generalize b * (o.w - a) = q; omega)
      rw [this]
  unfold cutL splitL
  rw [← key]
  cases horC (k % 6) o a b
  · exact upr
  · exact lev
noncomputable def DisL : List R → Prop
  | [] => True
  | q :: ps => (∀ p ∈ ps, Dis q p) ∧ DisL ps
theorem cut_dis {k : Nat} {o : R} {a b : Int} : DisL (splitL k o a b) := by
  have two : ∀ {c d : Bool} {x y : R}, Dis x y → DisL ((bif c then [x] else []) ++ (bif d then [y] else [])) := fun {c d x y} h => by
    cases c <;> cases d
    · exact trivial
    · exact ⟨(fun _ h => nomatch h), trivial⟩
    · exact ⟨(fun _ h => nomatch h), trivial⟩
    · exact ⟨fun p hp => List.mem_singleton.mp hp ▸ h, (fun _ h => nomatch h), trivial⟩
  unfold splitL newsH newsV
  cases horB (k % 6) o a b
  · exact two (by unfold Dis; dsimp only; omega)
  · exact two (by unfold Dis; dsimp only; omega)
noncomputable def area (r : R) : Int := r.w * r.h
noncomputable def areas (l : List R) : Int := (l.map area).sum
theorem areas_app {l m : List R} : areas (l ++ m) = areas l + areas m := by unfold areas; rw [List.map_append, List.sum_append]
theorem split_area {k : Nat} {o : R} {a b : Int} (ha' : a ≤ o.w) (hb' : b ≤ o.h) : areas (splitL k o a b) = area o - a * b := by
  have two : ∀ {c d : Prop} [Decidable c] [Decidable d] {x y : R}, (¬ c → area x = 0) → (¬ d → area y = 0) → areas ((bif decide c then [x] else []) ++ (bif decide d then [y] else [])) = area x + area y := fun {c d _ _ x y} h1 h2 => by
    rw [areas_app]
    have one : ∀ {c : Prop} [Decidable c] {x : R}, (¬ c → area x = 0) → areas (bif decide c then [x] else []) = area x := fun {c _ x} h => by
      by_cases hc : c
      · rw [decide_eq_true hc]; unfold areas; simp
      · rw [decide_eq_false hc, h hc]; rfl
    rw [one h1, one h2]
  unfold splitL newsH newsV
  cases horB (k % 6) o a b
  · rw [cond_false, two (fun h => by unfold area; rw [show o.h - b = 0 by omega, Int.mul_zero]) (fun h => by unfold area; rw [show o.w - a = 0 by omega, Int.zero_mul])]
    unfold area
    dsimp only
    rw [Int.mul_sub, Int.sub_mul]; omega
  · rw [cond_true, two (fun h => by unfold area; rw [show o.h - b = 0 by omega, Int.mul_zero]) (fun h => by unfold area; rw [show o.w - a = 0 by omega, Int.zero_mul])]
    unfold area
    dsimp only
    rw [Int.mul_sub, Int.sub_mul]; omega
theorem split_none {k : Nat} {o : R} : splitL k o o.w o.h = [] := by
  unfold splitL newsH newsV
  rw [decide_eq_false (Int.lt_irrefl _), decide_eq_false (Int.lt_irrefl _)]
  cases horB (k % 6) o o.w o.h <;> rfl
end Rw
namespace Rw
open PySem PySem.W PySem.Calls PyProof.Rows
noncomputable def posR (r : R) : Prop := 0 < r.w ∧ 0 < r.h
noncomputable def goP (g : R → List R → Option (List R)) (l : List R) : List R → Option (List R × Nat)
  | [] => some ([], 0)
  | q :: ps => (g q (l.filter fun r => withinB r q)).bind fun r => (goP g l ps).map fun c => (r ++ c.1, (l.filter fun r => withinB r q).length + c.2)
noncomputable def restsF (k : Nat) : Nat → R → List R → Option (List R)
  | _, p, [] => some [p]
  | 0, _, _ :: _ => none
  | n + 1, p, f :: l => bif decide (f.x = p.x) && (decide (f.y = p.y) && withinB f p) then (goP (restsF k n) l (cutL (k % 6) p f.w f.h)).bind fun c => bif c.2 == l.length then some c.1 else none else none
section
variable {k n : Nat} {p q s g f : R} {l r ps : List R} {c : List R × Nat}
theorem wi_iff : withinB g p = true ↔ p.x ≤ g.x ∧ p.y ≤ g.y ∧ g.x + g.w ≤ p.x + p.w ∧ g.y + g.h ≤ p.y + p.h := by
  unfold withinB
  simp only [Bool.and_eq_true, decide_eq_true_eq]
theorem wi_le (h1 : f.x = p.x) (h2 : f.y = p.y) (h : p.x ≤ f.x ∧ p.y ≤ f.y ∧ f.x + f.w ≤ p.x + p.w ∧ f.y + f.h ≤ p.y + p.h) : f.w ≤ p.w ∧ f.h ≤ p.h := by omega
theorem wi_trans (h1 : withinB g s = true) (h2 : withinB s q = true) : withinB g q = true := by
  rw [wi_iff] at *
  omega
theorem restsF_nil : restsF k n p [] = some [p] := by cases n <;> rfl
theorem part_in {a b : Int} (hp : posR p) (ha : 0 < a) (hb : 0 < b) (ha' : a ≤ p.w) (hb' : b ≤ p.h) : ∀ q ∈ splitL k p a b, posR q ∧ withinB q p = true := by
  intro q hq
  obtain ⟨h1, h2⟩ := hp
  unfold splitL newsH newsV at hq
  simp only [Bool.cond_eq_ite, decide_eq_true_eq] at hq
  rw [wi_iff]
  unfold posR
  split at hq <;> rcases List.mem_append.mp hq with e | e <;> split at e <;> simp at e <;> subst e <;> refine ⟨⟨?_, ?_⟩, ?_, ?_, ?_, ?_⟩ <;> dsimp only <;> omega
theorem rests_cons {res : List R} (h : restsF k (n + 1) p (f :: l) = some res) : (f.x = p.x ∧ f.y = p.y ∧ withinB f p = true) ∧ goP (restsF k n) l (cutL (k % 6) p f.w f.h) = some (res, l.length) := by
  unfold restsF at h
  cases hc : decide (f.x = p.x) && (decide (f.y = p.y) && withinB f p) with
  | false => rw [hc] at h; cases h
  | true =>
    rw [hc] at h
    simp only [Bool.and_eq_true, decide_eq_true_eq] at hc
    obtain ⟨⟨c1, c2⟩, h1, h2⟩ := Option.bind_eq_some_iff.mp h
    refine ⟨hc, ?_⟩
    cases he : c2 == l.length with
    | false => simp [he] at h2
    | true =>
      simp [he] at h2
      rw [h1, h2, beq_iff_eq.mp he]
theorem rests_mk {res : List R} (h1 : f.x = p.x) (h2 : f.y = p.y) (h3 : withinB f p = true) (h4 : goP (restsF k n) l (cutL (k % 6) p f.w f.h) = some (res, l.length)) : restsF k (n + 1) p (f :: l) = some res := by
  unfold restsF
  rw [decide_eq_true h1, decide_eq_true h2, h3, h4]
  simp
theorem goP_cons {g : R → List R → Option (List R)} {r : List R × Nat} (h : goP g l (q :: ps) = some r) : ∃ r1 r2, g q (l.filter fun x => withinB x q) = some r1 ∧ goP g l ps = some r2 ∧ r = (r1 ++ r2.1, (l.filter fun x => withinB x q).length + r2.2) := by
  unfold goP at h
  obtain ⟨r1, h1, h2⟩ := Option.bind_eq_some_iff.mp h
  obtain ⟨r2, h3, rfl⟩ := Option.map_eq_some_iff.mp h2
  exact ⟨r1, r2, h1, h3, rfl⟩
theorem goP_mk {g : R → List R → Option (List R)} {r1 : List R} {r2 : List R × Nat} (h1 : g q (l.filter fun x => withinB x q) = some r1) (h2 : goP g l ps = some r2) : goP g l (q :: ps) = some (r1 ++ r2.1, (l.filter fun x => withinB x q).length + r2.2) := by
  unfold goP
  rw [h1, h2]; rfl
theorem goP_mono {g g' : R → List R → Option (List R)} (hg : ∀ q m r, g q m = some r → g' q m = some r) : ∀ {ps : List R} {c : List R × Nat}, goP g l ps = some c → goP g' l ps = some c
  | [], _, h => h
  | q :: ps, c, h => by
    obtain ⟨r1, r2, h1, h2, rfl⟩ := goP_cons h
    exact goP_mk (hg _ _ _ h1) (goP_mono hg h2)
theorem rests_mono : ∀ {n : Nat} {p : R} {l r : List R}, restsF k n p l = some r → restsF k (n + 1) p l = some r
  | n, p, [], r, h => by rw [restsF_nil] at *; exact h
  | 0, p, f :: l, r, h => by cases h
  | n + 1, p, f :: l, r, h => by
    obtain ⟨⟨h1, h2, h3⟩, h4⟩ := rests_cons h
    exact rests_mk h1 h2 h3 (goP_mono (fun _ _ _ => rests_mono) h4)
theorem rests_in : ∀ {n : Nat} {p : R} {l r : List R}, restsF k n p l = some r → posR p → (∀ f ∈ l, posR f) → ∀ s ∈ r, posR s ∧ withinB s p = true
  | n, p, [], r, h, hp, _, s, hs => by
    rw [restsF_nil] at h; cases h
    rw [List.mem_singleton.mp hs]
    exact ⟨hp, wi_iff.mpr ⟨Int.le_refl _, Int.le_refl _, Int.le_refl _, Int.le_refl _⟩⟩
  | 0, p, f :: l, r, h, _, _, _, _ => by cases h
  | n + 1, p, f :: l, r, h, hp, hl, s, hs => by
    obtain ⟨⟨h1, h2, h3⟩, h4⟩ := rests_cons h
    have hf := hl f (.head _)
    have h3' := wi_iff.mp h3
    obtain ⟨fw, fh⟩ := wi_le h1 h2 h3'
    rw [cut_split hp.1 hp.2 hf.1 hf.2 fw fh] at h4
    have go : ∀ {ps : List R} {c : List R × Nat}, (∀ q ∈ ps, posR q ∧ withinB q p = true) → goP (restsF k n) l ps = some c → ∀ s ∈ c.1, posR s ∧ withinB s p = true := by
      intro ps
      induction ps with
      | nil => intro c _ h s hs; cases h; cases hs
      | cons q ps ih =>
        intro c hq h s hs
        obtain ⟨r1, r2, g1, g2, rfl⟩ := goP_cons h
        rcases List.mem_append.mp hs with m | m
        · have := rests_in g1 (hq q (.head _)).1 (fun f hf => hl f (.tail _ (List.mem_filter.mp hf).1)) s m
          exact ⟨this.1, wi_trans this.2 (hq q (.head _)).2⟩
        · exact ih (fun q h => hq q (.tail _ h)) g2 s m
    exact go (part_in hp hf.1 hf.2 fw fh) h4 s hs
theorem goP_in {c : List R × Nat} (hl : ∀ f ∈ l, posR f) : ∀ {ps : List R} {c : List R × Nat}, (∀ q ∈ ps, posR q) → goP (restsF k n) l ps = some c → ∀ s ∈ c.1, ∃ q ∈ ps, withinB s q = true
  | [], c, _, h, s, hs => by cases h; cases hs
  | q :: ps, c, hq, h, s, hs => by
    obtain ⟨r1, r2, g1, g2, rfl⟩ := goP_cons h
    rcases List.mem_append.mp hs with m | m
    · exact ⟨q, .head _, (rests_in g1 (hq q (.head _)) (fun f hf => hl f (List.mem_filter.mp hf).1) s m).2⟩
    · obtain ⟨q', h1, h2⟩ := goP_in (c := c) hl (fun q h => hq q (.tail _ h)) g2 s m
      exact ⟨q', .tail _ h1, h2⟩
theorem flt_no (h : withinB g q = false) : ((l ++ [g]).filter fun x => withinB x q) = l.filter fun x => withinB x q := by
  rw [List.filter_append, List.filter_cons_of_neg (by rw [h]; exact Bool.false_ne_true), List.filter_nil, List.append_nil]
theorem flt_yes (h : withinB g q = true) : ((l ++ [g]).filter fun x => withinB x q) = (l.filter fun x => withinB x q) ++ [g] := by
  rw [List.filter_append, List.filter_cons_of_pos (p := fun x => withinB x q) h, List.filter_nil]
theorem goP_no : ∀ {ps : List R} {c : List R × Nat}, (∀ q ∈ ps, withinB g q = false) → goP (restsF k n) l ps = some c → goP (restsF k (n + 1)) (l ++ [g]) ps = some c
  | [], c, _, h => h
  | q :: ps, c, hq, h => by
    obtain ⟨r1, r2, g1, g2, rfl⟩ := goP_cons h
    have e := flt_no (l := l) (hq q (.head _))
    have := goP_mk (g := restsF k (n + 1)) (l := l ++ [g]) (q := q) (by rw [e]; exact rests_mono g1) (goP_no (fun q h => hq q (.tail _ h)) g2)
    rw [e] at this; exact this
structure Sits (g s : R) : Prop where
  x : g.x = s.x
  y : g.y = s.y
  p : posR g
  w : g.w ≤ s.w
  h : g.h ≤ s.h
theorem Sits.within (a : Sits g s) : withinB g s = true := by
  have := a.x; have := a.y; have := a.w; have := a.h
  rw [wi_iff]; omega
theorem rests_add (hs0 : Sits g s) : ∀ {n : Nat} {p : R} {l r : List R}, restsF k n p l = some r → posR p → (∀ f ∈ l, posR f) → s ∈ r → ∃ r', restsF k (n + 1) p (l ++ [g]) = some r' ∧ r'.Perm (r.erase s ++ splitL k s g.w g.h)
  | n, p, [], r, h, hp, _, hs => by
    rw [restsF_nil] at h; cases h
    cases List.mem_singleton.mp hs
    have nl : ∀ ps : List R, goP (restsF k n) [] ps = some (ps, 0) := by
      intro ps
      induction ps with
      | nil => rfl
      | cons q ps ih => exact goP_mk (g := restsF k n) (l := []) (q := q) (by exact restsF_nil) ih
    refine ⟨cutL (k % 6) s g.w g.h, rests_mk hs0.x hs0.y hs0.within (nl _), ?_⟩
    rw [cut_split hp.1 hp.2 hs0.p.1 hs0.p.2 hs0.w hs0.h, List.erase_cons_head]
    exact .refl _
  | 0, p, f :: l, r, h, _, _, _ => by cases h
  | n + 1, p, f :: l, r, h, hp, hl, hs => by
    obtain ⟨⟨h1, h2, h3⟩, h4⟩ := rests_cons h
    have hf := hl f (.head _)
    have h3' := wi_iff.mp h3
    obtain ⟨fw, fh⟩ := wi_le h1 h2 h3'
    have hl' : ∀ f ∈ l, posR f := fun f h => hl f (.tail _ h)
    have ec := cut_split (k := k) hp.1 hp.2 hf.1 hf.2 fw fh
    have go : ∀ {ps : List R} {c : List R × Nat}, DisL ps → (∀ q ∈ ps, posR q) → goP (restsF k n) l ps = some c → s ∈ c.1 → ∃ r', goP (restsF k (n + 1)) (l ++ [g]) ps = some (r', c.2 + 1) ∧ r'.Perm (c.1.erase s ++ splitL k s g.w g.h) := by
      intro ps
      induction ps with
      | nil => intro c _ _ h hs; cases h; cases hs
      | cons q ps ih =>
        intro c hd hq h hs
        obtain ⟨r1, r2, g1, g2, rfl⟩ := goP_cons h
        by_cases m : s ∈ r1
        · have sq := (rests_in g1 (hq q (.head _)) (fun f hf => hl' f (List.mem_filter.mp hf).1) s m).2
          have gq := wi_trans hs0.within sq
          obtain ⟨r', k1, k2⟩ := rests_add hs0 g1 (hq q (.head _)) (fun f hf => hl' f (List.mem_filter.mp hf).1) m
          have e := flt_yes (l := l) gq
          have := goP_mk (g := restsF k (n + 1)) (l := l ++ [g]) (q := q) (by rw [e]; exact k1) (goP_no (fun q' h => within_other (hd.1 q' h) hs0.p.1 hs0.p.2 gq) g2)
          rw [e, List.length_append] at this
          refine ⟨r' ++ r2.1, this.trans (congrArg some (Prod.ext rfl (show _ + 1 + r2.2 = _ + r2.2 + 1 by omega))), ?_⟩
          rw [List.erase_append_left _ m]
          refine (k2.append_right _).trans ?_
          rw [List.append_assoc, List.append_assoc]
          exact List.Perm.append_left _ List.perm_append_comm
        · have m2 := (List.mem_append.mp hs).resolve_left m
          obtain ⟨q', hq', sq⟩ := goP_in (c := r2) hl' (fun q h => hq q (.tail _ h)) g2 s m2
          have gq := wi_trans hs0.within sq
          have gn : withinB g q = false := by
            cases hb : withinB g q with
            | false => rfl
            | true => rw [within_other (hd.1 q' hq') hs0.p.1 hs0.p.2 hb] at gq; cases gq
          obtain ⟨r', k1, k2⟩ := ih hd.2 (fun q h => hq q (.tail _ h)) g2 m2
          have e := flt_no (l := l) gn
          have := goP_mk (g := restsF k (n + 1)) (l := l ++ [g]) (q := q) (by rw [e]; exact rests_mono g1) k1
          rw [e] at this
          refine ⟨r1 ++ r', this.trans (congrArg some (Prod.ext rfl (Nat.add_assoc ..).symm)), ?_⟩
          rw [List.erase_append_right _ m, List.append_assoc]
          exact k2.append_left _
    rw [ec] at h4
    obtain ⟨r', k1, k2⟩ := go cut_dis (fun q hq => (part_in hp hf.1 hf.2 fw fh q hq).1) h4 hs
    exact ⟨r', rests_mk h1 h2 h3 (by rw [ec]; exact k1.trans (congrArg some (Prod.ext rfl (show l.length + 1 = (l ++ [g]).length by simp)))), k2⟩
end
end Rw
namespace Rw
open PySem PySem.W PySem.Calls PyProof.Rows
theorem area_nn {w h W H : Int} (hw : 0 < w) (hh : 0 < h) (h1 : w ≤ W) (h2 : h ≤ H) : 0 ≤ W * H - w * h ∧ (W * H - w * h = 0 → W = w ∧ H = h) := by
  have e : W * H - w * h = (W - w) * H + w * (H - h) := by rw [Int.sub_mul, Int.mul_sub]; omega
  have hH : 0 < H := Int.lt_of_lt_of_le hh h2
  have a1 : 0 ≤ (W - w) * H := Int.mul_nonneg (Int.sub_nonneg_of_le h1) (Int.le_of_lt hH)
  have a2 : 0 ≤ w * (H - h) := Int.mul_nonneg (Int.le_of_lt hw) (Int.sub_nonneg_of_le h2)
  rw [e]
  refine ⟨Int.add_nonneg a1 a2, fun q => ?_⟩
  have b1 : (W - w) * H = 0 := Int.le_antisymm (q ▸ Int.le_add_of_nonneg_right a2) a1
  have b2 : w * (H - h) = 0 := Int.le_antisymm (q ▸ Int.le_add_of_nonneg_left a1) a2
  exact ⟨Int.eq_of_sub_eq_zero ((Int.mul_eq_zero.mp b1).resolve_right (Int.ne_of_gt hH)), Int.eq_of_sub_eq_zero ((Int.mul_eq_zero.mp b2).resolve_left (Int.ne_of_gt hw))⟩
theorem max_zero {a b : Int} (ha : 0 ≤ a) (hb : 0 ≤ b) : 0 ≤ max a b ∧ (max a b = 0 → a = 0 ∧ b = 0) :=
  ⟨Int.le_trans ha (Int.le_max_left ..), fun h => ⟨Int.le_antisymm (h ▸ Int.le_max_left a b) ha, Int.le_antisymm (h ▸ Int.le_max_right a b) hb⟩⟩
theorem k6 {k : Nat} (hk : 6 ≤ k) : ¬ k / 6 = 0 := fun h => absurd (Nat.div_pos hk (by decide)) (h ▸ Nat.lt_irrefl 0)
theorem fit_zero {k : Nat} {s : R} {w h f : Int} (hk : 6 ≤ k) (hw : 0 < w) (hh : 0 < h) (e : fitF k s w h = some f) : 0 ≤ f ∧ (f = 0 → s.w = w ∧ s.h = h) := by
  obtain ⟨h1, h2⟩ := fitF_le e
  unfold fitF at e
  rw [if_neg (fun q => q.elim (Int.not_lt.mpr h1) (Int.not_lt.mpr h2)), if_neg (k6 hk)] at e
  split at e <;> cases e
  · obtain ⟨g1, g2⟩ := max_zero (Int.sub_nonneg_of_le h1) (Int.sub_nonneg_of_le h2)
    exact ⟨g1, fun q => ⟨Int.eq_of_sub_eq_zero (g2 q).1, Int.eq_of_sub_eq_zero (g2 q).2⟩⟩
  · exact area_nn hw hh h1 h2
theorem fit_ex {k : Nat} {s : R} (hk : 6 ≤ k) : fitF k s s.w s.h = some 0 := by
  unfold fitF
  rw [if_neg (fun q => q.elim (Int.lt_irrefl _) (Int.lt_irrefl _)), if_neg (k6 hk), Int.sub_self, Int.sub_self, Int.sub_self]
  split <;> rfl
theorem candR_mem {k : Nat} {rev : Bool} {w h : Int} {secs : List R} {c : Int × R × Bool} : c ∈ candR k rev w h secs ↔ c.2.1 ∈ secs ∧ c.2.2 = rev ∧ fitF k c.2.1 w h = some c.1 := by
  unfold candR
  rw [List.mem_filterMap]
  refine ⟨fun ⟨s, hs, e⟩ => ?_, fun ⟨h1, h2, h3⟩ => ⟨c.2.1, h1, by rw [h3, ← h2]; rfl⟩⟩
  obtain ⟨f, hf, rfl⟩ := Option.map_eq_some_iff.mp e
  exact ⟨hs, rfl, hf⟩
theorem pick_mem {k : Nat} {t : Bool} {w h : Int} {secs : List R} {f : Int} {s : R} {rot : Bool} (e : pick k t w h secs = some (f, s, rot)) : s ∈ secs ∧ (rot = true → t = true) ∧ fitF k s (bif rot then h else w) (bif rot then w else h) = some f := by
  unfold pick candsR at e
  rcases List.mem_append.mp ((bestF_mem e).resolve_right nofun) with q | q
  · obtain ⟨h1, h2, h3⟩ := candR_mem.mp q
    dsimp only at h1 h2 h3
    subst h2
    exact ⟨h1, (fun h => nomatch h), h3⟩
  · cases t with
    | false => cases q
    | true =>
      obtain ⟨h1, h2, h3⟩ := candR_mem.mp q
      dsimp only at h1 h2 h3
      subst h2
      exact ⟨h1, fun _ => rfl, h3⟩
theorem pick_nil {k : Nat} {t : Bool} {w h : Int} : pick k t w h [] = none := by cases t <;> rfl
theorem pick_exact {k : Nat} {t : Bool} {w h : Int} {secs : List R} (hk : 6 ≤ k) (hw : 0 < w) (hh : 0 < h) {s0 : R} (hs0 : s0 ∈ secs) (he : (s0.w = w ∧ s0.h = h) ∨ (t = true ∧ s0.w = h ∧ s0.h = w)) :
    ∃ s rot, pick k t w h secs = some (0, s, rot) ∧ s ∈ secs ∧ (rot = true → t = true) ∧ s.w = (bif rot then h else w) ∧ s.h = (bif rot then w else h) := by
  obtain ⟨c0, hc0, z0⟩ : ∃ c0 ∈ candsR k t w h secs, c0.1 = 0 := by
    rcases he with ⟨rfl, rfl⟩ | ⟨rfl, rfl, rfl⟩
    · exact ⟨(0, s0, false), List.mem_append_left _ (candR_mem.mpr ⟨hs0, rfl, fit_ex hk⟩), rfl⟩
    · exact ⟨(0, s0, true), List.mem_append_right _ (candR_mem.mpr ⟨hs0, rfl, fit_ex hk⟩), rfl⟩
  cases hp : pick k t w h secs with
  | none =>
    rw [bestF_none hp] at hc0
    cases hc0
  | some c =>
    obtain ⟨f, s, rot⟩ := c
    obtain ⟨h1, h2, h3⟩ := pick_mem hp
    have hle := (bestF_le hp).1 _ hc0
    rw [z0] at hle
    have hw' : 0 < (bif rot then h else w) := by cases rot <;> assumption
    have hh' : 0 < (bif rot then w else h) := by cases rot <;> assumption
    obtain ⟨g1, g2⟩ := fit_zero hk hw' hh' h3
    have hf : f = 0 := by
      have hle : f ≤ 0 := hle
      omega
    subst hf
    exact ⟨s, rot, rfl, h1, h2, g2 rfl⟩
noncomputable def keyR (t : Bool) (r : R) : Int × Int := bif t then (max r.w r.h, min r.w r.h) else (r.w, r.h)
theorem key_eq {t : Bool} {a b : R} (h : keyR t a = keyR t b) : (a.w = b.w ∧ a.h = b.h) ∨ (t = true ∧ a.w = b.h ∧ a.h = b.w) := by
  have key : ∀ {x y u v : Int}, max x y = max u v → min x y = min u v → (x = u ∧ y = v) ∨ (x = v ∧ y = u) := fun {x y u v} h1 h2 => by
    rcases Int.le_total x y with c | c <;> rcases Int.le_total u v with d | d
    · rw [Int.max_eq_right c, Int.max_eq_right d] at h1; rw [Int.min_eq_left c, Int.min_eq_left d] at h2; exact .inl ⟨h2, h1⟩
    · rw [Int.max_eq_right c, Int.max_eq_left d] at h1; rw [Int.min_eq_left c, Int.min_eq_right d] at h2; exact .inr ⟨h2, h1⟩
    · rw [Int.max_eq_left c, Int.max_eq_right d] at h1; rw [Int.min_eq_right c, Int.min_eq_left d] at h2; exact .inr ⟨h1, h2⟩
    · rw [Int.max_eq_left c, Int.max_eq_left d] at h1; rw [Int.min_eq_right c, Int.min_eq_right d] at h2; exact .inl ⟨h1, h2⟩
  unfold keyR at h
  cases t
  · exact .inl ⟨congrArg (·.1) h, congrArg (·.2) h⟩
  · exact (key (congrArg (·.1) h) (congrArg (·.2) h)).imp id fun q => ⟨rfl, q⟩
theorem key_of {t : Bool} {a b : R} (h : (a.w = b.w ∧ a.h = b.h) ∨ (t = true ∧ a.w = b.h ∧ a.h = b.w)) : keyR t a = keyR t b := by
  unfold keyR
  rcases h with ⟨h1, h2⟩ | ⟨rfl, h1, h2⟩
  · rw [h1, h2]
  · rw [h1, h2]
    exact Prod.ext (Int.max_comm ..) (Int.min_comm ..)
structure Exact (k : Nat) (t : Bool) (w h : Int) (secs free : List R) (req : List R) : Prop where
  ex : ∃ s rot, pick k t w h secs = some (0, s, rot) ∧ s ∈ free ∧ s.w = (bif rot then h else w) ∧ s.h = (bif rot then w else h) ∧ (rot = true → t = true) ∧ s ∈ secs ∧ (free.erase s).Perm (secs.erase s) ∧ ((secs.erase s).map (keyR t)).Perm (req.map (keyR t))
theorem exact_turn {k : Nat} {t : Bool} {w h : Int} {secs free req : List R} {r0 : R} (hk : 6 ≤ k) (hw : 0 < w) (hh : 0 < h) (p1 : free.Perm secs) (p2 : (secs.map (keyR t)).Perm ((r0 :: req).map (keyR t))) (hr : (w = r0.w ∧ h = r0.h) ∨ (t = true ∧ w = r0.h ∧ h = r0.w)) : Exact k t w h secs free req := by
  have m : keyR t r0 ∈ secs.map (keyR t) := p2.mem_iff.mpr (.head _)
  obtain ⟨s0, hs0, e0⟩ := List.mem_map.mp m
  have he : (s0.w = w ∧ s0.h = h) ∨ (t = true ∧ s0.w = h ∧ s0.h = w) := by
    rcases key_eq e0 with ⟨a, b⟩ | ⟨c, a, b⟩ <;> rcases hr with ⟨d, e⟩ | ⟨g, d, e⟩
    · exact .inl ⟨a.trans d.symm, b.trans e.symm⟩
    · exact .inr ⟨g, a.trans e.symm, b.trans d.symm⟩
    · exact .inr ⟨c, a.trans e.symm, b.trans d.symm⟩
    · exact .inl ⟨a.trans d.symm, b.trans e.symm⟩
  obtain ⟨s, rot, h1, h2, h3, h4, h5⟩ := pick_exact hk hw hh hs0 he
  refine ⟨s, rot, h1, p1.mem_iff.mpr h2, h4, h5, h3, h2, p1.erase s, ?_⟩
  have ek : keyR t s = keyR t r0 := by
    refine key_of ?_
    rcases hr with ⟨d, e⟩ | ⟨g, d, e⟩ <;> cases rot
    · exact .inl ⟨h4.trans d, h5.trans e⟩
    · exact .inr ⟨h3 rfl, h4.trans e, h5.trans d⟩
    · exact .inr ⟨g, h4.trans d, h5.trans e⟩
    · exact .inl ⟨h4.trans e, h5.trans d⟩
  have p3 := ((List.perm_cons_erase h2).map (keyR t)).symm.trans p2
  rw [List.map_cons, List.map_cons, ek] at p3
  exact p3.cons_inv
theorem areas_erase {s : R} : ∀ {l : List R}, s ∈ l → areas (l.erase s) = areas l - area s
  | [], h => nomatch h
  | a :: l, h => by
    by_cases e : a = s
    · subst e
      rw [List.erase_cons_head]
      unfold areas
      rw [List.map_cons, List.sum_cons]; omega
    · rw [List.erase_cons_tail (by simpa using e)]
      have := areas_erase ((List.mem_cons.mp h).resolve_left (Ne.symm e))
      unfold areas at *
      rw [List.map_cons, List.sum_cons, List.map_cons, List.sum_cons]; omega
noncomputable def idxF (o n i : Nat) : Nat := (bif o % 2 == 0 then Int.fmod ((o : Int) + i) n else Int.fmod ((o : Int) - i) n).toNat
theorem fmod_of {x : Int} {n v : Nat} {c : Int} (h : x = v + n * c) (hv : v < n) : Int.fmod x n = v := by
  rw [Int.fmod_eq_emod_of_nonneg _ (Int.natCast_nonneg n), h, Int.add_mul_emod_self_left]
  exact Int.emod_eq_of_lt (Int.natCast_nonneg v) (Int.ofNat_lt.mpr hv)
theorem idx_val {o n i : Nat} (hi : i < n) : idxF o n i = bif o % 2 == 0 then (if o % n + i < n then o % n + i else o % n + i - n) else (if i ≤ o % n then o % n - i else o % n + n - i) := by
  have hr : o % n < n := Nat.mod_lt _ (by omega)
  have hd : (o : Int) = (o % n : Nat) + n * ((o / n : Nat) : Int) := by
    have := Nat.mod_add_div o n
    rw [← Int.natCast_mul, ← Int.natCast_add]; exact congrArg _ this.symm
  generalize o % n = r at hr hd
  generalize ((o / n : Nat) : Int) = c at hd
  unfold idxF
  cases o % 2 == 0
  · simp only [cond_false]
    split
    · rw [fmod_of (v := r - i) (c := c) (by omega) (by omega)]; rfl
    · rw [fmod_of (v := r + n - i) (c := c - 1) (by rw [Int.mul_sub]; omega) (by omega)]; rfl
  · simp only [cond_true]
    split
    · rw [fmod_of (v := r + i) (c := c) (by omega) (by omega)]; rfl
    · rw [fmod_of (v := r + i - n) (c := c + 1) (by rw [Int.mul_add]; omega) (by omega)]; rfl
theorem perm_of_inv {f g : Nat → Nat} {n : Nat} (h1 : ∀ i, i < n → f i < n ∧ g (f i) = i) (h2 : ∀ i, i < n → g i < n ∧ f (g i) = i) : ((List.range n).map f).Perm (List.range n) := by
  refine (List.perm_ext_iff_of_nodup (List.pairwise_map.mpr (List.Pairwise.imp_of_mem (fun {x y} hx hy hne e => hne ?_) (List.nodup_range (n := n)))) List.nodup_range).mpr fun a => ?_
  · rw [List.mem_map, List.mem_range]
    exact ⟨fun ⟨i, hi, e⟩ => e ▸ (h1 i (List.mem_range.mp hi)).1, fun ha => ⟨g a, List.mem_range.mpr (h2 a ha).1, (h2 a ha).2⟩⟩
  · rw [← (h1 x (List.mem_range.mp hx)).2, e, (h1 y (List.mem_range.mp hy)).2]
theorem flip_inv {r n i : Nat} (hr : r < n) (hi : i < n) : (if i ≤ r then r - i else r + n - i) < n ∧ (if (if i ≤ r then r - i else r + n - i) ≤ r then r - (if i ≤ r then r - i else r + n - i) else r + n - (if i ≤ r then r - i else r + n - i)) = i := by
  by_cases c : i ≤ r
  · rw [if_pos c, if_pos (Nat.sub_le r i)]; exact ⟨Nat.lt_of_le_of_lt (Nat.sub_le r i) hr, Nat.sub_sub_self c⟩
  · have h1 : r < r + n - i := by rw [Nat.add_sub_assoc (Nat.le_of_lt hi)]; exact Nat.lt_add_of_pos_right (Nat.sub_pos_of_lt hi)
    rw [if_neg c, if_neg (Nat.not_le.mpr h1)]
    exact ⟨Nat.sub_lt_left_of_lt_add (Nat.le_trans (Nat.le_of_lt hi) (Nat.le_add_left n r)) (Nat.add_lt_add_right (Nat.not_le.mp c) n), Nat.sub_sub_self (Nat.le_trans (Nat.le_of_lt hi) (Nat.le_add_left n r))⟩
theorem shift_inv {r n i : Nat} (hr : r < n) (hi : i < n) : ((if r + i < n then r + i else r + i - n) < n ∧ (if r ≤ (if r + i < n then r + i else r + i - n) then (if r + i < n then r + i else r + i - n) - r else (if r + i < n then r + i else r + i - n) + n - r) = i) ∧ ((if r ≤ i then i - r else i + n - r) < n ∧ (if r + (if r ≤ i then i - r else i + n - r) < n then r + (if r ≤ i then i - r else i + n - r) else r + (if r ≤ i then i - r else i + n - r) - n) = i) := by
  refine ⟨?_, ?_⟩
  · by_cases c : r + i < n
    · rw [if_pos c, if_pos (Nat.le_add_right r i)]; exact ⟨c, Nat.add_sub_cancel_left ..⟩
    · have c := Nat.not_lt.mp c
      have e : r + i - n + n = r + i := Nat.sub_add_cancel c
      have h1 : r + i - n < r := Nat.lt_of_add_lt_add_right (n := n) (by rw [e]; exact Nat.add_lt_add_left hi r)
      rw [if_neg (Nat.not_lt.mpr c), if_neg (Nat.not_le.mpr h1), e]
      exact ⟨Nat.lt_trans h1 hr, Nat.add_sub_cancel_left ..⟩
  · by_cases c : r ≤ i
    · have e : r + (i - r) = i := Nat.add_sub_of_le c
      rw [if_pos c, e, if_pos hi]; exact ⟨Nat.lt_of_le_of_lt (Nat.sub_le i r) hi, rfl⟩
    · have e : r + (i + n - r) = i + n := Nat.add_sub_of_le (Nat.le_trans (Nat.le_of_lt hr) (Nat.le_add_left n i))
      rw [if_neg c, e, if_neg (Nat.not_lt.mpr (Nat.le_add_left n i)), Nat.add_sub_cancel]
      exact ⟨Nat.sub_lt_left_of_lt_add (Nat.le_trans (Nat.le_of_lt hr) (Nat.le_add_left n i)) (Nat.add_lt_add_right (Nat.not_le.mp c) n), rfl⟩
theorem idx_perm {o n : Nat} : ((List.range n).map (idxF o n)).Perm (List.range n) := by
  have hr : ∀ {i}, i < n → o % n < n := fun h => Nat.mod_lt _ (Nat.lt_of_le_of_lt (Nat.zero_le _) h)
  cases hc : o % 2 == 0 with
  | false =>
    refine perm_of_inv (g := idxF o n) ?_ ?_ <;> exact fun i hi => by
      have h := flip_inv (hr hi) hi
      have e := idx_val (o := o) hi
      rw [hc, cond_false] at e
      rw [e]
      have e2 := idx_val (o := o) h.1
      rw [hc, cond_false] at e2
      exact ⟨h.1, e2.trans h.2⟩
  | true =>
    refine perm_of_inv (g := fun i => if o % n ≤ i then i - o % n else i + n - o % n) (fun i hi => ?_) fun i hi => ?_
    · have h := (shift_inv (hr hi) hi).1
      have e := idx_val (o := o) hi
      rw [hc, cond_true] at e
      rw [e]; exact h
    · have h := (shift_inv (hr hi) hi).2
      have e := idx_val (o := o) h.1
      rw [hc, cond_true] at e
      exact ⟨h.1, e.trans h.2⟩
theorem idx_lt {o n i : Nat} (hi : i < n) : idxF o n i < n := List.mem_range.mp (idx_perm.mem_iff.mp (List.mem_map.mpr ⟨i, List.mem_range.mpr hi, rfl⟩))
noncomputable def ordL (o : Nat) (l : List R) : List R := (List.range l.length).map fun i => (l[idxF o l.length i]?).getD ⟨0, 0, 0, 0⟩
theorem ord_perm {o : Nat} {l : List R} : (ordL o l).Perm l := by
  have h := (idx_perm (o := o) (n := l.length)).map fun i => (l[i]?).getD ⟨0, 0, 0, 0⟩
  rw [List.map_map] at h
  refine h.trans (List.Perm.of_eq ?_)
  refine List.ext_getElem (by simp) fun i h1 h2 => ?_
  simp [h2]
end Rw
namespace Rw
open PySem PySem.W PySem.Calls PyProof.Rows
theorem side_pos {a m : Int} (hm : 0 ≤ m) : 0 < sideL a m ∧ sideL a m ≤ m + 1 := by
  unfold sideL
  have h3 : 0 ≤ Int.fmod (a.natAbs : Int) 3 := Int.fmod_nonneg_of_pos _ (by decide)
  have h5 : 0 ≤ Int.fmod (Int.fdiv (a.natAbs : Int) 3) (m + 1) := Int.fmod_nonneg_of_pos _ (by omega)
  have h6 : Int.fmod (Int.fdiv (a.natAbs : Int) 3) (m + 1) < m + 1 := Int.fmod_lt_of_pos _ (by omega)
  generalize Int.fmod (Int.fdiv (a.natAbs : Int) 3) (m + 1) = x at h5 h6
  generalize Int.fmod (a.natAbs : Int) 3 = y at h3
  have h7 : 0 ≤ Int.fdiv x (1 + y) := Int.fdiv_nonneg h5 (by omega)
  have h8 : Int.fdiv x (1 + y) ≤ x := by
    rw [Int.fdiv_eq_ediv_of_nonneg _ (by omega)]
    exact Int.ediv_le_self _ h5
  omega
section
variable {c : Cx} {n : Nat} {sc : Scope} {a b : Expr} {es : List Expr} {pos : Pos} {σ : Sg} {b1 b2 : Bool} {os : List O} {u : V} {d : PyData}
theorem Dat.ints {i : Nat} {us : List V} {ns : List Int} (h : os[i]? = some (.tup us)) (e : us = ns.map .int) : Dat os (.obj i) (.tuple (ns.map .int)) := by
  subst e
  refine .tup h (by rw [List.length_map, List.length_map]) fun k v d h1 h2 => ?_
  obtain ⟨x, hx, rfl⟩ := List.getElem?_map .. ▸ h1 |> Option.map_eq_some_iff.mp
  rw [List.getElem?_map, hx] at h2
  cases h2
  exact .int x
end
theorem sh_list {ds : List PyData} (h : ∀ d ∈ ds, d.canLay0 = true ∧ d.depth ≤ 3 ∧ d.eqv d = true) : SeqAt.shaped (.list ds) = true ∧ PyData.eqv (.list ds) (.list ds) = true := by
  have key : PyData.canLayAll0 ds = true ∧ PyData.depthAll ds ≤ 3 ∧ PyData.eqvAll ds ds = true := by
    induction ds with
    | nil => exact ⟨rfl, Nat.zero_le _, rfl⟩
    | cons d ds ih =>
      obtain ⟨a1, a2, a3⟩ := h d (.head _)
      obtain ⟨i1, i2, i3⟩ := ih fun d hd => h d (.tail _ hd)
      exact ⟨by show (d.canLay0 && PyData.canLayAll0 ds) = true; rw [a1, i1]; rfl, Nat.max_le.mpr ⟨a2, i2⟩, by show (d.eqv d && PyData.eqvAll ds ds) = true; rw [a3, i3]; rfl⟩
  refine ⟨?_, key.2.2⟩
  have : (PyData.list ds).depth ≤ 64 := Nat.le_trans (Nat.succ_le_succ key.2.1) (by decide)
  show (PyData.canLayAll0 ds && decide ((PyData.list ds).depth ≤ 64)) = true
  rw [key.1, decide_eq_true this]; rfl
theorem eqv_int {i : Int} : PyData.eqv (.int i) (.int i) = true := beq_self_eq_true i
noncomputable def rid (rects : List (R × Int)) : List (R × V) := rects.map fun p => (p.1, .int p.2)
noncomputable def rowI (p : R × Int) : List Int := [p.1.x, p.1.y, p.1.w, p.1.h, p.2]
noncomputable def rowD (p : R × Int) : PyData := .tuple ((rowI p).map .int)
theorem eqvAll_ints : ∀ {ns : List Int}, PyData.eqvAll (ns.map .int) (ns.map .int) = true
  | [] => rfl
  | i :: ns => by
    show (PyData.eqv (.int i) (.int i) && PyData.eqvAll (ns.map .int) (ns.map .int)) = true
    rw [eqv_int, eqvAll_ints]; rfl
theorem sh_rows {l : List (R × Int)} : SeqAt.shaped (.list (l.map rowD)) = true ∧ PyData.eqv (.list (l.map rowD)) (.list (l.map rowD)) = true := sh_list fun d hd => by
  obtain ⟨i, _, rfl⟩ := List.mem_map.mp hd
  exact ⟨rfl, Nat.le_of_ble_eq_true rfl, eqvAll_ints⟩
section
variable {c : Cx} {os os' : List O} {i j : Nat} {us : List V}
theorem dat_rows {l : List (R × Int)} (h : os[i]? = some (.list us)) (d : Rws os us (rid l)) : Dat os (.obj i) (.list (l.map rowD)) := by
  have a := d
  refine .list h (by rw [List.length_map, a.len, rid, List.length_map]) fun k v d h1 h2 => ?_
  rw [List.getElem?_map] at h2
  obtain ⟨p, hp, rfl⟩ := Option.map_eq_some_iff.mp h2
  obtain ⟨v', hv', t, rfl, ht⟩ := a.get (j := k) (b := (p.1, .int p.2)) (by rw [rid, List.getElem?_map, hp]; rfl)
  rw [h1] at hv'; cases hv'
  exact Dat.ints (ns := rowI p) ht rfl
theorem c_nil {ds : List PyData} (h : Dat os (.obj i) (.list ds)) (s : SeqAt.shaped (.list ds) = true) (hj : os[j]? = some (.list [])) : CmpJ c .Eq os (.obj i) (.obj j) ds.isEmpty := by
  have := c_eqD (c := c) h (.list hj (ds := []) rfl fun _ _ _ h => nomatch h) s rfl
  cases ds <;> exact this
theorem c_rows {l : List (R × Int)} {us' : List V} (h : os[i]? = some (.list us)) (d : Rws os us (rid l)) (h' : os[j]? = some (.list us')) (d' : Rws os us' (rid l)) : CmpJ c .NotEq os (.obj i) (.obj j) false := by
  have := c_neD (c := c) (dat_rows h d) (dat_rows h' d') sh_rows.1 sh_rows.1
  rw [sh_rows.2] at this
  exact this
end
structure Chg (os os' : List O) (Y : List Nat) : Prop where
  kp : ∀ (i : Nat) o, os[i]? = some o → i ∉ Y → os'[i]? = some o
  ls : ∀ i ∈ Y, ∃ l, os[i]? = some (.list l)
theorem Chg.no {os os' : List O} {Y : List Nat} (c : Chg os os' Y) {i : Nat} {o : O} (e : os[i]? = some o) (h : ∀ l, o ≠ .list l) : os'[i]? = some o := c.kp _ _ e fun hm => by
  obtain ⟨l, hl⟩ := c.ls i hm
  rw [e] at hl
  exact h l (Option.some.inj hl)
theorem Ext.chg {os os' : List O} (e : Ext os os') : Chg os os' [] := ⟨fun i o h _ => e i o h, fun _ h => nomatch h⟩
theorem Chg.set {os : List O} {i : Nat} {l : List V} (h : os[i]? = some (.list l)) {o : O} : Chg os (os.set i o) [i] := ⟨fun j o e hj => get_ne e fun q => hj (q ▸ .head _), fun j hj => ⟨l, by rw [List.mem_singleton.mp hj]; exact h⟩⟩
section
variable {q : Pm} {os os' : List O} {n b k ri se : Nat} {W H w h : Int} {t : Bool} {ss : List Nat} {secs : List R} {rs : List Nat} {rects : List (R × V)}
theorem Bin.keep (B : Bin os b k W H t ri se ss secs rs rects) {Y : List Nat} (c : Chg os os' Y) (h1 : se ∉ Y) (h2 : ri ∉ Y) : Bin os' b k W H t ri se ss secs rs rects :=
  have r : ∀ (i : Nat) s x, os[i]? = some (R.o s x) → os'[i]? = some (R.o s x) := fun _ _ _ e => c.no e fun _ h => nomatch h
  ⟨⟨B.hk, B.hb.imp fun _ e => c.no e (fun _ h => nomatch h), c.kp _ _ B.hs h1, B.sec.fr r, B.ok, B.lim⟩, c.kp _ _ B.hl h2, B.lrec.fr r, B.ne, B.rlim⟩
theorem Bin.frm (B : Bin os b k W H t ri se ss secs rs rects) (f : Frm os os' se ri) : Chg os os' [se, ri] :=
  ⟨fun i o e hi => f.2 i o e (fun h => hi (h ▸ .head _)) fun h => hi (h ▸ .tail _ (.head _)), fun i hi => by
    rcases List.mem_cons.mp hi with rfl | hi
    · exact ⟨_, B.hs⟩
    · rw [List.mem_singleton.mp hi]; exact ⟨_, B.hl⟩⟩
end
noncomputable def lcS : Expr → Scope
  | .ListComp _ _ s _ => s
  | _ => scp (st 58)
noncomputable def lcE : Expr → Expr
  | .ListComp e _ _ _ => e
  | _ => default
noncomputable def lcG : Expr → Comprehension
  | .ListComp _ (g :: _) _ _ => g
  | _ => ⟨default, default, [], 0⟩
theorem fit_pick {os : List O} {b k ri se : Nat} {W H : Int} {t : Bool} {ss : List Nat} {secs : List R} {w h : Int} (B : Bin0 os b k W H t ri se ss secs) : (bestF none (cands k t w h ss secs)).map (·.1) = (pick k t w h secs).map (·.1) := by
  rw [← cands_R B.sec.len, Option.map_map]; rfl
theorem Ext.bin {os os' : List O} {b k ri se : Nat} {W H : Int} {t : Bool} {ss : List Nat} {secs : List R} {rs : List Nat} {rects : List (R × V)} (e : Ext os os') (B : Bin os b k W H t ri se ss secs rs rects) : Bin os' b k W H t ri se ss secs rs rects := B.keep e.chg (fun h => nomatch h) fun h => nomatch h
theorem Ext.then {os os1 os2 : List O} {Y : List Nat} (e : Ext os os1) (c : Chg os1 os2 Y) (ls : ∀ i ∈ Y, ∃ l, os[i]? = some (.list l)) : Chg os os2 Y := ⟨fun i o h hi => c.kp i o (e _ _ h) hi, ls⟩
theorem rng1 {n : Nat} : rngL 0 n 1 = (List.range n).map fun (j : Nat) => V.int j := by
  have : (Builtin.Range.rangeSize 0 n 1).toNat = n := by
    unfold Builtin.Range.rangeSize
    rw [if_pos (by decide)]
    split
    · rw [Int.ediv_one]; omega
    · omega
  unfold rngL
  rw [this]
  exact List.map_congr_left fun j _ => by rw [Int.mul_one, Int.zero_add]
theorem small1 {n : Nat} (h : n ≤ 1000) : Builtin.Range.small 0 n 1 = true := by
  have h1 : Builtin.Range.rangeSize 0 n 1 = n := by
    unfold Builtin.Range.rangeSize
    rw [if_pos (by decide)]
    split
    · rw [Int.ediv_one]; omega
    · omega
  unfold Builtin.Range.small Builtin.Range.rangeFitsLong
  rw [h1]
  simp
  omega
section
variable {q : Pm} {os : List O} {n b k ri se : Nat} {W H w h : Int} {t : Bool} {ss : List Nat} {secs : List R} {rs : List Nat} {rects : List (R × V)}
theorem add_pick (X : Ok q) (B : Bin os b k W H t ri se ss secs rs rects) (hw : 0 < w) (hh : 0 < h) (bw : small w) (bh : small h) {rid : V} {f : Int} {s : R} {rot : Bool} (hp : pick k t w h secs = some (f, s, rot)) (h1 : 2 * ss.length + 14 < lim) (h2 : rs.length + 12 < lim) :
    ∃ os' idx ss', EvC (cx q) (n + 6) 470 [.obj b, .int w, .int h, rid] [] os (.obj idx) os' ∧
      Bin os' b k W H t ri se ss' (secs.erase s ++ splitL k s (bif rot then h else w) (bif rot then w else h)) (rs ++ [idx]) (rects ++ [(⟨s.x, s.y, bif rot then h else w, bif rot then w else h⟩, rid)]) ∧
      Frm os os' se ri ∧ os.length ≤ idx ∧ ss'.length ≤ ss.length + 2 ∧ os'[idx]? = some (R.o ⟨s.x, s.y, bif rot then h else w, bif rot then w else h⟩ rid) := by
  rw [← cands_R B.sec.len] at hp
  obtain ⟨⟨f', i', s', r'⟩, hc, e⟩ := Option.map_eq_some_iff.mp hp
  cases e
  obtain ⟨os', idx, ss', r, r1, r2, r3, r4, r5⟩ := add_some (n := n) X B hw hh bw bh (rid := rid) hc
  exact ⟨os', idx, ss', r, r1 (by omega) h2, r2, r3, r4, r5⟩
end
theorem mem_two {P : Nat → Prop} {a b : Nat} (p1 : P a) (p2 : P b) : ∀ x ∈ [a, b], P x := fun x hx => by
  rcases List.mem_cons.mp hx with rfl | hx
  · exact p1
  · rw [List.mem_singleton.mp hx]; exact p2
theorem Rws.snoc {os : List O} {us : List V} {l : List (R × V)} {p : Nat} {s : R × V} (d : Rws os us l) (h : os[p]? = some (.tup (rowL s))) : Rws os (us ++ [.obj p]) (l ++ [s]) := All2.app d (.cons ⟨_, rfl, h⟩ .nil)
theorem Rws.chg {os os' : List O} {Y : List Nat} {us : List V} {l : List (R × V)} (c : Chg os os' Y) (d : Rws os us l) : Rws os' us l := d.mono fun _ _ h => c.no h fun _ h => nomatch h
theorem small_of {a : Int} {e : Nat} (h : a.natAbs < 2 ^ e) (he : e ≤ 2 ^ 25) : small a := by
  unfold small Builtin.Int.intBits
  by_cases h0 : (a == 0) = true
  · rw [if_pos h0]; exact Nat.zero_le _
  · rw [if_neg h0]
    have hn : a.natAbs ≠ 0 := fun h => h0 (beq_iff_eq.mpr (Int.natAbs_eq_zero.mp h))
    have := (Nat.log2_lt hn).mpr h
    omega
theorem bits_lt {a : Int} {e : Nat} (h : Builtin.Int.intBits a ≤ e) : a.natAbs < 2 ^ e := by
  unfold Builtin.Int.intBits at h
  by_cases h0 : (a == 0) = true
  · rw [beq_iff_eq.mp h0]; exact Nat.pow_pos (by decide)
  · rw [if_neg h0] at h
    have hn : a.natAbs ≠ 0 := fun h => h0 (beq_iff_eq.mpr (Int.natAbs_eq_zero.mp h))
    exact (Nat.log2_lt hn).mp (by omega)
theorem small_abs {p : Int} {e : Nat} (h : Builtin.Int.intBits p ≤ e) (he : e + 2 ≤ 2 ^ 25) : small (1 + (p.natAbs : Int) + 1) := by
  refine small_of (e := e + 2) ?_ he
  have h1 := bits_lt h
  rw [Nat.pow_add]
  generalize 2 ^ e = z at h1
  omega
theorem size2 {n : Nat} : Builtin.Range.rangeSize 0 ((n : Int) - 1) 2 = ((n / 2 : Nat) : Int) := by
  unfold Builtin.Range.rangeSize
  rw [if_pos (by decide)]
  split <;> omega
theorem rng2 {n : Nat} : rngL 0 ((n : Int) - 1) 2 = (List.range (n / 2)).map fun (i : Nat) => V.int ((2 * i : Nat) : Int) := by
  unfold rngL
  rw [size2]
  exact List.map_congr_left fun j _ => by rw [Int.zero_add, Int.mul_comm]; rfl
theorem small2 {n : Nat} (h : n ≤ 1000) : Builtin.Range.small 0 ((n : Int) - 1) 2 = true := by
  unfold Builtin.Range.small Builtin.Range.rangeFitsLong
  rw [size2]
  simp
  omega
theorem ar10 {a b : Int} (h : 0 < a) (h2 : a ≤ b) : a.natAbs ≤ b.natAbs := by omega
noncomputable def partD (p : R) : PyData := .tuple ([p.x, p.y, p.w, p.h].map .int)
theorem dat_part {os : List O} {v : V} {p : R} (h : Pt os v p) : Dat os v (partD p) := by
  obtain ⟨t, rfl, ht⟩ := h
  exact Dat.ints (ns := [p.x, p.y, p.w, p.h]) ht rfl
theorem dat_parts {os : List O} {i : Nat} {us : List V} {l : List R} (h : os[i]? = some (.list us)) (d : All2 (Pt os) us l) : Dat os (.obj i) (.list (l.map partD)) := by
  refine .list h (by rw [List.length_map, d.len]) fun k v e h1 h2 => ?_
  rw [List.getElem?_map] at h2
  obtain ⟨p, hp, rfl⟩ := Option.map_eq_some_iff.mp h2
  obtain ⟨v', hv', ht⟩ := d.get hp
  rw [h1] at hv'; cases hv'
  exact dat_part ht
theorem eqv_ints : ∀ {ns ms : List Int}, PyData.eqvAll (ns.map .int) (ms.map .int) = (ns == ms)
  | [], [] => rfl
  | [], _ :: _ => rfl
  | _ :: _, [] => rfl
  | i :: ns, j :: ms => by
    show (PyData.eqv (.int i) (.int j) && PyData.eqvAll (ns.map .int) (ms.map .int)) = (i == j && ns == ms)
    rw [eqv_ints]; rfl
theorem eqv_part {p r : R} : PyData.eqv (partD p) (partD r) = decide (p = r) := by
  have e : PyData.eqv (partD p) (partD r) = ([p.x, p.y, p.w, p.h] == [r.x, r.y, r.w, r.h]) := eqv_ints
  rw [e, Bool.eq_iff_iff, beq_iff_eq, decide_eq_true_iff]
  cases p; cases r
  simp
theorem sh_parts {l : List R} : SeqAt.shaped (.list (l.map partD)) = true ∧ PyData.canLayAll0 (l.map partD) = true := by
  have h : ∀ d ∈ l.map partD, d.canLay0 = true ∧ d.depth ≤ 3 ∧ d.eqv d = true := fun d hd => by
    obtain ⟨p, _, rfl⟩ := List.mem_map.mp hd
    exact ⟨rfl, Nat.le_of_ble_eq_true rfl, eqvAll_ints⟩
  refine ⟨(sh_list h).1, ?_⟩
  have := (sh_list h).1
  exact (Bool.and_eq_true_iff.mp this).1
end Rw
namespace Rw
open PySem PySem.W PySem.Calls PyProof.Rows
noncomputable def forB (l : List Stmt) (i : Nat) : List Stmt := match (l[i]? : Option Stmt) with
  | some (.For _ _ b _ _) => b
  | _ => []
noncomputable def forT (l : List Stmt) (i : Nat) : Expr := exE l i
noncomputable def subE : Expr → List Expr
  | .Call _ as _ _ => as
  | .BoolOp _ as _ => as
  | .Subscript _ i _ => [i]
  | .IfExp e _ _ _ => [e]
  | .Compare e _ _ _ => [e]
  | _ => []
noncomputable def prt (e : Expr) (i : Nat) : Expr := ((subE e)[i]?).getD default
noncomputable def rsB : List Stmt := forB (bdy (st 57)) 5
noncomputable def rsT : Expr := forT (bdy (st 57)) 5
noncomputable def inX : Expr := exE rsB 0
section
variable {q : Pm} {os : List O} {vs : Nat → Option V} {n k pj lj qj ci : Nat} {us cus : List V} {l : List R} {p r f : R}
theorem inside_run (X : Ok q) {us' : List V} {si : Nat} (hs : os[si]? = some (.list us')) (hu : All2 (Pt os) us' l) (hl : l.length < lim) (hq : os[qj]? = some (.tup (partL r))) :
    ∃ os' us'', CompGo (cx q) (n + 1) (lcS inX) (lcG inX).target (lcG inX).ifs (lcE inX) (.live si) os.length (varsOf [(103, .obj qj)]) us'.length 0 (os ++ [.list []]) os' ∧ os'[os.length]? = some (.list us'') ∧ All2 (Pt os') us'' (l.filter fun x => withinB x r) ∧ Ext os os' := by
  exact pt_comp (c := cx q) (kn := 38) (cond := fun x => withinB x r) X.g hs hu hl rfl rfl rfl rfl fun os' t x e ht =>
    tests_one (t_call (e_call X.g (e_glob X.g 142 rfl rfl rfl) (a_pos rfl (l_cons (e_loc X.g 38 rfl rfl rfl) (l_cons (e_loc X.g 103 rfl rfl rfl) l_nil))) rfl (f_top (within_run X ht (e _ _ hq)))) tr_bool)
noncomputable def RunsTo (q : Pm) (n k N : Nat) : Prop := ∀ {p : R} {l r : List R} {os : List O} {pj lj : Nat} {us : List V}, restsF k N p l = some r → posR p → (∀ f ∈ l, posR f) → okR p → os[pj]? = some (.tup (partL p)) → os[lj]? = some (.list us) → All2 (Pt os) us l → l.length < lim → r.length < lim →
  ∃ os' i us', EvC (cx q) (n + N + 2) 1430 [.int ((k % 6 : Nat) : Int), .obj pj, .obj lj] [] os (.obj i) os' ∧ os'[i]? = some (.list us') ∧ All2 (Pt os') us' r ∧ Ext os os' ∧ os.length ≤ i
theorem ar30 {a b c z : Nat} (h : a + (b + c) < z) : b < z ∧ a + b < z := by omega
theorem rests_go (X : Ok q) {N : Nat} (ih : RunsTo q n k N) {lus : List V} {parts : List R} {f0 : R} (hl : os[lj]? = some (.list lus)) (hlu : All2 (Pt os) lus (f0 :: l)) (hll : l.length + 1 < lim) (hpos : ∀ f ∈ l, posR f) (hc : os[ci]? = some (.list cus)) (hcu : All2 (Pt os) cus parts) (hcl : cus.length < lim) {m0 : Nat} :
    ∀ (ps : List R) (j : Nat) (racc : List R) (rus : List V) (cnt : Nat) (vs : Nat → Option V) (os1 : List O) (ri : Nat) (res : List R × Nat), Ext os os1 → parts.drop j = ps → (∀ p ∈ ps, posR p ∧ okR p) → goP (restsF k N) l ps = some res → vs 96 = some (.int ((k % 6 : Nat) : Int)) → vs 146 = some (.obj lj) → vs 148 = some (.obj ri) → vs 76 = some (.int (cnt : Nat)) → os1[ri]? = some (.list rus) → All2 (Pt os1) rus racc → (racc ++ res.1).length < lim → m0 ≤ ri → m0 ≤ os1.length →
      ∃ vs' os' ri' rus', ForGo (cx q) (n + N + 2) (scp (st 57)) rsT rsB (.live ci) ps.length j ⟨vs, os1⟩ .nxt ⟨vs', os'⟩ ∧ Ext os1 os' ∧ vs' 146 = some (.obj lj) ∧ vs' 148 = some (.obj ri') ∧ vs' 76 = some (.int ((cnt + res.2 : Nat) : Int)) ∧ os'[ri']? = some (.list rus') ∧ All2 (Pt os') rus' (racc ++ res.1) ∧ m0 ≤ ri' := by
  intro ps
  induction ps with
  | nil =>
    intro j racc rus cnt vs os1 ri res x hd _ hg v96 v146 v148 v76 hr hru _ m1 _
    cases hg
    refine ⟨vs, os1, ri, rus, .done (x _ _ hc) ?_, .refl, v146, v148, v76, hr, by rw [List.append_nil]; exact hru, m1⟩
    rw [hcu.len]
    exact Nat.le_of_sub_eq_zero (List.length_drop.symm.trans (congrArg List.length hd))
  | cons p ps ihp =>
    intro j racc rus cnt vs os1 ri res x hd hps hg v96 v146 v148 v76 hr hru hlim m1 m2
    obtain ⟨r1, r2, g1, g2, rfl⟩ := goP_cons hg
    have hj : parts[j]? = some p := by
      have := congrArg (fun l => l[0]?) hd
      rwa [List.getElem?_drop] at this
    have hd2 : parts.drop (j + 1) = ps := by rw [← List.drop_drop, hd]; rfl
    obtain ⟨v, hv, qj, rfl, hq⟩ := hcu.get hj
    -- laid[1:]
    have hl1 := x _ _ hl
    have hlu1 : All2 (Pt os1) lus (f0 :: l) := hlu.mono fun _ _ => Pt.ext x
    have hdrop : All2 (Pt os1) (lus.drop 1) l := by
      cases hlu1 with
      | cons _ h => exact h
    have lsz : lus.length < lim := by rw [hlu1.len]; exact hll
    generalize hos2 : os1 ++ [O.list (lus.drop 1)] = os2
    have x2 : Ext os1 os2 := hos2 ▸ Ext.app
    have hs2 : os2[os1.length]? = some (.list (lus.drop 1)) := hos2 ▸ get_end
    obtain ⟨os3, ius, go, hi3, hiu3, x3⟩ := inside_run (n := n + N + 1) X hs2 (hdrop.mono fun _ _ => Pt.ext x2) (Nat.lt_of_succ_lt hll) (x2 _ _ (x _ _ hq))
    have x13 := x2.trans x3
    have fl := List.length_filter_le (fun y => withinB y p) l
    rw [List.length_append, List.length_append] at hlim
    have hlim' := ar30 hlim
    obtain ⟨os4, fi, fus, rec, hf4, hfu4, x4, _⟩ := ih g1 (hps p (.head _)).1 (fun f h => hpos f (List.mem_filter.mp h).1) (hps p (.head _)).2 (x3 _ _ (x2 _ _ (x _ _ hq))) hi3 hiu3 (Nat.lt_of_le_of_lt fl (Nat.lt_of_succ_lt hll)) hlim'.1
    have x14 := x13.trans x4
    have hr4 := x14 _ _ hr
    have hru4 : All2 (Pt os4) rus racc := hru.mono fun _ _ => Pt.ext x14
    generalize hos5 : os4 ++ [O.list (rus ++ fus)] = os5
    have x5 : Ext os4 os5 := hos5 ▸ Ext.app
    have hr5 : os5[os4.length]? = some (.list (rus ++ fus)) := hos5 ▸ get_end
    have x15 := x14.trans x5
    have il : ius.length = (l.filter fun y => withinB y p).length := hiu3.len
    have hi4 := x5 _ _ (x4 _ _ hi3)
    generalize hvs2 : upd (upd (upd (upd (upd vs 103 (.obj qj)) 149 (.obj os2.length)) 121 (.obj fi)) 148 (.obj os4.length)) 76 (.int ((cnt + ius.length : Nat) : Int)) = vs2
    obtain ⟨vs', os', ri', rus', G, x6, w146, w148, w76, hr', hru', m3⟩ := ihp (j + 1) (racc ++ r1) (rus ++ fus) (cnt + ius.length) vs2 os5 os4.length r2 (x.trans x15) hd2 (fun p h => hps p (.tail _ h)) g2 (hvs2 ▸ v96) (hvs2 ▸ v146) (hvs2 ▸ rfl) (hvs2 ▸ rfl) hr5 ((hru4.app hfu4).mono fun _ _ => Pt.ext x5) (by rw [List.append_assoc, List.length_append, List.length_append]; exact hlim) (Nat.le_trans m2 x14.len) (Nat.le_trans m2 x15.len)
    refine ⟨vs', os', ri', rus', .step (x _ _ hc) hv (.name 103 rfl rfl) ?_ G, x15.trans x6, w146, w148, ?_, hr', by rw [List.append_assoc] at hru'; exact hru', m3⟩
    · rw [← hvs2, ← hos5]
      subst hos2
      exact (b_cons (s_comp 149 rfl rfl (inSc_of rfl) (e_slcL (e_loc X.g 146 rfl rfl v146) e_int hl1 lsz) (.list hs2) (seen_of rfl fun p hp => by cases List.mem_singleton.mp hp; rfl) go)
        (b_cons (s_asg 121 rfl rfl (e_call X.g (e_glob X.g 143 rfl rfl rfl) (a_pos rfl (l_cons (e_loc X.g 96 rfl rfl v96) (l_cons (e_loc X.g 103 rfl rfl rfl) (l_cons (e_loc X.g 149 rfl rfl rfl) l_nil)))) rfl (f_top rec)))
        (b_cons (s_ifF (t_cmp (e_loc X.g 121 rfl rfl rfl) e_none (c_is rfl)) rfl b_nil)
        (b_cons (s_asg 148 rfl rfl (e_addL (e_loc X.g 148 rfl rfl v148) (e_loc X.g 121 rfl rfl rfl) hr4 hf4 (by rw [List.length_append, hru4.len, hfu4.len]; exact hlim'.2)))
        (b_cons (s_asg 76 rfl rfl (e_of (e_add (e_loc X.g 76 rfl rfl v76) (e_call X.g (e_glob X.g 126 rfl rfl rfl) (a_pos rfl (l_cons (e_loc X.g 149 rfl rfl rfl) l_nil)) rfl (f_len (hos5 ▸ hi4) (il ▸ Nat.lt_of_le_of_lt fl (Nat.lt_of_succ_lt hll))))) (congrArg V.int (Int.natCast_add ..).symm))) b_nil)))))
    · rw [w76, il, Nat.add_assoc]
end
end Rw
namespace Rw
open PySem PySem.W PySem.Calls PyProof.Rows
theorem c_neI {c : Cx} {os : List O} {i j : Nat} {ns ms : List Int} (h1 : os[i]? = some (.tup (ns.map .int))) (h2 : os[j]? = some (.tup (ms.map .int))) (s1 : SeqAt.shaped (.tuple (ns.map .int)) = true) (s2 : SeqAt.shaped (.tuple (ms.map .int)) = true) : CmpJ c .NotEq os (.obj i) (.obj j) (!(ns == ms)) := by
  have := c_neD (c := c) (Dat.ints h1 rfl) (Dat.ints h2 rfl) s1 s2
  rw [show PyData.eqv (.tuple (ns.map .int)) (.tuple (ms.map .int)) = (ns == ms) from eqv_ints] at this
  exact this
section
variable {q : Pm} {n k : Nat}
theorem rests_leaf (X : Ok q) {m : Nat} {p : R} {os : List O} {pj lj : Nat} {rv : V} (hp : os[pj]? = some (.tup (partL p))) (hl : os[lj]? = some (.list [])) :
    EvC (cx q) (m + 1) 1430 [rv, .obj pj, .obj lj] [] os (.obj (os.length + 1)) ((os ++ [.list []]) ++ [.list [.obj pj]]) := by
  have e : (os ++ [O.list []]).length = os.length + 1 := by rw [List.length_append]; rfl
  exact e ▸ c_fn X.g (X.fn 45 rfl rfl) rfl (bind3 fun _ _ _ => rfl) (b_ret (s_ifT (t_of (t_cmp (e_loc X.g 146 rfl rfl rfl) (e_list l_nil (show 0 < lim by decide)) (c_nil (ds := []) (.list (l := []) (get_app hl) rfl fun _ _ _ h => nomatch h) rfl get_end)) rfl) rfl (b_ret (s_ret (e_list (l_cons (e_loc X.g 145 rfl rfl rfl) l_nil) (show 1 < lim by decide)))))) (.inl rfl)
theorem rests_node (X : Ok q) {N : Nat} (ih : RunsTo q n k N) {p f : R} {l r : List R} {os : List O} {pj lj : Nat} {us : List V} (h : restsF k (N + 1) p (f :: l) = some r) (hpp : posR p) (hpos : ∀ x ∈ f :: l, posR x) (ok : okR p) (hp : os[pj]? = some (.tup (partL p))) (hl : os[lj]? = some (.list us)) (hlu : All2 (Pt os) us (f :: l)) (hll : (f :: l).length < lim) (hrl : r.length < lim) :
    ∃ os' i us', EvC (cx q) (n + (N + 1) + 2) 1430 [.int ((k % 6 : Nat) : Int), .obj pj, .obj lj] [] os (.obj i) os' ∧ os'[i]? = some (.list us') ∧ All2 (Pt os') us' r ∧ Ext os os' ∧ os.length ≤ i := by
  obtain ⟨⟨h1, h2, h3⟩, h4⟩ := rests_cons h
  have hf := hpos f (.head _)
  have h3' := wi_iff.mp h3
  obtain ⟨fw, fh⟩ := wi_le h1 h2 h3'
  have ec := cut_split (k := k) hpp.1 hpp.2 hf.1 hf.2 fw fh
  have hcl : (cutL (k % 6) p f.w f.h).length ≤ 2 := by rw [ec]; exact news_len
  have hps : ∀ x ∈ cutL (k % 6) p f.w f.h, posR x ∧ okR x := fun x hx => by
    rw [ec] at hx
    exact ⟨(part_in hpp hf.1 hf.2 fw fh x hx).1, splitL_ok ok hf.1 hf.2 fw fh x hx⟩
  have sw : small f.w := small_mono (ar10 hf.1 fw) ok.1
  have sh : small f.h := small_mono (ar10 hf.2 fh) ok.2
  obtain ⟨v0, hv0, fj, rfl, hfj⟩ := hlu.get (j := 0) (b := f) rfl
  have lsz : us.length < lim := by rw [hlu.len]; exact hll
  generalize hos1 : os ++ [O.list []] = os1
  have x1 : Ext os os1 := hos1 ▸ Ext.app
  have hlu1 : All2 (Pt os1) us (f :: l) := hlu.mono fun _ _ => Pt.ext x1
  generalize hos2 : os1 ++ [O.tup [V.int f.x, V.int f.y]] = os2
  have x2 : Ext os1 os2 := hos2 ▸ Ext.app
  have t2 : os2[os1.length]? = some (.tup [V.int f.x, V.int f.y]) := hos2 ▸ get_end
  generalize hos3 : os2 ++ [O.tup [V.int p.x, V.int p.y]] = os3
  have x3 : Ext os2 os3 := hos3 ▸ Ext.app
  have t3 : os3[os2.length]? = some (.tup [V.int p.x, V.int p.y]) := hos3 ▸ get_end
  generalize hos4 : os3 ++ [O.list []] = os4
  have x4 : Ext os3 os4 := hos4 ▸ Ext.app
  have t4 : os4[os3.length]? = some (.list []) := hos4 ▸ get_end
  have x14 : Ext os os4 := ((x1.trans x2).trans x3).trans x4
  obtain ⟨ci, os5, cus, cut, hc5, hcu5, x5, _⟩ := cut_run (n := n + N + 1) (r := k % 6) (os := os4) (o := p) (a := f.w) (b := f.h) X (Nat.mod_lt _ (by decide)) (x14 _ _ hp) ok.1 ok.2 sw sh (small_sub (Int.le_of_lt hf.1) fw ok.1) (small_sub (Int.le_of_lt hf.2) fh ok.2)
  have x15 := x14.trans x5
  generalize hvs : upd (upd (upd (varsOf [(96, V.int ((k % 6 : Nat) : Int)), (145, .obj pj), (146, .obj lj)]) 147 (.obj fj)) 148 (.obj os3.length)) 76 (.int ((1 : Nat) : Int)) = vs5
  obtain ⟨vs', os', ri', rus', G, x6, w146, w148, w76, hr', hru', m3⟩ := rests_go (n := n) (m0 := os.length) X ih (x15 _ _ hl) (hlu.mono fun _ _ => Pt.ext x15) hll (fun x hx => hpos x (.tail _ hx)) hc5 hcu5 (by rw [hcu5.len]; exact Nat.lt_of_le_of_lt hcl (by decide)) (cutL (k % 6) p f.w f.h) 0 [] [] 1 vs5 os5 os3.length _ .refl rfl hps h4 (hvs ▸ rfl) (hvs ▸ rfl) (hvs ▸ rfl) (hvs ▸ rfl) (x5 _ _ t4) .nil hrl ((x1.trans x2).trans x3).len x15.len
  have x16 := x15.trans x6
  have G' : ForGo (cx q) (n + N + 2) (scp (st 57)) rsT rsB (.live ci) (cutL (k % 6) p f.w f.h).length 0 ⟨vs5, os5⟩ .nxt ⟨vs', os'⟩ := G
  refine ⟨os', ri', rus', ?_, hr', hru', x16, m3⟩
  have hlen : us.length = l.length + 1 := hlu.len
  have tst0 : EvT (cx q) (n + N + 2) (scp (st 57)) (exE (bdy (st 57)) 0) ⟨varsOf [(96, V.int ((k % 6 : Nat) : Int)), (145, .obj pj), (146, .obj lj)], os⟩ false ⟨varsOf [(96, V.int ((k % 6 : Nat) : Int)), (145, .obj pj), (146, .obj lj)], os1⟩ := by
    subst hos1
    exact t_of (t_cmp (e_loc X.g 146 rfl rfl rfl) (e_list l_nil (show 0 < lim by decide)) (c_nil (dat_parts (get_app hl) hlu1) sh_parts.1 get_end)) rfl
  have hfj3 := x3 _ _ (x2 _ _ (x1 _ _ hfj))
  have hp3 := x3 _ _ (x2 _ _ (x1 _ _ hp))
  have tst2 : EvT (cx q) (n + N + 2) (scp (st 57)) (exE (bdy (st 57)) 2) ⟨upd (varsOf [(96, V.int ((k % 6 : Nat) : Int)), (145, .obj pj), (146, .obj lj)]) 147 (.obj fj), os1⟩ false ⟨upd (varsOf [(96, V.int ((k % 6 : Nat) : Int)), (145, .obj pj), (146, .obj lj)]) 147 (.obj fj), os3⟩ := by
    have c1 : CmpJ (cx q) .NotEq os3 (.obj os1.length) (.obj os2.length) false := by
      have := c_neI (c := cx q) (ns := [f.x, f.y]) (ms := [p.x, p.y]) (x3 _ _ t2) t3 rfl rfl
      rw [h1, h2, beq_self_eq_true] at this
      exact this
    have hfj1 := x1 _ _ hfj
    have hp2 := x2 _ _ (x1 _ _ hp)
    subst hos3 hos2
    exact t_orF (t_cmp (e_tup (l_cons (e_itemT (e_loc X.g 147 rfl rfl rfl) (e_int (i := (0 : Nat))) hfj1 (show 4 < lim by decide) rfl) (l_cons (e_itemT (e_loc X.g 147 rfl rfl rfl) (e_int (i := (1 : Nat))) hfj1 (show 4 < lim by decide) rfl) l_nil)) (show 2 < lim by decide)) (e_tup (l_cons (e_itemT (e_loc X.g 145 rfl rfl rfl) (e_int (i := (0 : Nat))) hp2 (show 4 < lim by decide) rfl) (l_cons (e_itemT (e_loc X.g 145 rfl rfl rfl) (e_int (i := (1 : Nat))) hp2 (show 4 < lim by decide) rfl) l_nil)) (show 2 < lim by decide)) c1)
      (t_orF (t_of (t_not (t_call (e_call X.g (e_glob X.g 142 rfl rfl rfl) (a_pos rfl (l_cons (e_loc X.g 147 rfl rfl rfl) (l_cons (e_loc X.g 145 rfl rfl rfl) l_nil))) rfl (f_top (within_run X hfj3 hp3))) tr_bool)) (by rw [h3]; rfl)) t_or0)
  have hfj4 := x4 _ _ hfj3
  subst hvs hos4
  exact c_fn X.g (X.fn 45 rfl rfl) rfl (bind3 fun _ _ _ => rfl) (b_cons (s_ifF tst0 rfl b_nil)
    (b_cons (s_asg 147 rfl rfl (e_item (e_loc X.g 146 rfl rfl rfl) (e_int (i := (0 : Nat))) (x1 _ _ hl) lsz hv0))
    (b_cons (s_ifF tst2 rfl b_nil)
    (b_cons (s_asg 148 rfl rfl (e_list l_nil (show 0 < lim by decide)))
    (b_cons (s_asg 76 rfl rfl e_int)
    (b_cons (s_for (e_call X.g (e_glob X.g 141 rfl rfl rfl) (a_pos rfl (l_cons (e_loc X.g 96 rfl rfl rfl) (l_cons (e_loc X.g 145 rfl rfl rfl) (l_cons (e_itemT (e_loc X.g 147 rfl rfl rfl) (e_int (i := (2 : Nat))) hfj4 (show 4 < lim by decide) rfl) (l_cons (e_itemT (e_loc X.g 147 rfl rfl rfl) (e_int (i := (3 : Nat))) hfj4 (show 4 < lim by decide) rfl) l_nil))))) rfl (f_top cut)) (.list hc5) G')
    (b_ret (s_ret (e_if (t := true) (t_of (t_cmp (e_loc X.g 76 rfl rfl w76) (e_call X.g (e_glob X.g 126 rfl rfl rfl) (a_pos rfl (l_cons (e_loc X.g 146 rfl rfl w146) l_nil)) rfl (f_len (x16 _ _ hl) lsz)) c_eq) (by rw [hlen, Nat.add_comm 1]; exact beq_self_eq_true _)) (e_loc X.g 148 rfl rfl w148))))))))))  (.inl rfl)
theorem rests_run (X : Ok q) : ∀ N, RunsTo q n k N := by
  intro N
  induction N with
  | zero =>
    intro p l r os pj lj us h hp hpos ok hpj hlj hlu hll hrl
    cases l with
    | cons f l => cases h
    | nil =>
      rw [restsF_nil] at h; cases h
      cases hlu
      exact ⟨_, _, _, rests_leaf X hpj hlj, (by rw [List.append_assoc]; exact get_end1), .cons ⟨pj, rfl, get_app (get_app hpj)⟩ .nil, Ext.app.trans Ext.app, Nat.le_succ _⟩
  | succ N ih =>
    intro p l r os pj lj us h hp hpos ok hpj hlj hlu hll hrl
    cases l with
    | cons f l => exact rests_node X ih h hp hpos ok hpj hlj hlu hll hrl
    | nil =>
      rw [restsF_nil] at h; cases h
      cases hlu
      exact ⟨_, _, _, rests_leaf X hpj hlj, (by rw [List.append_assoc]; exact get_end1), .cons ⟨pj, rfl, get_app (get_app hpj)⟩ .nil, Ext.app.trans Ext.app, Nat.le_succ _⟩
end
end Rw
namespace Rw
open PySem PySem.W PySem.Calls PyProof.Rows
structure Lay (k : Nat) (W H : Int) (m : Nat) (secs : List R) (rects : List (R × Int)) : Prop where
  rs : ∃ r, restsF k m ⟨0, 0, W, H⟩ (rects.map (·.1)) = some r ∧ r.Perm secs
  pos : ∀ p ∈ rects, posR p.1
  sm : ∀ p ∈ rects, okR p.1
  ar : areas secs + areas (rects.map (·.1)) = W * H
theorem Lay.next {k : Nat} {W H : Int} {m : Nat} {secs : List R} {rects : List (R × Int)} (L : Lay k W H m secs rects) : Lay k W H (m + 1) secs rects :=
  ⟨let ⟨r, h1, h2⟩ := L.rs; ⟨r, rests_mono h1, h2⟩, L.pos, L.sm, L.ar⟩
theorem ar11 {a s r z u : Int} (h : a + r = z) : a - s + (s - u) + (r + u) = z := by omega
theorem Lay.add {k : Nat} {W H : Int} {m : Nat} {secs : List R} {rects : List (R × Int)} (L : Lay k W H m secs rects) (hW : 0 < W) (hH : 0 < H) {s g : R} (hs : s ∈ secs) (hg : Sits g s) (ok : okR s) {z : Int} : Lay k W H (m + 1) (secs.erase s ++ splitL k s g.w g.h) (rects ++ [(g, z)]) := by
  obtain ⟨r, h1, h2⟩ := L.rs
  obtain ⟨r', k1, k2⟩ := rests_add hg h1 ⟨hW, hH⟩ (fun f hf => by obtain ⟨p, hp, rfl⟩ := List.mem_map.mp hf; exact L.pos p hp) (h2.mem_iff.mpr hs)
  refine ⟨⟨r', by rw [List.map_append]; exact k1, k2.trans ((h2.erase s).append_right _)⟩, fun p hp => ?_, fun p hp => ?_, ?_⟩
  · rcases List.mem_append.mp hp with h | h
    · exact L.pos p h
    · rw [List.mem_singleton.mp h]; exact hg.p
  · rcases List.mem_append.mp hp with h | h
    · exact L.sm p h
    · rw [List.mem_singleton.mp h]
      exact ⟨small_mono (ar10 hg.p.1 hg.w) ok.1, small_mono (ar10 hg.p.2 hg.h) ok.2⟩
  · rw [List.map_append, areas_app, areas_app, areas_erase hs, split_area hg.w hg.h]
    have e : areas ([(g, z)].map (·.1)) = g.w * g.h := by unfold areas area; simp
    rw [e]; exact ar11 L.ar
theorem bif_of {P : Int → Prop} {r : Bool} {a b : Int} (h1 : P a) (h2 : P b) : P (bif r then a else b) := by cases r <;> assumption
theorem pick_sits {k : Nat} {t : Bool} {w h : Int} {secs : List R} {f : Int} {s : R} {rot : Bool} (hw : 0 < w) (hh : 0 < h) (e : pick k t w h secs = some (f, s, rot)) : s ∈ secs ∧ Sits ⟨s.x, s.y, bif rot then h else w, bif rot then w else h⟩ s := by
  obtain ⟨h1, _, h3⟩ := pick_mem e
  obtain ⟨g1, g2⟩ := fitF_le h3
  exact ⟨h1, rfl, rfl, ⟨bif_of (P := fun z => 0 < z) hh hw, bif_of (P := fun z => 0 < z) hw hh⟩, g1, g2⟩
noncomputable def lwB (i : Nat) : List Stmt := forB (bdy (st 58)) i
noncomputable def lwT (i : Nat) : Expr := forT (bdy (st 58)) i
inductive St1 (os : List O) (nums : List Int) (k : Nat) (W H : Int) (t : Bool) (ni b ri se m : Nat) : Prop
  | mk {ss secs rs rects} : os[ni]? = some (.list (nums.map .int)) → ni ∉ [se, ri] → Bin os b k W H t ri se ss secs rs (rid rects) → ss.length ≤ 2 * m + 1 → rs.length ≤ m → Lay k W H m secs rects → St1 os nums k W H t ni b ri se m
theorem ar14 {a b m : Nat} (h1 : a ≤ 2 * m + 1) (h2 : b ≤ m) (hm : m < 50) : 2 * a + 14 < 500 ∧ b + 12 < 500 := by omega
theorem ar12 {n r j : Nat} (h : j + (r + 1) = n / 2) : 2 * j + 1 < n ∧ j + 1 + r = n / 2 ∧ j < n / 2 := by omega
section
variable {q : Pm} {os : List O} {vs : Nat → Option V} {nums : List Int} {n b k ri se ni m : Nat} {W H most : Int} {t : Bool}
theorem turn1 (X : Ok q) (S : St1 os nums k W H t ni b ri se m) (hm50 : m < 50) (v109 : vs 109 = some (.obj ni)) (v152 : vs 152 = some (.obj b)) (v89 : vs 89 = some (.int most)) {k0 : Nat} {a0 a1 : Int} (h0 : nums[k0]? = some a0) (h1 : nums[k0 + 1]? = some a1) (hl : nums.length < lim) (hm : 0 ≤ most) (hw : 0 < sideL a0 most) (hh : 0 < sideL a1 most) (bw : small (sideL a0 most)) (bh : small (sideL a1 most)) (hW : 0 < W) (hH : 0 < H) :
    ∃ os', EvB (cx q) (n + 30) (scp (st 58)) (lwB 9) ⟨upd vs 87 (.int (k0 : Nat)), os⟩ .nxt ⟨upd vs 87 (.int (k0 : Nat)), os'⟩ ∧ St1 os' nums k W H t ni b ri se (m + 1) := by
  obtain ⟨hn, nni, B, hs1, hs2, L⟩ := S
  rename_i ss secs rs rects
  obtain ⟨si, hb⟩ := B.hb
  have hk := B.hk
  have hl2 : (nums.map V.int).length < lim := by rw [List.length_map]; exact hl
  have g0 : (nums.map V.int)[k0]? = some (.int a0) := by rw [List.getElem?_map, h0]; rfl
  have g1 : (nums.map V.int)[k0 + 1]? = some (.int a1) := by rw [List.getElem?_map, h1]; rfl
  have lb : (500 : Nat) < lim := by decide
  have body : ∀ {v : V} {os' : List O}, EvC (cx q) (n + 30) 470 [.obj b, .int (sideL a0 most), .int (sideL a1 most), .int (k0 : Nat)] [] os v os' → EvB (cx q) (n + 30) (scp (st 58)) (lwB 9) ⟨upd vs 87 (.int (k0 : Nat)), os⟩ .nxt ⟨upd vs 87 (.int (k0 : Nat)), os'⟩ := fun r =>
    b_cons (s_expr (e_meth X.g 117 (e_loc X.g 152 rfl rfl v152) rfl hb (at_k hk rfl) rfl rfl (a_pos rfl (l_cons (e_call X.g (e_glob X.g 139 rfl rfl rfl) (a_pos rfl (l_cons (e_item (e_loc X.g 109 rfl rfl v109) (e_loc X.g 87 rfl rfl rfl) hn hl2 g0) (l_cons (e_loc X.g 89 rfl rfl v89) l_nil))) rfl (f_top (side_run X hm))) (l_cons (e_call X.g (e_glob X.g 139 rfl rfl rfl) (a_pos rfl (l_cons (e_item (e_loc X.g 109 rfl rfl v109) (e_of (e_add (e_loc X.g 87 rfl rfl rfl) e_int) (show V.int ((k0 : Nat) + 1) = .int ((k0 + 1 : Nat) : Int) from rfl)) hn hl2 g1) (l_cons (e_loc X.g 89 rfl rfl v89) l_nil))) rfl (f_top (side_run X hm))) (l_cons (e_loc X.g 87 rfl rfl rfl) l_nil)))) r rfl)) b_nil
  generalize sideL a0 most = w at *
  generalize sideL a1 most = h at *
  cases hp : pick k t w h secs with
  | none =>
    have hc : bestF none (cands k t w h ss secs) = none := by
      have e := cands_R (k := k) (t := t) (w := w) (h := h) B.sec.len
      rw [hp] at e
      exact Option.map_eq_none_iff.mp e
    obtain ⟨ext, r⟩ := add_none (n := n + 24) (rid := .int (k0 : Nat)) X B.toBin0 hw hh bw bh hc
    exact ⟨_, body r, get_app hn, nni, B.app, Nat.le_trans hs1 (Nat.le_add_right _ 2), Nat.le_succ_of_le hs2, L.next⟩
  | some c =>
    obtain ⟨f, s, rot⟩ := c
    obtain ⟨hsm, sits⟩ := pick_sits hw hh hp
    obtain ⟨os', idx, ss', r, B', fr, _, hss, _⟩ := add_pick (n := n + 24) (rid := .int (k0 : Nat)) X B hw hh bw bh hp (Nat.lt_trans (ar14 hs1 hs2 hm50).1 lb) (Nat.lt_trans (ar14 hs1 hs2 hm50).2 lb)
    have er : ∀ g : R, rid rects ++ [(g, V.int (k0 : Nat))] = rid (rects ++ [(g, ((k0 : Nat) : Int))]) := fun g => by unfold rid; rw [List.map_append]; rfl
    rw [er] at B'
    exact ⟨_, body r, fr.2 _ _ hn (fun e => nni (e ▸ .head _)) (fun e => nni (e ▸ .tail _ (.head _))), nni, B', Nat.le_trans hss (Nat.add_le_add_right hs1 2), by rw [List.length_append]; exact Nat.succ_le_succ hs2, L.add hW hH hsm sits (B.ok s hsm)⟩
theorem loop1 (X : Ok q) (hl : nums.length < 100) (hW : 0 < W) (hH : 0 < H) (hm : 0 ≤ most) (bm : small (most + 1)) :
    ∀ (r j : Nat) (vs : Nat → Option V) (os : List O), j + r = nums.length / 2 → vs 109 = some (.obj ni) → vs 152 = some (.obj b) → vs 89 = some (.int most) → St1 os nums k W H t ni b ri se j → ∃ vs' os', ForGo (cx q) (n + 30) (scp (st 58)) (lwT 9) (lwB 9) (.fix (rngL 0 ((nums.length : Nat) - 1) 2)) r j ⟨vs, os⟩ .nxt ⟨vs', os'⟩ ∧ St1 os' nums k W H t ni b ri se (nums.length / 2) ∧ ∀ x, x ≠ 87 → vs' x = vs x := by
  intro r
  induction r with
  | zero =>
    intro j vs os hj _ _ _ S
    have e : j = nums.length / 2 := hj
    exact ⟨vs, os, .done rfl (by rw [rng2, List.length_map, List.length_range]; exact Nat.le_of_eq e.symm), e ▸ S, fun _ _ => rfl⟩
  | succ r ih =>
    intro j vs os hj v1 v2 v3 S
    obtain ⟨z1, z2, z3⟩ := ar12 hj
    have h0 : nums[2 * j]? = some nums[2 * j] := List.getElem?_eq_getElem (Nat.lt_of_succ_lt z1)
    have h1 : nums[2 * j + 1]? = some nums[2 * j + 1] := List.getElem?_eq_getElem z1
    have hw := side_pos (a := nums[2 * j]) hm
    have hh := side_pos (a := nums[2 * j + 1]) hm
    have bw : small (sideL nums[2 * j] most) := small_mono (ar10 hw.1 hw.2) bm
    have bh : small (sideL nums[2 * j + 1] most) := small_mono (ar10 hh.1 hh.2) bm
    obtain ⟨os1, g, S1⟩ := turn1 (n := n) X S (Nat.lt_of_lt_of_le z3 (Nat.div_le_of_le_mul (Nat.le_of_lt hl))) v1 v2 v3 h0 h1 (Nat.lt_trans hl (by decide)) hm hw.1 hh.1 bw bh hW hH
    obtain ⟨vs', os', g', S', e'⟩ := ih (j + 1) (upd vs 87 (.int ((2 * j : Nat) : Int))) os1 z2 v1 v2 v3 S1
    refine ⟨vs', os', .step rfl (by rw [rng2, List.getElem?_map, List.getElem?_eq_getElem (by rw [List.length_range]; exact z3), List.getElem_range]; rfl) (.name 87 rfl rfl) g g', S', fun x hx => (e' x hx).trans (if_neg hx)⟩
end
end Rw
namespace Rw
open PySem PySem.W PySem.Calls PyProof.Rows
structure Ev2 (vs : Nat → Option V) (t : Bool) (o size b xi fi ro : Nat) : Prop where
  v94 : vs 94 = some (.bool t)
  v150 : vs 150 = some (.int (o : Nat))
  v152 : vs 152 = some (.obj b)
  v148 : vs 148 = some (.obj xi)
  v154 : vs 154 = some (.int (size : Nat))
  v155 : vs 155 = some (.obj fi)
  v113 : vs 113 = some (.obj ro)
noncomputable def Kn (vs vs' : Nat → Option V) : Prop := ∀ x, x ∉ [5, 6, 29, 30, 115, 157, 125] → vs' x = vs x
theorem Kn.upd {vs vs' : Nat → Option V} (h : Kn vs vs') {i : Nat} {v : V} (hi : i ∈ [5, 6, 29, 30, 115, 157, 125]) : Kn vs (upd vs' i v) := fun x hx => (if_neg fun e : x = i => hx (e ▸ hi)).trans (h x hx)
theorem Ev2.of {vs vs' : Nat → Option V} {t : Bool} {o size b xi fi ro : Nat} (E : Ev2 vs t o size b xi fi ro) (h : Kn vs vs') : Ev2 vs' t o size b xi fi ro :=
  ⟨(h _ (by decide)).trans E.v94, (h _ (by decide)).trans E.v150, (h _ (by decide)).trans E.v152, (h _ (by decide)).trans E.v148, (h _ (by decide)).trans E.v154, (h _ (by decide)).trans E.v155, (h _ (by decide)).trans E.v113⟩
theorem Pt.chg {os os' : List O} {Y : List Nat} (c : Chg os os' Y) {v : V} {p : R} (h : Pt os v p) : Pt os' v p := let ⟨t, h1, h2⟩ := h; ⟨t, h1, c.no h2 fun _ h => nomatch h⟩
section
variable {q : Pm} {os : List O} {vs : Nat → Option V} {n b k ri se ni m xi fi ro o size j : Nat} {W H : Int} {t : Bool} {xus fus : List V} {rests free : List R} {w h : Int} {r0 s : R}
theorem two_eq : (Int.fmod (o : Int) 2 == 0) = (o % 2 == 0) := by
  have : Int.fmod (o : Int) 2 = ((o % 2 : Nat) : Int) := by rw [Int.fmod_eq_emod_of_nonneg _ (by decide)]; rfl
  rw [this, Bool.eq_iff_iff, beq_iff_eq, beq_iff_eq]
  omega
theorem idx_int (hs : 0 < size) : (bif o % 2 == 0 then V.int (Int.fmod ((o : Int) + j) size) else V.int (Int.fmod ((o : Int) - j) size)) = V.int ((idxF o size j : Nat) : Int) := by
  have h1 : 0 ≤ Int.fmod ((o : Int) + j) size := Int.fmod_nonneg_of_pos _ (by omega)
  have h2 : 0 ≤ Int.fmod ((o : Int) - j) size := Int.fmod_nonneg_of_pos _ (by omega)
  unfold idxF
  cases o % 2 == 0
  · exact congrArg V.int (Int.toNat_of_nonneg h2).symm
  · exact congrArg V.int (Int.toNat_of_nonneg h1).symm
theorem head2 (X : Ok q) (E : Ev2 vs t o size b xi fi ro) (hx : os[xi]? = some (.list xus)) (hxu : All2 (Pt os) xus rests) (hsz : rests.length = size) (hl : size < lim) (hj : j < size) (hr0 : rests[idxF o size j]? = some r0) :
    ∃ vs1 os1 w h, (∀ fl σ', EvB (cx q) (n + 30) (scp (st 58)) ((lwB 15).drop 2) ⟨vs1, os1⟩ fl σ' → EvB (cx q) (n + 30) (scp (st 58)) (lwB 15) ⟨upd vs 125 (.int (j : Nat)), os⟩ fl σ') ∧ Ext os os1 ∧ vs1 29 = some (.int w) ∧ vs1 30 = some (.int h) ∧ ((w = r0.w ∧ h = r0.h) ∨ (t = true ∧ w = r0.h ∧ h = r0.w)) ∧ Kn vs vs1 := by
  obtain ⟨v, hv, tp, rfl, ht⟩ := hxu.get hr0
  have hs : 0 < size := by omega
  have ix : EvE (cx q) (n + 30) (scp (st 58)) (prt (exE (lwB 15) 0) 0) ⟨upd vs 125 (.int (j : Nat)), os⟩ (.int ((idxF o size j : Nat) : Int)) ⟨upd vs 125 (.int (j : Nat)), os⟩ := by
    have tst : EvT (cx q) (n + 30) (scp (st 58)) (prt (prt (exE (lwB 15) 0) 0) 0) ⟨upd vs 125 (.int (j : Nat)), os⟩ (o % 2 == 0) ⟨upd vs 125 (.int (j : Nat)), os⟩ := t_of (t_cmp (e_bin (e_loc X.g 150 rfl rfl E.v150) e_int (b_mod (by decide))) e_int c_eq) two_eq
    have e := idx_int (o := o) (j := j) hs
    cases hc : o % 2 == 0 with
    | true =>
      rw [hc] at tst e
      exact e_of (e_if (t := true) tst (e_bin (e_add (e_loc X.g 150 rfl rfl E.v150) (e_loc X.g 125 rfl rfl rfl)) (e_loc X.g 154 rfl rfl E.v154) (b_mod (by omega)))) e
    | false =>
      rw [hc] at tst e
      exact e_of (e_if (t := false) tst (e_bin (e_sub (e_loc X.g 150 rfl rfl E.v150) (e_loc X.g 125 rfl rfl rfl)) (e_loc X.g 154 rfl rfl E.v154) (b_mod (by omega)))) e
  generalize hvs1 : ([5, 6, 29, 30].zip (partL r0)).foldl (fun f p => upd f p.1 p.2) (upd vs 125 (.int (j : Nat))) = vs1
  have K1 : Kn vs vs1 := hvs1 ▸ ((((Kn.upd (i := 125) (fun _ _ => rfl) (by decide)).upd (i := 5) (by decide)).upd (i := 6) (by decide)).upd (i := 29) (by decide)).upd (i := 30) (by decide)
  have E1 := E.of K1
  have w1 : vs1 29 = some (.int r0.w) := hvs1 ▸ rfl
  have h1 : vs1 30 = some (.int r0.h) := hvs1 ▸ rfl
  have j1 : vs1 125 = some (.int (j : Nat)) := hvs1 ▸ rfl
  have S0 : ∀ {fl σ'}, EvB (cx q) (n + 30) (scp (st 58)) ((lwB 15).drop 1) ⟨vs1, os⟩ fl σ' → EvB (cx q) (n + 30) (scp (st 58)) (lwB 15) ⟨upd vs 125 (.int (j : Nat)), os⟩ fl σ' := fun hr => by
    subst hvs1
    exact b_cons (s_unp (e_item (e_loc X.g 148 rfl rfl E.v148) ix hx (by rw [hxu.len, hsz]; exact hl) hv) (.tup [5, 6, 29, 30] (.cons 5 rfl rfl (.cons 6 rfl rfl (.cons 29 rfl rfl (.cons 30 rfl rfl .nil)))) ht rfl)) hr
  have tst : EvT (cx q) (n + 30) (scp (st 58)) (exE (lwB 15) 1) ⟨vs1, os⟩ (t && ((Int.fmod ((o : Nat) + (j : Nat) : Int) 3 == 1) && true)) ⟨vs1, os⟩ := t_andB (t_name (e_loc X.g 94 rfl rfl E1.v94) tr_bool) (t_andB (t_cmp (e_bin (e_add (e_loc X.g 150 rfl rfl E1.v150) (e_loc X.g 125 rfl rfl j1)) e_int (b_mod (by decide))) e_int c_eq) t_and0)
  cases hc : t && ((Int.fmod ((o : Nat) + (j : Nat) : Int) 3 == 1) && true) with
  | false =>
    rw [hc] at tst
    exact ⟨vs1, os, r0.w, r0.h, fun fl σ' hr => S0 (b_cons (s_ifF tst rfl b_nil) hr), .refl, w1, h1, .inl ⟨rfl, rfl⟩, K1⟩
  | true =>
    rw [hc] at tst
    have ht' : t = true := (Bool.and_eq_true_iff.mp hc).1
    exact ⟨upd (upd vs1 30 (.int r0.w)) 29 (.int r0.h), os ++ [O.tup [V.int r0.h, V.int r0.w]], r0.h, r0.w, fun fl σ' hr => S0 (b_cons (s_ifT tst rfl (b_cons (s_swap X.g 29 30 rfl rfl (by decide) rfl rfl rfl (e_tup (l_cons (e_loc X.g 30 rfl rfl h1) (l_cons (e_loc X.g 29 rfl rfl w1) l_nil)) (show 2 < lim by decide)) get_end) b_nil)) hr), Ext.app, rfl, rfl, .inr ⟨ht', rfl, rfl⟩, (K1.upd (i := 30) (by decide)).upd (i := 29) (by decide)⟩
theorem box_tst (X : Ok q) (E : Ev2 vs t o size b xi fi ro) {bx : Nat} (v157 : vs 157 = some (.obj bx)) (hb : os[bx]? = some (.tup (partL s))) (v29 : vs 29 = some (.int w)) (v30 : vs 30 = some (.int h)) (hf : os[fi]? = some (.list fus)) (hfu : All2 (Pt os) fus free) (hm : s ∈ free) {rot : Bool} (hw : s.w = bif rot then h else w) (hh : s.h = bif rot then w else h) (hr : rot = true → t = true) :
    ∃ os', EvT (cx q) (n + 30) (scp (st 58)) (exE (lwB 15) 6) ⟨vs, os⟩ false ⟨vs, os'⟩ ∧ Ext os os' := by
  have nin : (!(free.map partD).any fun y => PyData.eqv y (partD s)) = false := by
    rw [Bool.not_eq_false', List.any_eq_true]
    exact ⟨partD s, List.mem_map_of_mem hm, by rw [eqv_part]; exact decide_eq_true rfl⟩
  have a : EvT (cx q) (n + 30) (scp (st 58)) (prt (exE (lwB 15) 6) 0) ⟨vs, os⟩ false ⟨vs, os⟩ := t_of (t_cmp (e_loc X.g 157 rfl rfl v157) (e_loc X.g 155 rfl rfl E.v155) (c_notIn (dat_part ⟨bx, rfl, hb⟩) (dat_parts hf hfu) rfl sh_parts.2 (Nat.le_of_ble_eq_true rfl))) nin
  have sl : ∀ {os' : List O} {z1 z2 z3 z4 : Pos} {kk : Nat}, Ext os os' → EvE (cx q) (n + 30) (scp (st 58)) (.Subscript (.Name (Str.ofString "box") z1) (.Slice (some (.Constant (.int 2) kk z2)) none none z3) z4) ⟨vs, os'⟩ (.obj os'.length) ⟨vs, os' ++ [.tup [.int s.w, .int s.h]]⟩ := fun x => e_slcF (j := 2) (l := partL s) (e_loc X.g 157 rfl rfl v157) (e_int (i := (2 : Nat))) (x _ _ hb) (show 4 < lim by decide) (by decide) (show 2 ≤ 4 by decide)
  have c1 : EvT (cx q) (n + 30) (scp (st 58)) (prt (prt (exE (lwB 15) 6) 1) 0) ⟨vs, os⟩ (!([s.w, s.h] == [w, h])) ⟨vs, (os ++ [.tup [.int s.w, .int s.h]]) ++ [.tup [.int w, .int h]]⟩ :=
    t_cmp (sl .refl) (e_tup (l_cons (e_loc X.g 29 rfl rfl v29) (l_cons (e_loc X.g 30 rfl rfl v30) l_nil)) (show 2 < lim by decide)) (c_neI (ns := [s.w, s.h]) (ms := [w, h]) (get_app get_end) get_end rfl rfl)
  have x2 : Ext os ((os ++ [O.tup [V.int s.w, V.int s.h]]) ++ [O.tup [V.int w, V.int h]]) := Ext.app.trans Ext.app
  cases hc : !([s.w, s.h] == [w, h]) with
  | false =>
    rw [hc] at c1
    exact ⟨_, t_orF a (t_orF (t_andF c1) t_or0), x2⟩
  | true =>
    rw [hc] at c1
    cases rot with
    | false =>
      simp only [cond_false] at hw hh
      rw [hw, hh, beq_self_eq_true] at hc
      cases hc
    | true =>
      simp only [cond_true] at hw hh
      have ht := hr rfl
      subst ht
      generalize (os ++ [O.tup [V.int s.w, V.int s.h]]) ++ [O.tup [V.int w, V.int h]] = os2 at c1 x2
      have c2 : EvT (cx q) (n + 30) (scp (st 58)) (prt (prt (prt (exE (lwB 15) 6) 1) 1) 1) ⟨vs, os2⟩ false ⟨vs, (os2 ++ [.tup [.int s.w, .int s.h]]) ++ [.tup [.int h, .int w]]⟩ :=
        t_of (t_cmp (sl x2) (e_tup (l_cons (e_loc X.g 30 rfl rfl v30) (l_cons (e_loc X.g 29 rfl rfl v29) l_nil)) (show 2 < lim by decide)) (c_neI (ns := [s.w, s.h]) (ms := [h, w]) (get_app get_end) get_end rfl rfl)) (by rw [hw, hh, beq_self_eq_true]; rfl)
      exact ⟨_, t_orF a (t_orF (t_andT c1 (t_andF (t_orF (t_of (t_not (t_name (e_loc X.g 94 rfl rfl E.v94) tr_bool)) rfl) (t_orF c2 t_or0)))) t_or0), (x2.trans Ext.app).trans Ext.app⟩
end
end Rw
namespace Rw
open PySem PySem.W PySem.Calls PyProof.Rows
inductive St2 (os : List O) (k : Nat) (W H : Int) (t : Bool) (b ri se xi ro fi : Nat) (rests : List R) (o j : Nat) : Prop
  | mk {ss secs rs rects rows xus fus free} : Bin os b k W H t ri se ss secs rs (rid rects) → ss.length ≤ 101 + 2 * j → rs.length ≤ 50 + j → os[ro]? = some (.list rows) → Rws os rows (rid rects) → os[xi]? = some (.list xus) → All2 (Pt os) xus rests → os[fi]? = some (.list fus) → All2 (Pt os) fus free →
      free.Perm secs → (secs.map (keyR t)).Perm (((ordL o rests).drop j).map (keyR t)) → (∀ p ∈ rects, okR p.1) → areas secs + areas (rects.map (·.1)) = W * H → St2 os k W H t b ri se xi ro fi rests o j
structure Loc (se ri ro xi fi : Nat) : Prop where
  a : ∀ x ∈ [ro, xi, fi], x ∉ [se, ri]
  b : ro ≠ xi
  c : ro ≠ fi
  d : xi ≠ fi
theorem ar8 {a b j z : Nat} (h1 : a ≤ 101 + 2 * j) (h2 : b ≤ 50 + j) (hj : j < z) (hz : z ≤ 101) : 2 * a + 14 < 1000 ∧ b + 12 < 1000 := by omega
theorem ar9 {a s r z : Int} (h : a + r = z) : a - s + (r + s) = z := by omega
theorem ord_drop {o j : Nat} {rests : List R} {r0 : R} (hj : j < rests.length) (h : rests[idxF o rests.length j]? = some r0) : (ordL o rests).drop j = r0 :: (ordL o rests).drop (j + 1) := by
  have hl : j < (ordL o rests).length := by unfold ordL; rw [List.length_map, List.length_range]; exact hj
  have hg : (ordL o rests)[j]? = some r0 := by
    unfold ordL
    rw [List.getElem?_map, List.getElem?_range hj]
    show some ((rests[idxF o rests.length j]?).getD _) = _
    rw [h]; rfl
  rw [List.drop_eq_getElem_cons hl]
  congr 1
  exact (List.getElem?_eq_some_iff.mp hg).2
section
variable {q : Pm} {os : List O} {vs : Nat → Option V} {n b k ri se ni m xi fi ro o size j : Nat} {W H : Int} {t : Bool} {xus fus : List V} {rests free : List R} {w h : Int} {r0 s : R}
theorem turn2 (X : Ok q) (hk6 : 6 ≤ k) (S : St2 os k W H t b ri se xi ro fi rests o j) (E : Ev2 vs t o rests.length b xi fi ro) (N : Loc se ri ro xi fi) (hj : j < rests.length) (hsz : rests.length ≤ 101) (hrp : ∀ r ∈ rests, posR r ∧ okR r) :
    ∃ vs' os', EvB (cx q) (n + 30) (scp (st 58)) (lwB 15) ⟨upd vs 125 (.int (j : Nat)), os⟩ .nxt ⟨vs', os'⟩ ∧ St2 os' k W H t b ri se xi ro fi rests o (j + 1) ∧ Kn vs vs' := by
  obtain ⟨B, hs1, hs2, hro, hrw, hx, hxu, hf, hfu, p1, p2, okr, ar⟩ := S
  rename_i ss secs rs rects rows xus fus free
  have lb : (1000 : Nat) < lim := by decide
  obtain ⟨z1, z2⟩ := ar8 hs1 hs2 hj hsz
  obtain ⟨r0, hr0⟩ : ∃ r0, rests[idxF o rests.length j]? = some r0 := ⟨_, List.getElem?_eq_getElem (idx_lt hj)⟩
  obtain ⟨vs1, os1, w, h, cont, x1, w1, h1, hwh, K1⟩ := head2 (n := n) X E hx hxu rfl (Nat.lt_of_le_of_lt hsz (by decide)) hj hr0
  obtain ⟨⟨r0w, r0h⟩, ok0⟩ := hrp r0 (List.mem_of_getElem? hr0)
  have hw : 0 < w := hwh.elim (fun a => a.1 ▸ r0w) fun a => a.2.1 ▸ r0h
  have hh : 0 < h := hwh.elim (fun a => a.2 ▸ r0h) fun a => a.2.2 ▸ r0w
  have bw : small w := hwh.elim (fun a => a.1 ▸ ok0.1) fun a => a.2.1 ▸ ok0.2
  have bh : small h := hwh.elim (fun a => a.2 ▸ ok0.2) fun a => a.2.2 ▸ ok0.1
  rw [ord_drop hj hr0] at p2
  obtain ⟨s, rot, hp, hsf, hsw, hsh, hrt, hss, q1, q2⟩ := (exact_turn hk6 hw hh p1 p2 hwh).ex
  have B1 := x1.bin B
  obtain ⟨si, hb1⟩ := B1.hb
  have hk := B.hk
  obtain ⟨ext1, rfit⟩ := fitness_run (n := n + 25) X B1.toBin0 hw hh bw bh
  rw [fit_pick B1.toBin0, hp] at rfit
  have x2 : Ext os1 (os1 ++ ext1) := Ext.app
  have B2 := x2.bin B1
  obtain ⟨si2, hb2⟩ := B2.hb
  obtain ⟨os3, idx, ss', r3, B3, fr, _, hssl, hi3⟩ := add_pick (n := n + 24) (rid := .int (-1)) X B2 hw hh bw bh hp (Nat.lt_trans z1 lb) (Nat.lt_trans z2 lb)
  rw [← hsw, ← hsh, split_none, List.append_nil] at B3
  rw [← hsw, ← hsh] at hi3
  have er : rid rects ++ [(s, V.int (-1))] = rid (rects ++ [(s, -1)]) := by unfold rid; rw [List.map_append]; rfl
  have B3 : Bin os3 b k W H t ri se ss' (secs.erase s) (rs ++ [idx]) (rid (rects ++ [(s, -1)])) := er ▸ B3
  have hi3 : os3[idx]? = some (R.o s (.int (-1))) := hi3
  have C3 : Chg os os3 [se, ri] := (x1.trans x2).then (B2.frm fr) (mem_two ⟨_, B.hs⟩ ⟨_, B.hl⟩)
  have hro3 := C3.kp _ _ hro (N.a _ (.head _))
  have hx3 := C3.kp _ _ hx (N.a _ (.tail _ (.head _)))
  have hf3 := C3.kp _ _ hf (N.a _ (.tail _ (.tail _ (.head _))))
  have hrw3 := hrw.chg C3
  have hxu3 : All2 (Pt os3) xus rests := hxu.mono fun _ _ h => h.chg C3
  have hfu3 : All2 (Pt os3) fus free := hfu.mono fun _ _ h => h.chg C3
  generalize hvs3 : upd (upd vs1 115 (.obj idx)) 157 (.obj os3.length) = vs3
  have K3 : Kn vs vs3 := hvs3 ▸ (K1.upd (i := 115) (by decide)).upd (i := 157) (by decide)
  have E1 := E.of K1
  have E2 := E.of (K1.upd (i := 115) (v := .obj idx) (by decide))
  have E3 := E.of K3
  have v157 : vs3 157 = some (.obj os3.length) := hvs3 ▸ rfl
  generalize hos4 : os3 ++ [O.tup (partL s)] = os4
  have x4 : Ext os3 os4 := hos4 ▸ Ext.app
  have hbx : os4[os3.length]? = some (.tup (partL s)) := hos4 ▸ get_end
  have hfu4 : All2 (Pt os4) fus free := hfu3.mono fun _ _ => Pt.ext x4
  obtain ⟨os5, tst, x5⟩ := box_tst (n := n) (w := w) (h := h) X E3 v157 hbx (hvs3 ▸ w1) (hvs3 ▸ h1) (x4 _ _ hf3) hfu4 hsf hsw hsh hrt
  have x35 := x4.trans x5
  have hf5 := x35 _ _ hf3
  have hro5 := x35 _ _ hro3
  have hbx5 := x5 _ _ hbx
  have hfu5 : All2 (Pt os5) fus free := hfu3.mono fun _ _ => Pt.ext x35
  have ik : free.idxOf s < free.length := List.idxOf_lt_length_iff.mpr hsf
  have fl : fus.length = free.length := hfu.len
  have fz : free.length = secs.length := p1.length_eq
  have sz : ss.length = secs.length := B.sec.len
  have rowz : rows.length = rects.length := by have := hrw.len; unfold rid at this; rw [List.length_map] at this; exact this
  have rz : rs.length = rects.length := by have := All2.len B.lrec; unfold rid at this; rw [List.length_map] at this; exact this
  have eqs : ∀ (i : Nat) u, fus[i]? = some u → ∃ p, free[i]? = some p ∧ EqJ (cx q) (n + 29) u (.obj os3.length) os5 (decide (p = s)) := fun i u hu => by
    obtain ⟨p, hpi⟩ : ∃ p, free[i]? = some p := ⟨_, List.getElem?_eq_getElem (fl ▸ (List.getElem?_eq_some_iff.mp hu).1)⟩
    obtain ⟨u', hu', hpt⟩ := hfu5.get hpi
    rw [hu] at hu'; cases hu'
    exact ⟨p, hpi, eqv_part ▸ eq_dat (dat_part hpt) (dat_part ⟨_, rfl, hbx5⟩) rfl rfl (Nat.le_of_ble_eq_true rfl)⟩
  have r1 : ∀ i u, i < free.idxOf s → fus[i]? = some u → EqJ (cx q) (n + 29) u (.obj os3.length) os5 false := fun i u hi hu => by
    obtain ⟨p, hpi, e⟩ := eqs i u hu
    have : p ≠ s := fun e => by
      have h2 := List.not_of_lt_findIdx (p := (· == s)) hi
      obtain ⟨hl, hpe⟩ := List.getElem?_eq_some_iff.mp hpi
      rw [hpe, e] at h2
      simp at h2
    rwa [decide_eq_false this] at e
  have r2 : ∀ u, fus[free.idxOf s]? = some u → EqJ (cx q) (n + 29) u (.obj os3.length) os5 true := fun u hu => by
    obtain ⟨p, hpi, e⟩ := eqs _ u hu
    have : p = s := by
      obtain ⟨hl, hpe⟩ := List.getElem?_eq_some_iff.mp hpi
      rw [← hpe]; exact List.getElem_idxOf hl
    rwa [decide_eq_true this] at e
  generalize hfe : fus.eraseIdx (free.idxOf s) = fus'
  have hfe2 : All2 (Pt os5) fus' (free.erase s) := by
    rw [← hfe, List.erase_eq_eraseIdx_of_idxOf rfl]; exact hfu5.erase
  generalize hos6 : os5.set fi (.list fus') = os6
  have C6 : Chg os5 os6 [fi] := hos6 ▸ Chg.set hf5
  have hf6 : os6[fi]? = some (.list fus') := hos6 ▸ get_set hf5
  have hro6 := C6.kp _ _ hro5 (fun e => N.c (List.mem_singleton.mp e))
  have hbx6 := C6.no hbx5 fun _ h => nomatch h
  generalize hos7 : os6 ++ [O.tup (rowL (s, .int (-1)))] = os7
  have x7 : Ext os6 os7 := hos7 ▸ Ext.app
  have hrow7 : os7[os6.length]? = some (.tup (rowL (s, .int (-1)))) := hos7 ▸ get_end
  have hro7 := x7 _ _ hro6
  generalize hos8 : os7.set ro (.list (rows ++ [.obj os6.length])) = os8
  have C8 : Chg os7 os8 [ro] := hos8 ▸ Chg.set hro7
  have hro8 : os8[ro]? = some (.list (rows ++ [.obj os6.length])) := hos8 ▸ get_set hro7
  have nse : se ∉ [fi] ∧ ri ∉ [fi] ∧ se ∉ [ro] ∧ ri ∉ [ro] := ⟨fun e => N.a fi (.tail _ (.tail _ (.head _))) (List.mem_singleton.mp e ▸ .head _), fun e => N.a fi (.tail _ (.tail _ (.head _))) (List.mem_singleton.mp e ▸ .tail _ (.head _)), fun e => N.a ro (.head _) (List.mem_singleton.mp e ▸ .head _), fun e => N.a ro (.head _) (List.mem_singleton.mp e ▸ .tail _ (.head _))⟩
  have B8 := (x7.bin ((x35.bin B3).keep C6 nse.1 nse.2.1)).keep C8 nse.2.2.1 nse.2.2.2
  have pt38 : ∀ {v : V} {p : R}, Pt os5 v p → Pt os8 v p := fun h => ((h.chg C6).ext x7).chg C8
  have rw38 : Rws os8 rows (rid rects) := Rws.mono (fun p l h => C8.no (x7 _ _ (C6.no (x35 _ _ h) fun _ h => nomatch h)) fun _ h => nomatch h) hrw3
  have rem : EvE (cx q) (n + 30) (scp (st 58)) (exE (lwB 15) 7) ⟨vs3, os5⟩ .none ⟨vs3, os6⟩ :=
    EvE.toO (e_remove (n := n + 29) (e_loc X.g 155 rfl rfl E3.v155) hf5 (a_pos rfl (l_cons (e_loc X.g 157 rfl rfl v157) l_nil)) hf5 (by rw [fl, fz, ← sz]; exact Nat.lt_of_le_of_lt (Nat.le_trans (Nat.le_mul_of_pos_left _ (by decide)) (Nat.le_add_right _ 14)) (Nat.lt_trans z1 lb)) (by rw [fl]; exact ik) r1 r2 rfl) (show os5.set fi (.list (fus.eraseIdx (free.idxOf s))) = os6 by rw [hfe, hos6])
  have app : EvE (cx q) (n + 30) (scp (st 58)) (exE (lwB 15) 8) ⟨vs3, os6⟩ .none ⟨vs3, os8⟩ := by
    subst hos7
    exact EvE.toO (e_append (e_loc X.g 113 rfl rfl E3.v113) hro6 (a_pos rfl (l_cons (e_tup (l_cons (e_itemT (l := partL s) (e_loc X.g 157 rfl rfl v157) (e_int (i := (0 : Nat))) hbx6 (show 4 < lim by decide) rfl) (l_cons (e_itemT (l := partL s) (e_loc X.g 157 rfl rfl v157) (e_int (i := (1 : Nat))) hbx6 (show 4 < lim by decide) rfl) (l_cons (e_itemT (l := partL s) (e_loc X.g 157 rfl rfl v157) (e_int (i := (2 : Nat))) hbx6 (show 4 < lim by decide) rfl) (l_cons (e_itemT (l := partL s) (e_loc X.g 157 rfl rfl v157) (e_int (i := (3 : Nat))) hbx6 (show 4 < lim by decide) rfl) (l_cons (e_neg e_int) l_nil))))) (show 5 < lim by decide)) l_nil)) hro7 (by rw [rowz, ← rz]; exact Nat.lt_of_le_of_lt (Nat.le_add_right _ 12) (Nat.lt_trans z2 lb)) rfl) hos8
  refine ⟨vs3, os8, cont _ _ ?_, ⟨B8, Nat.le_trans hssl (Nat.add_le_add_right hs1 2), by rw [List.length_append]; exact Nat.succ_le_succ hs2, hro8, ?_, C8.kp _ _ (x7 _ _ (C6.kp _ _ (x35 _ _ hx3) fun e => N.d (List.mem_singleton.mp e))) (fun e => N.b (List.mem_singleton.mp e).symm), hxu3.mono fun _ _ h => pt38 (h.ext x35), C8.kp _ _ (x7 _ _ hf6) (fun e => N.c (List.mem_singleton.mp e).symm), hfe2.mono fun _ _ h => pt38 h, q1, q2, fun p hp => ?_, ?_⟩, K3⟩
  · subst hvs3 hos4
    have got : EvE (cx q) (n + 30) (scp (st 58)) (exE (lwB 15) 5) ⟨upd vs1 115 (.obj idx), os3⟩ (.obj os3.length) ⟨upd vs1 115 (.obj idx), os3 ++ [.tup (partL s)]⟩ := e_tup (l_cons (e_att X.g 5 (e_loc X.g 115 rfl rfl rfl) rfl hi3 rfl rfl) (l_cons (e_att X.g 6 (e_loc X.g 115 rfl rfl rfl) rfl hi3 rfl rfl) (l_cons (e_att X.g 7 (e_loc X.g 115 rfl rfl rfl) rfl hi3 rfl rfl) (l_cons (e_att X.g 8 (e_loc X.g 115 rfl rfl rfl) rfl hi3 rfl rfl) l_nil)))) (show 4 < lim by decide)
    exact (b_cons (s_ifF (t_cmp (e_meth X.g 116 (e_loc X.g 152 rfl rfl E1.v152) rfl hb1 (at_k hk rfl) rfl rfl (a_pos rfl (l_cons (e_loc X.g 29 rfl rfl w1) (l_cons (e_loc X.g 30 rfl rfl h1) l_nil))) rfit rfl) e_int c_ne) rfl b_nil)
      (b_cons (s_asg 115 rfl rfl (e_meth X.g 117 (e_loc X.g 152 rfl rfl E1.v152) rfl hb2 (at_k hk rfl) rfl rfl (a_pos rfl (l_cons (e_loc X.g 29 rfl rfl w1) (l_cons (e_loc X.g 30 rfl rfl h1) (l_cons (e_neg e_int) l_nil)))) r3 rfl))
      (b_cons (s_ifF (t_cmp (e_loc X.g 115 rfl rfl rfl) e_none (c_is rfl)) rfl b_nil)
      (b_cons (s_asg 157 rfl rfl got)
      (b_cons (s_ifF tst rfl b_nil)
      (b_cons (s_expr rem)
      (b_cons (s_expr app) b_nil)))))))
  · rw [← er]
    exact rw38.snoc (C8.no hrow7 fun _ h => nomatch h)
  · rcases List.mem_append.mp hp with h | h
    · exact okr p h
    · rw [List.mem_singleton.mp h]; exact B.ok s hss
  · rw [List.map_append, areas_app, areas_erase hss]
    have e : areas ([(s, (-1 : Int))].map (·.1)) = area s := by unfold areas; simp
    rw [e]; exact ar9 ar
end
end Rw
namespace Rw
open PySem PySem.W PySem.Calls PyProof.Rows
section
variable {q : Pm} {os : List O} {n k : Nat} {vs : Nat → Option V} {sc csc : Scope} {us : List V}
theorem rows4 (X : Ok q) {l : List (R × V)} {ro : Nat} (hr : os[ro]? = some (.list us)) (hd : Rws os us l) (hl : l.length < lim) {it : Expr} {pn : Str} {k1 : Nat} {z0 z1 z2 z3 z4 z5 : Pos} (hit : EvE (cx q) n sc it ⟨vs, os⟩ (.obj ro) ⟨vs, os⟩) (g1 : nm02 153 = pn) (t1 : bndB csc pn = true) (t2 : locB csc pn = true) (hin : InSc sc csc) (hf : ∀ env x, foldedSetIterable it env x = pure x) :
    ∃ os' us', EvE (cx q) n sc (.ListComp (.Subscript (.Name pn z0) (.Slice none (some (.Constant (.int 4) k1 z1)) none z2) z3) [⟨.Name pn z4, it, [], 0⟩] csc z5) ⟨vs, os⟩ (.obj os.length) ⟨vs, os'⟩ ∧ os'[os.length]? = some (.list us') ∧ All2 (Pt os') us' (l.map (·.1)) ∧ Ext os os' := by
  have hx := fun {os'} (K : Kp (os ++ [O.list []]) os' os.length) => Kp.ext K
  obtain ⟨os', us', go, K, hl', ha⟩ := comp_all (c := cx q) (n := n) (sc := csc) (tg := .Name pn z4) (elt := .Subscript (.Name pn z0) (.Slice none (some (.Constant (.int 4) k1 z1)) none z2) z3) (ifs := []) (S := .live ro) (i := os.length) (vs0 := fun _ => none) (os0 := os ++ [.list []]) (l := us)
    (fun j => (l[j]?).bind fun p => some p.1) (fun os' u b => ∃ t, u = .obj t ∧ os'[t]? = some (.tup (partL b)) ∧ t ≠ os.length) (fun os1 os2 u x k1 k2 ⟨t, h1, h2, h3⟩ => ⟨t, h1, k2 _ _ h2 h3, h3⟩) (fun os' K => hx K _ _ hr)
    (fun j v acc os' hv K he hf => by
      have := (List.getElem?_eq_some_iff.mp hv).1
      rw [hd.len] at this
      rw [List.getElem?_eq_getElem this] at hf
      cases hf)
    (fun j v acc os' b hv K he hf => by
      obtain ⟨p, hp, hf⟩ := Option.bind_eq_some_iff.mp hf
      cases hf
      obtain ⟨v', hv', t, rfl, ht⟩ := hd.get hp
      rw [hv] at hv'; cases hv'
      exact ⟨_, _, _, _, .name 153 g1 t1, .nil, e_slcU (j := 4) (l := rowL p) (e_loc X.g 153 g1 t2 rfl) (e_int (i := (4 : Nat))) (hx K _ _ ht) (show 5 < lim by decide) (show 4 < 5 by decide), (fun _ _ h => nomatch h), fun _ _ e _ => get_app e, get_app he, _, rfl, get_end, Nat.ne_of_gt (lt_of he)⟩)
    us.length 0 [] (os ++ [.list []]) (Nat.zero_add _) .refl get_end (by rw [hd.len, List.length_nil, Nat.zero_add]; exact hl)
  have e : l.filterMap (fun p => some p.1) = l.map (·.1) := by induction l with
    | nil => rfl
    | cons a l ih => rw [List.filterMap_cons]; simp
  rw [hd.len, rng_fm (l := l), e] at ha
  exact ⟨os', us', e_comp hin hit (.list hr) (fun _ _ h => by cases h) go hf, by rw [List.nil_append] at hl'; exact hl', ha.mono fun _ _ ⟨t, h1, h2, _⟩ => ⟨t, h1, h2⟩, hx K⟩
theorem copy_go (X : Ok q) {l : List R} {xi : Nat} (hr : os[xi]? = some (.list us)) (hd : All2 (Pt os) us l) (hl : l.length < lim) {pn : Str} {z0 z4 : Pos} (g1 : nm02 156 = pn) (t1 : bndB csc pn = true) (t2 : locB csc pn = true) :
    ∃ os' us', CompGo (cx q) n csc (.Name pn z4) [] (.Name pn z0) (.live xi) os.length (fun _ => none) us.length 0 (os ++ [.list []]) os' ∧ os'[os.length]? = some (.list us') ∧ All2 (Pt os') us' l ∧ Ext os os' := by
  obtain ⟨os', us', go, h1, h2, x⟩ := pt_comp (c := cx q) (n := n) (kn := 156) (z0 := z0) (z4 := z4) (ifs := []) (vs0 := fun _ => none) (cond := fun _ => true) X.g hr hd hl g1 t1 t2 rfl fun _ _ _ _ _ => .nil
  rw [List.filter_eq_self.mpr fun _ _ => rfl] at h2
  exact ⟨os', us', go, h1, h2, x⟩
theorem packE {w : Nat} {W H : Int} {t : Bool} (X : Ok q) (hw : w < 12) (ok : okR ⟨0, 0, W, H⟩) (hW : 0 ≤ W) (hH : 0 ≤ H) (v92 : vs 92 = some (.int W)) (v93 : vs 93 = some (.int H)) (v94 : vs 94 = some (.bool t)) (v151 : vs 151 = some (.int (w : Nat))) :
    ∃ os' b' L, EvE (cx q) (n + 30) (scp (st 58)) (exE (bdy (st 58)) 8) ⟨vs, os⟩ (.obj b') ⟨vs, os'⟩ ∧ Bin os' b' (6 + w) W H t L (L + 1) [L + 2] [⟨0, 0, W, H⟩] [] [] ∧ Ext os os' ∧ os.length ≤ b' ∧ os.length ≤ L := by
  generalize hw' : os ++ [O.list waysL] = os1
  have lw : os.length < os1.length := by rw [← hw', List.length_append]; exact Nat.lt_succ_self _
  have kp : ∀ (i : Nat) o, os[i]? = some o → os1[i]? = some o := fun i o e => hw' ▸ get_app e
  obtain ⟨os', b', L, r, B, K, h3, h4⟩ := newbin_run (n := n + 20) (t := t) (k := 6 + w) (os := os1 ++ [facO W H 1 (6 + w) os1.length, .tup [], .dict [11, 20] [.bool t, .bool false]]) (b := os1.length) X (by omega) ok hW hH get_end get_end1 (by rw [List.getElem?_append_right (Nat.le_add_right _ 2), Nat.add_sub_cancel_left]; rfl) (by omega) (by omega)
  have l3 : os.length ≤ (os1 ++ [facO W H 1 (6 + w) os1.length, .tup [], .dict [11, 20] [.bool t, .bool false]]).length := by rw [List.length_append]; exact Nat.le_trans (Nat.le_of_lt lw) (Nat.le_add_right _ _)
  refine ⟨os', b', L, ?_, B, fun i o e => K i o (get_app (kp i o e)) (Nat.ne_of_lt (Nat.lt_trans (lt_of e) lw)), Nat.le_trans l3 h3, Nat.le_trans l3 h4⟩
  have ways := (ways_run (n := n + 29) (os := os) X).to hw'
  have hg : os1[os.length]? = some (.list waysL) := hw' ▸ get_end
  exact e_meth X.g 95 (e_call X.g (e_glob X.g 135 rfl rfl rfl) (a_kw rfl (l_cons (e_loc X.g 92 rfl rfl v92) (l_cons (e_loc X.g 93 rfl rfl v93) (l_cons e_int (l_cons (e_item (e_call X.g (e_glob X.g 137 rfl rfl rfl) (a_pos rfl l_nil) rfl (f_top ways)) (e_loc X.g 151 rfl rfl v151) hg (show 12 < lim by decide) (ways_at hw)) l_nil)))) (k_cons 11 rfl (e_loc X.g 94 rfl rfl v94) (k_cons 20 rfl e_bool k_nil))) rfl (f_top (fac_run X rfl))) rfl get_end rfl rfl rfl (a_pos rfl l_nil) r rfl
theorem loop2 (X : Ok q) {W H : Int} {t : Bool} {b ri se xi ro fi o : Nat} {rests : List R} (hk6 : 6 ≤ k) (N : Loc se ri ro xi fi) (hsz : rests.length ≤ 101) (hrp : ∀ r ∈ rests, posR r ∧ okR r) :
    ∀ (r j : Nat) (vs : Nat → Option V) (os : List O), j + r = rests.length → Ev2 vs t o rests.length b xi fi ro → St2 os k W H t b ri se xi ro fi rests o j → ∃ vs' os', ForGo (cx q) (n + 30) (scp (st 58)) (lwT 15) (lwB 15) (.fix (rngL 0 (rests.length : Nat) 1)) r j ⟨vs, os⟩ .nxt ⟨vs', os'⟩ ∧ St2 os' k W H t b ri se xi ro fi rests o rests.length ∧ Kn vs vs' := by
  intro r
  induction r with
  | zero =>
    intro j vs os hj _ S
    have e : j = rests.length := hj
    exact ⟨vs, os, .done rfl (by rw [rng1, List.length_map, List.length_range]; omega), e ▸ S, fun _ _ => rfl⟩
  | succ r ih =>
    intro j vs os hj E S
    obtain ⟨vs1, os1, g, S1, K1⟩ := turn2 (n := n) X hk6 S E N (by omega) hsz hrp
    obtain ⟨vs', os', g', S', K'⟩ := ih (j + 1) vs1 os1 (by omega) (E.of K1) S1
    exact ⟨vs', os', .step rfl (by rw [rng1, List.getElem?_map, List.getElem?_eq_getElem (by rw [List.length_range]; omega), List.getElem_range]; rfl) (.name 125 rfl rfl) g g', S', fun x hx => (K' x hx).trans (K1 x hx)⟩
end
end Rw
namespace Rw
open PySem PySem.W PySem.Calls PyProof.Rows
noncomputable def numsOf (is : List Int) : List Int := bif decide (5 < (is.length : Int)) then (is.take 14).drop 4 else [3, 0, 0, 6]
theorem nums_len {is : List Int} : (numsOf is).length ≤ 10 := by
  unfold numsOf
  cases decide (5 < (is.length : Int))
  · show 4 ≤ 10; decide
  · show ((is.take 14).drop 4).length ≤ 10
    rw [List.length_drop, List.length_take]; omega
section
variable {q : Pm} {os : List O} {n k : Nat} {vs : Nat → Option V} {W H : Int} {t : Bool} {b ri se ro : Nat}
theorem tail_run (X : Ok q) {xi fi o : Nat} {rests : List R} (S : St2 os k W H t b ri se xi ro fi rests o rests.length) (hW : 0 < W) (hH : 0 < H) (sW : small W) (sH : small H) (v92 : vs 92 = some (.int W)) (v93 : vs 93 = some (.int H)) (v152 : vs 152 = some (.obj b)) (v113 : vs 113 = some (.obj ro)) :
    ∃ σ', EvB (cx q) (n + 30) (scp (st 58)) ((bdy (st 58)).drop 16) ⟨vs, os⟩ (.ret (.bool true)) σ' := by
  obtain ⟨B, hs1, hs2, hro, hrw, hx, hxu, hf, hfu, p1, p2, okr, ar⟩ := S
  rename_i ss secs rs rects rows xus fus free
  have e0 : secs = [] := by
    have hl : (ordL o rests).length = rests.length := by unfold ordL; rw [List.length_map, List.length_range]
    rw [List.drop_of_length_le (Nat.le_of_eq hl), List.map_nil] at p2
    exact List.map_eq_nil_iff.mp p2.eq_nil
  subst e0
  have hA : ((rid rects).map fun p => p.1.w * p.1.h).sum = W * H := by
    have : areas [] = 0 := rfl
    rw [this, Int.zero_add] at ar
    rw [← ar]
    unfold rid areas area
    rw [List.map_map, List.map_map]; rfl
  obtain ⟨ext1, us, r1, d1⟩ := list_run (n := n + 29) X B
  obtain ⟨si, hb⟩ := B.hb
  have hk := B.hk
  have x1 : Ext os (os ++ .list us :: ext1) := Ext.app
  have B1 := x1.bin B
  obtain ⟨si1, hb1⟩ := B1.hb
  have used := used_run (n := n + 27) X B1 fun p hp => by
    unfold rid at hp
    obtain ⟨p', hp', rfl⟩ := List.mem_map.mp hp
    exact okr p' hp'
  rw [hA] at used
  have hro1 := x1 _ _ hro
  have hrw1 : Rws (os ++ .list us :: ext1) rows (rid rects) := hrw.mono fun p l h => x1 _ _ h
  have c1 : CmpJ (cx q) .NotEq (os ++ .list us :: ext1) (.obj os.length) (.obj ro) false := c_rows get_end d1 hro1 hrw1
  generalize os ++ O.list us :: ext1 = os1 at *
  have one : (0 : Int) < 1 := by decide
  have s1 : small 1 := small_of (e := 1) (by decide) (by decide)
  obtain ⟨ext2, r2⟩ := fitness_run (n := n + 25) X B1.toBin0 one one s1 s1
  rw [fit_pick B1.toBin0, pick_nil] at r2
  have x2 : Ext os1 (os1 ++ ext2) := Ext.app
  have B2 := x2.bin B1
  obtain ⟨si2, hb2⟩ := B2.hb
  obtain ⟨ext3, r3⟩ := add_none (n := n + 24) (rid := .int (-2)) X B2.toBin0 one one s1 s1 (by
    have e := cands_R (k := k) (t := t) (w := 1) (h := 1) B2.sec.len
    rw [pick_nil] at e
    exact Option.map_eq_none_iff.mp e)
  exact ⟨_, b_cons (s_ifF (t_orF (t_cmp (e_meth X.g 123 (e_loc X.g 152 rfl rfl v152) rfl hb (at_k hk rfl) rfl rfl (a_pos rfl l_nil) r1 rfl) (e_loc X.g 113 rfl rfl v113) c1)
      (t_orF (t_of (t_cmp (e_meth X.g 158 (e_loc X.g 152 rfl rfl v152) rfl hb1 (at_k hk rfl) rfl rfl (a_pos rfl l_nil) used rfl) (e_mul sW sH (e_loc X.g 92 rfl rfl v92) (e_loc X.g 93 rfl rfl v93)) c_ne) (by show (!(W * H == W * H)) = false; rw [beq_self_eq_true]; rfl)) t_or0)) rfl b_nil)
    (b_ret (s_ret (e_andT (e_cmp (e_meth X.g 116 (e_loc X.g 152 rfl rfl v152) rfl hb1 (at_k hk rfl) rfl rfl (a_pos rfl (l_cons e_int (l_cons e_int l_nil))) r2 rfl) e_none (c_is rfl)) tr_bool
      (e_one (e_cmp (e_meth X.g 117 (e_loc X.g 152 rfl rfl v152) rfl hb2 (at_k hk rfl) rfl rfl (a_pos rfl (l_cons e_int (l_cons e_int (l_cons (e_neg e_int) l_nil)))) r3 rfl) e_none (c_is rfl))))))⟩
end
end Rw
namespace Rw
open PySem PySem.W PySem.Calls PyProof.Rows
theorem ar1 {a m : Nat} (h : a ≤ 2 * m + 1) (hm : m ≤ 20) : a ≤ 101 := by omega
theorem ar2 {n m : Nat} (hm : m ≤ 20) : ∃ d, n + 30 = d + m + 2 := ⟨n + 28 - m, by omega⟩
theorem ar3 {w : Nat} : Int.fmod (w : Nat) 6 = (((6 + w) % 6 : Nat) : Int) := by
  rw [Int.fmod_eq_emod_of_nonneg _ (by decide), Nat.add_mod_left]; rfl
section
variable {q : Pm} {os : List O} {n w m : Nat} {vs : Nat → Option V} {W H : Int} {t : Bool} {b ri se ni o : Nat} {nums : List Int}
theorem mid_run (X : Ok q) (hw : w < 12) (hm : m ≤ 20) (S : St1 os nums (6 + w) W H t ni b ri se m) (hW : 0 < W) (hH : 0 < H) (sW : small W) (sH : small H) (v92 : vs 92 = some (.int W)) (v93 : vs 93 = some (.int H)) (v94 : vs 94 = some (.bool t)) (v150 : vs 150 = some (.int (o : Nat))) (v151 : vs 151 = some (.int (w : Nat))) (v152 : vs 152 = some (.obj b)) :
    ∃ σ', EvB (cx q) (n + 30) (scp (st 58)) ((bdy (st 58)).drop 10) ⟨vs, os⟩ (.ret (.bool true)) σ' := by
  obtain ⟨hn, nni, B, hs1, hs2, L⟩ := S
  rename_i ss secs rs rects
  have l101 : (101 : Nat) < lim := by decide
  obtain ⟨ext1, us, r1, d1⟩ := list_run (n := n + 29) X B
  have rz : rs.length = rects.length := by have := All2.len B.lrec; unfold rid at this; rw [List.length_map] at this; exact this
  have r20 : rects.length ≤ 20 := rz ▸ Nat.le_trans hs2 hm
  have rlim : rects.length < lim := Nat.lt_of_le_of_lt r20 (by decide)
  obtain ⟨r, hr, pr⟩ := L.rs
  have zr : r.length ≤ 101 := Nat.le_trans (Nat.le_of_eq (pr.length_eq.trans B.sec.len.symm)) (ar1 hs1 hm)
  have lr : r.length < lim := Nat.lt_of_le_of_lt zr l101
  have lpos : ∀ f ∈ rects.map (·.1), posR f := fun f hf => by obtain ⟨p, hp, rfl⟩ := List.mem_map.mp hf; exact L.pos p hp
  have x1 : Ext os (os ++ .list us :: ext1) := Ext.app
  have hro1 : (os ++ .list us :: ext1)[os.length]? = some (.list us) := get_end
  generalize os ++ O.list us :: ext1 = os1 at x1 hro1 r1 d1
  have z1 := lt_of hro1
  have tupE : EvE (cx q) (n + 30) (scp (st 58)) (prt (exE (bdy (st 58)) 11) 1) ⟨upd vs 113 (.obj os.length), os1⟩ (.obj os1.length) ⟨upd vs 113 (.obj os.length), os1 ++ [O.tup (partL ⟨0, 0, W, H⟩)]⟩ := e_tup (l_cons e_int (l_cons e_int (l_cons (e_loc X.g 92 rfl rfl v92) (l_cons (e_loc X.g 93 rfl rfl v93) l_nil)))) (show 4 < lim by decide)
  have x2 : Ext os1 (os1 ++ [O.tup (partL ⟨0, 0, W, H⟩)]) := Ext.app
  have hp2 : (os1 ++ [O.tup (partL ⟨0, 0, W, H⟩)])[os1.length]? = some (.tup (partL ⟨0, 0, W, H⟩)) := get_end
  generalize os1 ++ [O.tup (partL ⟨0, 0, W, H⟩)] = os2 at tupE x2 hp2
  have e1 : (rid rects).map (·.1) = rects.map (·.1) := by unfold rid; rw [List.map_map]; rfl
  obtain ⟨os3, lus, g3, hl3, hlu3, x3⟩ : ∃ os' us', EvE (cx q) (n + 30) (scp (st 58)) (prt (exE (bdy (st 58)) 11) 2) ⟨upd vs 113 (.obj os.length), os2⟩ (.obj os2.length) ⟨upd vs 113 (.obj os.length), os'⟩ ∧ os'[os2.length]? = some (.list us') ∧ All2 (Pt os') us' ((rid rects).map (·.1)) ∧ Ext os2 os' :=
    rows4 X (x2 _ _ hro1) (d1.mono fun p l h => x2 _ _ h) (by unfold rid; rw [List.length_map]; exact rlim) (e_loc X.g 113 rfl rfl rfl) rfl rfl rfl (inSc_of rfl) fun _ _ => rfl
  rw [e1] at hlu3
  obtain ⟨d, hd⟩ := ar2 (n := n) hm
  obtain ⟨os4, xi, xus, r4, hx4, hxu4, x4, zx⟩ := rests_run (n := d) X m hr ⟨hW, hH⟩ lpos ⟨sW, sH⟩ (x3 _ _ hp2) hl3 hlu3 (by rw [List.length_map]; exact rlim) lr
  rw [← hd] at r4
  have S11 : EvE (cx q) (n + 30) (scp (st 58)) (exE (bdy (st 58)) 11) ⟨upd vs 113 (.obj os.length), os1⟩ (.obj xi) ⟨upd vs 113 (.obj os.length), os4⟩ := by
    have args : EvL (cx q) (n + 30) (scp (st 58)) (subE (exE (bdy (st 58)) 11)) ⟨upd vs 113 (.obj os.length), os1⟩ [.int (((6 + w) % 6 : Nat) : Int), .obj os1.length, .obj os2.length] ⟨upd vs 113 (.obj os.length), os3⟩ := l_cons (e_of (e_bin (e_loc X.g 151 rfl rfl v151) e_int (b_mod (by decide))) (congrArg V.int ar3)) (l_cons tupE (l_cons g3 l_nil (fun _ => rfl)) (fun _ => rfl))
    exact e_call X.g (e_glob X.g 143 rfl rfl rfl) (a_pos rfl args) rfl (f_top r4)
  have x14 : Ext os1 os4 := (x2.trans x3).trans x4
  have zrx : os.length < xi := Nat.lt_of_lt_of_le z1 (Nat.le_trans (x2.trans x3).len zx)
  obtain ⟨os5, fus, go5, hf5, hfu5, x5⟩ := copy_go (n := n + 30) (csc := lcS (exE (bdy (st 58)) 14)) X (pn := Str.ofString "rest") (z0 := (lcE (exE (bdy (st 58)) 14)).pos) (z4 := (lcG (exE (bdy (st 58)) 14)).target.pos) hx4 hxu4 lr rfl rfl rfl
  have zx4 := lt_of hx4
  have x15 : Ext os1 os5 := x14.trans x5
  have N : Loc se ri os.length xi os4.length := by
    refine ⟨fun x hx => ?_, Nat.ne_of_lt zrx, Nat.ne_of_lt (Nat.lt_trans zrx zx4), Nat.ne_of_lt zx4⟩
    have key : os.length ≤ x := by
      rcases List.mem_cons.mp hx with rfl | hx
      · exact Nat.le_refl _
      rcases List.mem_cons.mp hx with rfl | hx
      · exact Nat.le_of_lt zrx
      · rw [List.mem_singleton.mp hx]; exact Nat.le_of_lt (Nat.lt_trans zrx zx4)
    exact not2 (Nat.ne_of_gt (Nat.lt_of_lt_of_le (lt_of B.hs) key)) (Nat.ne_of_gt (Nat.lt_of_lt_of_le (lt_of B.hl) key))
  have E : Ev2 (upd (upd (upd (upd vs 113 (.obj os.length)) 148 (.obj xi)) 154 (.int (r.length : Nat))) 155 (.obj os4.length)) t o r.length b xi os4.length os.length := ⟨v94, v150, v152, rfl, rfl, rfl, rfl⟩
  have x6 : Ext os5 (os5 ++ [O.rng 0 (r.length : Nat) 1]) := Ext.app
  have S2 : St2 (os5 ++ [O.rng 0 (r.length : Nat) 1]) (6 + w) W H t b ri se xi os.length os4.length r o 0 := by
    refine ⟨(x1.trans (x15.trans x6)).bin B, ar1 hs1 hm, Nat.le_trans hs2 (Nat.le_trans hm (by decide)), x6 _ _ (x15 _ _ hro1), d1.mono fun p l h => x6 _ _ (x15 _ _ h), x6 _ _ (x5 _ _ hx4), hxu4.mono fun _ _ h => (h.ext x5).ext x6, x6 _ _ hf5, hfu5.mono fun _ _ h => h.ext x6, pr, ?_, L.sm, L.ar⟩
    rw [List.drop_zero]
    exact (pr.symm.trans ord_perm.symm).map _
  obtain ⟨vs5, os7, go7, S7, K7⟩ := loop2 (n := n) X (Nat.le_add_right 6 w) N zr (fun x hx => ⟨(rests_in hr ⟨hW, hH⟩ lpos x hx).1, B.ok x (pr.mem_iff.mp hx)⟩) r.length 0 _ _ (Nat.zero_add _) E S2
  have E7 := E.of K7
  obtain ⟨σ', fin⟩ := tail_run (n := n) X S7 hW hH sW sH (vs := vs5) ((K7 _ (by decide)).trans v92) ((K7 _ (by decide)).trans v93) E7.v152 E7.v113
  have hxl : xus.length = r.length := hxu4.len
  obtain ⟨si, hb⟩ := B.hb
  have hk := B.hk
  exact ⟨σ', b_cons (s_asg 113 rfl rfl (e_meth X.g 123 (e_loc X.g 152 rfl rfl v152) rfl hb (at_k hk rfl) rfl rfl (a_pos rfl l_nil) r1 rfl))
    (b_cons (s_asg 148 rfl rfl S11)
    (b_cons (s_ifF (t_cmp (e_loc X.g 148 rfl rfl rfl) e_none (c_is rfl)) rfl b_nil)
    (b_cons (s_asg 154 rfl rfl (e_of (e_call X.g (e_glob X.g 126 rfl rfl rfl) (a_pos rfl (l_cons (e_loc X.g 148 rfl rfl rfl) l_nil)) rfl (f_len hx4 (hxl.symm ▸ lr))) (congrArg (fun n : Nat => V.int n) hxl)))
    (b_cons (s_comp 155 rfl rfl (inSc_of rfl) (e_loc X.g 148 rfl rfl rfl) (.list hx4) (fun _ _ h => by cases h) go5)
    (b_cons (s_for (e_call X.g (e_glob X.g 130 rfl rfl rfl) (a_pos rfl (l_cons (e_loc X.g 154 rfl rfl rfl) l_nil)) rfl f_range1) (.rng get_end (small1 (Nat.le_trans zr (by decide)))) go7)
    fin)))))⟩
end
end Rw
namespace Rw
open PySem PySem.W PySem.Calls PyProof.Rows
theorem ar4 {p : Int} : ∃ w : Nat, Int.fmod p 12 = (w : Int) ∧ w < 12 := by
  have h1 := Int.fmod_nonneg_of_pos p (b := 12) (by decide)
  have h2 := Int.fmod_lt_of_pos p (b := 12) (by decide)
  exact ⟨(Int.fmod p 12).toNat, (Int.toNat_of_nonneg h1).symm, (Int.toNat_lt h1).mpr h2⟩
theorem ar5 {p : Int} : 0 < 1 + (p.natAbs : Int) := by omega
theorem ar6 {a c : Int} (ha : 0 < a) (h : a ≤ c) : a.natAbs ≤ (c + 1).natAbs := ar10 ha (Int.le_add_one h)
noncomputable def lv7 (p0 : Int) (w : Nat) (t : Bool) (W H : Int) (o : Nat) : Nat → Option V := upd (upd (upd (upd (upd (upd (upd (varsOf [(86, V.scr)]) 108 (.int p0)) 151 (.int (w : Nat))) 94 (.bool t)) 92 (.int W)) 93 (.int H)) 150 (.int (o : Nat))) 89 (.int (max W H))
section
variable {q : Pm} {n : Nat}
theorem nums_run (X : Ok q) (hl : q.is.length < lim) {vs : Nat → Option V} (v86 : vs 86 = some .scr) : EvE (cx q) (n + 30) (scp (st 58)) (exE (bdy (st 58)) 7) ⟨vs, []⟩ (.obj 0) ⟨vs, [.list ((numsOf q.is).map .int)]⟩ := by
  unfold numsOf
  cases hc : decide ((5 : Int) < q.is.length) with
  | true => exact e_if (t := true) (t_of (t_cmp (e_call X.g (e_glob X.g 126 rfl rfl rfl) (a_pos rfl (l_cons (e_loc X.g 86 rfl rfl v86) l_nil)) rfl (f_lenS X.g hl)) e_int c_gt) hc) (EvE.toO (e_slcS X.g (e_loc X.g 86 rfl rfl v86) (e_int (i := (4 : Nat))) (e_int (i := (14 : Nat))) hl) (by rw [← List.map_take, ← List.map_drop]; rfl))
  | false => exact e_if (t := false) (t_of (t_cmp (e_call X.g (e_glob X.g 126 rfl rfl rfl) (a_pos rfl (l_cons (e_loc X.g 86 rfl rfl v86) l_nil)) rfl (f_lenS X.g hl)) e_int c_gt) hc) (e_list (l_cons e_int (l_cons e_int (l_cons e_int (l_cons e_int l_nil)))) (show 4 < lim by decide))
theorem law_run1 (X : Ok q) {p0 p3 W H : Int} {w : Nat} {t : Bool} {nums : List Int} (hnl : nums.length ≤ 10) (hw12 : w < 12) (hWp : 0 < W) (hHp : 0 < H) (bm : small (max W H + 1))
    (hN : EvE (cx q) (n + 30) (scp (st 58)) (exE (bdy (st 58)) 7) ⟨lv7 p0 w t W H p3.natAbs, []⟩ (.obj 0) ⟨lv7 p0 w t W H p3.natAbs, [.list (nums.map .int)]⟩) : ∃ σ', EvB (cx q) (n + 30) (scp (st 58)) ((bdy (st 58)).drop 7) ⟨lv7 p0 w t W H p3.natAbs, []⟩ (.ret (.bool true)) σ' := by
  have n20 : nums.length / 2 ≤ 20 := Nat.le_trans (Nat.div_le_self ..) (Nat.le_trans hnl (by decide))
  have sW : small W := small_mono (ar6 hWp (Int.le_max_left ..)) bm
  have sH : small H := small_mono (ar6 hHp (Int.le_max_right ..)) bm
  obtain ⟨os1, b', L, r, B, K, h1, h2⟩ := packE (n := n) (w := w) (W := W) (H := H) (t := t) (vs := upd (lv7 p0 w t W H p3.natAbs) 109 (.obj 0)) (os := [.list (nums.map .int)]) X hw12 ⟨sW, sH⟩ (Int.le_of_lt hWp) (Int.le_of_lt hHp) rfl rfl rfl rfl
  have h2' : 1 ≤ L := h2
  have hn0 : os1[0]? = some (.list (nums.map .int)) := K 0 _ rfl
  have S1 : St1 (os1 ++ [.rng 0 ((nums.length : Nat) - 1) 2]) nums (6 + w) W H t 0 b' (L) (L + 1) 0 := by
    refine ⟨get_app hn0, fun e => ?_, (Ext.app.bin B : Bin _ b' (6 + w) W H t L (L + 1) [L + 2] [⟨0, 0, W, H⟩] [] (rid [])), Nat.le_refl _, Nat.le_refl _, ⟨⟨[⟨0, 0, W, H⟩], restsF_nil, .refl _⟩, (fun _ h => nomatch h), (fun _ h => nomatch h), ?_⟩⟩
    · rcases List.mem_cons.mp e with e | e
      · exact Nat.succ_ne_zero L e.symm
      · exact absurd (List.mem_singleton.mp e ▸ h2') (by decide)
    · show areas [⟨0, 0, W, H⟩] + areas [] = W * H
      unfold areas area
      simp
  obtain ⟨vs10, os2, go, S2, k10⟩ := loop1 (n := n) X (Nat.lt_of_le_of_lt hnl (by decide)) hWp hHp (Int.le_trans (Int.le_of_lt hWp) (Int.le_max_left ..)) bm (nums.length / 2) 0 (upd (upd (lv7 p0 w t W H p3.natAbs) 109 (.obj 0)) 152 (.obj b')) _ (Nat.zero_add _) rfl rfl rfl S1
  obtain ⟨σ', mid⟩ := mid_run (n := n) (o := p3.natAbs) X hw12 n20 S2 hWp hHp sW sH (vs := vs10) (k10 _ (by decide)) (k10 _ (by decide)) (k10 _ (by decide)) (k10 _ (by decide)) (k10 _ (by decide)) (k10 _ (by decide))
  exact ⟨σ', b_cons (s_asg 109 rfl rfl hN)
    (b_cons (s_asg 152 rfl rfl r)
    (b_cons (s_for (e_call X.g (e_glob X.g 130 rfl rfl rfl) (a_pos rfl (l_cons e_int (l_cons (e_sub (e_of (e_call X.g (e_glob X.g 126 rfl rfl rfl) (a_pos rfl (l_cons (e_loc X.g 109 rfl rfl rfl) l_nil)) rfl (f_len hn0 (by rw [List.length_map]; exact Nat.lt_of_le_of_lt hnl (by decide)))) (congrArg (fun n : Nat => V.int n) (List.length_map _))) e_int) (l_cons e_int l_nil)))) rfl (f_range3 rfl)) (.rng get_end (small2 (Nat.le_trans hnl (by decide)))) go)
    mid))⟩
theorem law_run (X : Ok q) (hlen : q.is.length ≤ 63) (hbit : ∀ x ∈ q.is, Builtin.Int.intBits x ≤ 2 ^ 20) : ∃ os', EvC (cx q) (n + 31) 1435 [.scr] [] [] (.bool true) os' := by
  have hl : q.is.length < lim := Nat.lt_of_le_of_lt hlen (by decide)
  have hbitD : ∀ (j : Nat) (o : Int), Builtin.Int.intBits o ≤ 2 ^ 20 → Builtin.Int.intBits ((q.is[j]?).getD o) ≤ 2 ^ 20 := fun j o ho => by
    cases h : q.is[j]? with
    | none => exact ho
    | some x => exact hbit x (List.mem_of_getElem? h)
  have A := fun {os : List O} (j : Nat) (o : Int) => at_run (n := n + 29) (os := os) (k := j) (o := o) X hl
  have hb1 := hbitD 1 6 (by decide)
  have hb2 := hbitD 2 4 (by decide)
  have A0 := A (os := []) 0 1
  have A3 := A (os := []) 3 1
  have A1 := A (os := []) 1 6
  have A2 := A (os := []) 2 4
  generalize (q.is[0]?).getD 1 = p0 at A0
  generalize (q.is[3]?).getD 1 = p3 at A3
  generalize (q.is[1]?).getD 6 = p1 at hb1 A1
  generalize (q.is[2]?).getD 4 = p2 at hb2 A2
  obtain ⟨w, hw, hw12⟩ := ar4 (p := p0)
  have bm : small (max (1 + (p1.natAbs : Int)) (1 + (p2.natAbs : Int)) + 1) := by
    rcases Int.le_total (1 + (p1.natAbs : Int)) (1 + (p2.natAbs : Int)) with h | h
    · rw [Int.max_eq_right h]; exact small_abs hb2 (by decide)
    · rw [Int.max_eq_left h]; exact small_abs hb1 (by decide)
  obtain ⟨σ', tl⟩ := law_run1 (n := n) (p0 := p0) (p3 := p3) (t := Int.fmod p0 5 != 0) X nums_len hw12 (ar5 (p := p1)) (ar5 (p := p2)) bm (nums_run X hl rfl)
  exact ⟨_, c_fn X.g (X.fn 46 rfl rfl) rfl (bind1 fun _ => rfl) (b_cons (s_asg 108 rfl rfl (e_call X.g (e_glob X.g 138 rfl rfl rfl) (a_pos rfl (l_cons (e_loc X.g 86 rfl rfl rfl) (l_cons e_int (l_cons e_int l_nil)))) rfl (f_top A0)))
    (b_cons (s_asg 151 rfl rfl (e_of (e_bin (e_loc X.g 108 rfl rfl rfl) e_int (b_mod (by decide))) (congrArg V.int hw)))
    (b_cons (s_asg 94 rfl rfl (e_cmp (e_bin (e_loc X.g 108 rfl rfl rfl) e_int (b_mod (by decide))) e_int c_ne))
    (b_cons (s_asg 92 rfl rfl (e_add e_int (e_call X.g (e_glob X.g 129 rfl rfl rfl) (a_pos rfl (l_cons (e_call X.g (e_glob X.g 138 rfl rfl rfl) (a_pos rfl (l_cons (e_loc X.g 86 rfl rfl rfl) (l_cons e_int (l_cons e_int l_nil)))) rfl (f_top A1)) l_nil)) rfl f_abs)))
    (b_cons (s_asg 93 rfl rfl (e_add e_int (e_call X.g (e_glob X.g 129 rfl rfl rfl) (a_pos rfl (l_cons (e_call X.g (e_glob X.g 138 rfl rfl rfl) (a_pos rfl (l_cons (e_loc X.g 86 rfl rfl rfl) (l_cons e_int (l_cons e_int l_nil)))) rfl (f_top A2)) l_nil)) rfl f_abs)))
    (b_cons (s_asg 150 rfl rfl (e_call X.g (e_glob X.g 129 rfl rfl rfl) (a_pos rfl (l_cons (e_call X.g (e_glob X.g 138 rfl rfl rfl) (a_pos rfl (l_cons (e_loc X.g 86 rfl rfl rfl) (l_cons e_int (l_cons e_int l_nil)))) rfl (f_top A3)) l_nil)) rfl f_abs))
    (b_cons (s_asg 89 rfl rfl (e_call X.g (e_glob X.g 128 rfl rfl rfl) (a_pos rfl (l_cons (e_loc X.g 92 rfl rfl rfl) (l_cons (e_loc X.g 93 rfl rfl rfl) l_nil))) rfl f_max))
    tl))))))) (.inl rfl)⟩
end
end Rw
namespace Rw
open PySem PySem.W PySem.Calls PyProof.Rows
noncomputable def fragOf (h : Heap) (as : List Addr) : Frag := as.filterMap fun a => (h.get? a).map fun o => (a, o)
theorem fragOf_in {h : Heap} {as : List Addr} : (fragOf h as : Frag).In h := fun a o e => by
  induction as with
  | nil => cases e
  | cons b as ih =>
    unfold fragOf at e
    rw [List.filterMap_cons] at e
    cases hb : h.get? b with
    | none =>
      rw [hb] at e
      exact ih e
    | some x =>
      rw [hb] at e
      have e : (((b, x) :: fragOf h as).lookup a : Option Obj) = some o := e
      rw [List.lookup_cons] at e
      cases q : a == b with
      | true => rw [q] at e; cases e; rw [beq_iff_eq.mp q]; exact hb
      | false => rw [q] at e; exact ih e
noncomputable def dFn : Data → Option FuncData
  | .func f => some f
  | _ => none
noncomputable def dCell : Data → Bool
  | .cell _ => true
  | _ => false
noncomputable def dPlain : Data → Bool
  | .plain => true
  | _ => false
noncomputable def dSeq : Data → Option (Array Value)
  | .seq i _ => some i
  | _ => none
noncomputable def vRef : Value → Option Addr
  | .ref a => some a
  | _ => none
noncomputable def vStr : Value → Bool
  | .str _ _ => true
  | _ => false
noncomputable def vInt : Value → Bool
  | .int _ _ => true
  | _ => false
noncomputable def vBool : Value → Bool
  | .bool _ => true
  | _ => false
theorem dFn_of {d : Data} {f : FuncData} (h : dFn d = some f) : d = .func f := by cases d <;> cases h <;> rfl
theorem dCell_of {d : Data} (h : dCell d = true) : ∃ v, d = .cell v := by cases d <;> cases h <;> exact ⟨_, rfl⟩
theorem dPlain_of {d : Data} (h : dPlain d = true) : d = .plain := by cases d <;> cases h <;> rfl
theorem dSeq_of {d : Data} {i : Array Value} (h : dSeq d = some i) : ∃ k, d = .seq i k := by cases d <;> cases h <;> exact ⟨_, rfl⟩
theorem vStr_of {x : Value} (h : vStr x = true) : ∃ a t, x = .str a t := by cases x <;> cases h <;> exact ⟨_, _, rfl⟩
theorem vInt_of {x : Value} (h : vInt x = true) : ∃ a t, x = .int a t := by cases x <;> cases h <;> exact ⟨_, _, rfl⟩
theorem vBool_of {x : Value} (h : vBool x = true) : ∃ a, x = .bool a := by cases x <;> cases h <;> exact ⟨_, rfl⟩
noncomputable def A02 : List Addr := [300, 299, 401, 400, 488, 487, 507, 506, 526, 525, 545, 544, 564, 563, 583, 582, 602, 601, 621, 620, 640, 639, 659, 658, 678, 677, 697, 696, 716, 715, 735, 734, 754, 753, 773, 772, 792, 791, 811, 810, 830, 829, 849, 848, 868, 867, 887, 886, 1388, 1387, 168, 167, 161, 246, 245, 260, 259, 319, 318, 312, 333, 332, 377, 376, 398, 397, 422, 421, 414, 409, 427, 426, 434, 433, 441, 440, 462, 461, 470, 469, 463, 477, 476, 485, 484, 504, 503, 523, 522, 542, 541, 561, 560, 580, 579, 599, 598, 618, 617, 637, 636, 656, 655, 675, 674, 694, 693, 713, 712, 732, 731, 751, 750, 770, 769, 789, 788, 808, 807, 827, 826, 846, 845, 865, 864, 884, 883, 1322, 1321, 1336, 1335, 1343, 1342, 1371, 1370, 1399, 1398, 1406, 1405, 1413, 1412, 354, 353, 1418, 1417, 1425, 1424, 1430, 1429, 1435, 1434, 3, 4, 2]
noncomputable def C02 : List Addr := [167, 245, 259, 318, 332, 376, 397, 421, 426, 433, 440, 461, 469, 476, 484, 503, 522, 541, 560, 579, 598, 617, 636, 655, 674, 693, 712, 731, 750, 769, 788, 807, 826, 845, 864, 883, 1321, 1335, 1342, 1370, 1398, 1405, 1412, 353, 1417, 1424, 1429, 1434]
noncomputable def D02 : List (Addr × List Value) := [(161, [.none]), (312, [.bool true, .none]), (414, [.bool true, .bool true]), (463, [.none])]
noncomputable def att1 : List (Addr × Nat × At) := attT.flatMap fun r => r.2.map fun p => (r.1, p.1, p.2)
noncomputable def atV : At → Option (Option Value)
  | .no => some none
  | .fn g => some (some (.ref g))
noncomputable def clsB (K : Frag) (c : Addr) : Bool := findIn K (.ref c) "__getattribute__" == some (some (.builtin "object.__getattribute__")) && (findIn K (.ref c) "__getattr__" == some none && (findIn K (.ref c) "__setattr__" == some (some (.builtin "object.__setattr__")) && (hasDictIn K c && plainOver K c)))
noncomputable def fdIn (K : Frag) (a : Addr) : Option FuncData := (K.lookup a).bind fun o => dFn o.data
noncomputable def supFor (K : Frag) (c d : Addr) (n : Str) : Option (Option Value) := if (clsIn K c).isSome && mroIn K d (.ref c) == some true then (clsIn K d).bind fun cC => alongIn K n ((cC.mro.dropWhile (· != .ref c)).drop 1) else none
noncomputable def cdQ (K : Frag) (c : Addr) : Option Value := (recIn K c "code").bind fun vs => if vStr (vs.toArray.getD 18 .none) && (vInt (vs.toArray.getD 7 .none) && (vBool (vs.toArray.getD 9 .none) && vInt (vs.toArray.getD 10 .none))) then some (vs.toArray.getD 11 .none) else none
noncomputable def objQ (K : Frag) (a : Addr) : Option (Value × Option Addr × Array (Option Value) × Option (Array Value) × Bool) := (K.lookup a).map fun o => (o.cls, o.dict, o.slots, dSeq o.data, dPlain o.data)
abbrev OV := Option (Option Value)
abbrev LkT := List OV × List Bool × List (Option Value × Option FuncData × Bool) × List (Bool × Bool × OV × Option Value) × List OV × List OV × List (Option Value) × List Bool ×
  List (Option (Value × Option Addr × Array (Option Value) × Option (Array Value) × Bool)) × List OV × (Option (Value × Option Addr × Bool) × Bool × Bool) × (Option FuncData × Option Value × Bool) × List OV
noncomputable def lk (K : Frag) : LkT :=
  (att1.map fun x => findIn K (.ref x.1) (nm02 x.2.1), attT.map fun r => clsB K r.1, FT.map fun x => (typeIn K (.ref x.1), fdIn K x.1, codeIn K x.2.2.code x.2.2.qualname), initT.map fun x => (makesIn K x.1, keepIn K (.ref x.1), findIn K (.ref x.1) "__init__", typeIn K (.ref x.2)),
    supT.map fun x => supFor K x.1.1 x.1.2.1 (nm02 x.1.2.2), gl02.map fun x => nsIn K mainGlobals (nm02 x.1), C02.map (cdQ K), T02.map fun a => (K.lookup a).isNone, D02.map fun x => objQ K x.1,
    [nsIn K mainGlobals "super", nsIn K mainGlobals "ValueError", nsIn K cStatics "thirdparty.any", nsIn K mainGlobals "__builtins__", findIn K (.ref 300) "__eq__", findIn K (.ref 300) "__bool__", findIn K (.ref 300) "__len__", nsIn K mainGlobals "law", nsIn K mainGlobals "sum"],
    ((K.lookup 4).map fun o => (o.cls, o.dict, dPlain o.data), (K.lookup 409).any fun o => dCell o.data, isIn K (.ref 300) 300), (fdIn K 333, typeIn K (.ref 333), codeIn K fdI.code fdI.qualname), (List.range 18).map fun k => findIn K (.ref (564 + 19 * k)) "__iter__")
noncomputable def gV : V → OV
  | .top a => some (some (.ref a))
  | .bi _ => some none
  | _ => none
noncomputable def lkV : LkT :=
  (att1.map fun x => atV x.2.2, attT.map fun _ => true, FT.map fun x => (some (.type "function"), some x.2.2, true), initT.map fun x => (true, true, some (some (.ref x.2)), some (.type "function")),
    supT.map fun x => some (some (.ref x.2)), gl02.map fun x => gV x.2, T02.map fun a => some (.ref a), T02.map fun _ => true, D02.map fun x => some (.type "tuple", none, #[], some x.2.toArray, false),
    [some none, some none, some none, some (some (.ref 4)), some (some (.ref 246)), some none, some none, some (some (.ref 1435)), some none],
    (some (.type "module", some builtinsNs, true), true, true), (some fdI, some (.type "function"), true), (List.range 18).map fun _ => some (some (.ref 333)))
noncomputable def txO : Obj := ⟨.none, none, .fields #[], #[]⟩
noncomputable def hkSays (_ : World) (h : Heap) : Prop := ∃ K : Frag, K.In h ∧ lk K = lkV ∧ T02.map (fun a => h.get? a) = T02.map fun _ => some txO
theorem mapE {α β : Type} {f g : α → β} {l : List α} (h : l.map f = l.map g) : ∀ a ∈ l, f a = g a := List.map_inj_left.mp h
noncomputable def hk02 : Hook :=
  ⟨LkT × List (Option Obj), fun s => (lk (fragOf s.heap A02), T02.map fun a => s.heap.get? a), fun _ => (lkV, T02.map fun _ => some txO), hkSays,
   fun _ _ e => ⟨_, fragOf_in, (Prod.mk.inj e).1, (Prod.mk.inj e).2⟩,
   fun _ h h' ⟨K, k, e, t⟩ hk => ⟨K, k.keeps hk, e, List.map_congr_left fun a ha => hk _ _ (mapE t a ha)⟩⟩
end Rw
namespace Rw
open PySem PySem.W PySem.Calls PyProof.Rows
theorem lookG {κ β : Type} [BEq κ] [LawfulBEq κ] {x : κ} {b : β} {l : List (κ × β)} (h : l.lookup x = some b) : (x, b) ∈ l := by
  induction l with
  | nil => cases h
  | cons p l ih =>
    rw [List.lookup_cons] at h
    cases q : x == p.1 with
    | true => rw [q] at h; cases h; rw [beq_iff_eq.mp q]; exact .head _
    | false => rw [q] at h; exact .tail _ (ih h)
theorem nm_free {y : Str} (h1 : N02.all (fun a => !(Str.ofString a == y)) = true) (h2 : y.cps.size ≠ 1) (x : Nat) : (nm02 x == y) = false := beq_eq_false_iff_ne.mpr fun e => by
  unfold nm02 at e
  cases hx : N02[x]? with
  | some a =>
    rw [hx] at e
    have := List.all_eq_true.mp h1 a (List.mem_of_getElem? hx)
    rw [show (Str.ofString a == y) = true from beq_iff_eq.mpr e] at this
    cases this
  | none =>
    rw [hx] at e
    subst e
    exact h2 rfl
noncomputable def gB (p : Nat × V) : Bool := match p.2 with
  | .bi b => bootBuiltins (nm02 p.1) == some (bval b) && !(nm02 p.1 == ("__name__" : Str))
  | .top _ => true
  | _ => false
theorem gB_ok : gl02.all gB = true := by decide +kernel
noncomputable def fnB (x : Addr × Nat × At) : Bool := match x.2.2 with
  | .fn g => (FT.map (·.1)).contains g
  | .no => true
theorem fnB_ok : att1.all fnB = true := by decide +kernel
theorem sp_ok : (supT.all fun x => (FT.map (·.1)).contains x.2 && !(nm02 x.1.2.2 == ("__class__" : Str))) = true := by decide +kernel
noncomputable def cloB (fd : FuncData) : Bool := (fd.closure.isEmpty && fd.scope.names.all fun p => p.2 != .free) || (fd.closure == [(s "__class__", 409)] && fd.scope.names.all fun p => p.2 != .cell && (p.2 != .free || p.1 == s "__class__"))
noncomputable def stB (x : Nat × List Nat × FuncData) : Bool :=
  x.2.2.globals == mainGlobals && (x.2.2.builtins == builtinsNs && (x.2.2.scope.kind == .function && (!x.2.2.scope.isGenerator && (!x.2.2.scope.isCoroutine && ((x.2.1.all fun k => bndB x.2.2.scope (nm02 k)) && (ndB (x.2.2.scope.names.map (·.1)) && (decide x.2.1.Nodup && (cloB x.2.2 && C02.any fun c => x.2.2.code == .ref c))))))))
theorem stB_ok : FT.all stB = true := by decide +kernel
theorem dj_ok : (C02.all fun c => !T02.contains c) = true := by decide +kernel
section
variable {K : Frag} {h : Heap} {c cl n : Nat} {a : At}
theorem cdQ_of (X : K.In h) {v : Value} (e : cdQ K c = some v) : ∃ d sl vs, h.get? c = some ⟨.type "code", d, .fields vs, sl⟩ ∧ (∃ a t, vs.getD 18 .none = .str a t) ∧ (∃ a t, vs.getD 7 .none = .int a t) ∧ (∃ a, vs.getD 9 .none = .bool a) ∧ (∃ a t, vs.getD 10 .none = .int a t) ∧ vs.getD 11 .none = v := by
  obtain ⟨vs, h1, h2⟩ := Option.bind_eq_some_iff.mp e
  obtain ⟨d, sl, h3⟩ := rec_of X h1
  split at h2
  · rename_i q
    rw [Bool.and_eq_true, Bool.and_eq_true, Bool.and_eq_true] at q
    obtain ⟨q1, q2, q3, q4⟩ := q
    exact ⟨d, sl, _, h3, vStr_of q1, vInt_of q2, vBool_of q3, vInt_of q4, Option.some.inj h2⟩
  · cases h2
theorem fdIn_of {fd : FuncData} {a : Nat} (e : fdIn K a = some fd) : ∃ fo, K.lookup a = some fo ∧ fo.data = .func fd :=
  let ⟨o, h1, h2⟩ := Option.bind_eq_some_iff.mp e
  ⟨o, h1, dFn_of h2⟩
variable (e : lk K = lkV)
include e
theorem at_of (h : att02 cl n = some a) : findIn K (.ref cl) (nm02 n) = atV a ∧ clsB K cl = true ∧ ∀ g, a = .fn g → (FT.map (·.1)).contains g = true := by
  unfold att02 at h
  cases hl : attT.lookup cl with
  | none => rw [hl] at h; cases h
  | some row =>
    rw [hl] at h
    have m1 := lookG hl
    have m2 : (cl, n, a) ∈ att1 := List.mem_flatMap.mpr ⟨_, m1, List.mem_map.mpr ⟨_, lookG h, rfl⟩⟩
    exact ⟨mapE (show att1.map (fun x => findIn K (.ref x.1) (nm02 x.2.1)) = att1.map fun x => atV x.2.2 from congrArg (·.1) e) _ m2, mapE (show attT.map (fun r => clsB K r.1) = attT.map fun _ => true from congrArg (·.2.1) e) _ m1, fun g hg => by
      have := List.all_eq_true.mp fnB_ok _ m2
      subst hg
      exact this⟩
theorem ft_of {x : Nat × List Nat × FuncData} (h : x ∈ FT) : typeIn K (.ref x.1) = some (.type "function") ∧ fdIn K x.1 = some x.2.2 ∧ codeIn K x.2.2.code x.2.2.qualname = true := by
  have := mapE (show FT.map (fun x => (typeIn K (.ref x.1), fdIn K x.1, codeIn K x.2.2.code x.2.2.qualname)) = FT.map fun x => (some (.type "function"), some x.2.2, true) from congrArg (·.2.2.1) e) _ h
  exact ⟨congrArg (·.1) this, congrArg (·.2.1) this, congrArg (·.2.2) this⟩
theorem ft_key {g : Nat} (h : (FT.map (·.1)).contains g = true) : typeIn K (.ref g) = some (.type "function") ∧ ∃ fo fd, K.lookup g = some fo ∧ fo.data = .func fd := by
  obtain ⟨x, hx, rfl⟩ := List.mem_map.mp (List.contains_iff_mem.mp h)
  obtain ⟨h1, h2, _⟩ := ft_of e hx
  obtain ⟨fo, h3, h4⟩ := fdIn_of h2
  exact ⟨h1, fo, _, h3, h4⟩
theorem in_of {g : Nat} (h : initT.lookup c = some g) : makesIn K c = true ∧ keepIn K (.ref c) = true ∧ findIn K (.ref c) "__init__" = some (some (.ref g)) ∧ typeIn K (.ref g) = some (.type "function") := by
  have := mapE (show initT.map (fun x => (makesIn K x.1, keepIn K (.ref x.1), findIn K (.ref x.1) "__init__", typeIn K (.ref x.2))) = initT.map fun x => (true, true, some (some (.ref x.2)), some (.type "function")) from congrArg (·.2.2.2.1) e) _ (lookG h)
  exact ⟨congrArg (·.1) this, congrArg (·.2.1) this, congrArg (·.2.2.1) this, congrArg (·.2.2.2) this⟩
theorem su_of {d f : Nat} (h : supT.lookup (c, d, n) = some f) : supFor K c d (nm02 n) = some (some (.ref f)) := mapE (show supT.map (fun x => supFor K x.1.1 x.1.2.1 (nm02 x.1.2.2)) = supT.map fun x => some (some (.ref x.2)) from congrArg (·.2.2.2.2.1) e) _ (lookG h)
theorem gl_of {v : V} (h : gl02.lookup n = some v) : nsIn K mainGlobals (nm02 n) = gV v := mapE (show gl02.map (fun x => nsIn K mainGlobals (nm02 x.1)) = gl02.map fun x => gV x.2 from congrArg (·.2.2.2.2.2.1) e) _ (lookG h)
theorem cd_of (hc : c ∈ C02) : ∃ P ∈ T02, cdQ K c = some (.ref P) := by
  have h : C02.map (cdQ K) = T02.map fun a => some (.ref a) := congrArg (·.2.2.2.2.2.2.1) e
  have m : cdQ K c ∈ C02.map (cdQ K) := List.mem_map_of_mem hc
  rw [h] at m
  obtain ⟨P, hP, e'⟩ := List.mem_map.mp m
  exact ⟨P, hP, e'.symm⟩
theorem tx_of {P : Addr} (h : P ∈ T02) : ∃ c ∈ C02, cdQ K c = some (.ref P) := by
  have h' : C02.map (cdQ K) = T02.map fun a => some (.ref a) := congrArg (·.2.2.2.2.2.2.1) e
  have m : some (Value.ref P) ∈ T02.map fun a => some (Value.ref a) := List.mem_map.mpr ⟨P, h, rfl⟩
  rw [← h'] at m
  obtain ⟨c, hc, e'⟩ := List.mem_map.mp m
  exact ⟨c, hc, e'⟩
theorem noK {P : Addr} (h : P ∈ T02) : K.lookup P = none := Option.isNone_iff_eq_none.mp (mapE (show T02.map (fun a => (K.lookup a).isNone) = T02.map fun _ => true from congrArg (·.2.2.2.2.2.2.2.1) e) _ h)
theorem ms_of : nsIn K mainGlobals ("super" : Str) = some none ∧ nsIn K mainGlobals ("ValueError" : Str) = some none ∧ nsIn K cStatics "thirdparty.any" = some none ∧ nsIn K mainGlobals ("__builtins__" : Str) = some (some (.ref 4)) ∧ findIn K (.ref 300) "__eq__" = some (some (.ref 246)) ∧ findIn K (.ref 300) "__bool__" = some none ∧ findIn K (.ref 300) "__len__" = some none ∧ nsIn K mainGlobals ("law" : Str) = some (some (.ref 1435)) ∧ nsIn K mainGlobals ("sum" : Str) = some none := by
  have h : [nsIn K mainGlobals "super", nsIn K mainGlobals "ValueError", nsIn K cStatics "thirdparty.any", nsIn K mainGlobals "__builtins__", findIn K (.ref 300) "__eq__", findIn K (.ref 300) "__bool__", findIn K (.ref 300) "__len__", nsIn K mainGlobals "law", nsIn K mainGlobals "sum"] = [some none, some none, some none, some (some (.ref 4)), some (some (.ref 246)), some none, some none, some (some (.ref 1435)), some none] := congrArg (·.2.2.2.2.2.2.2.2.2.1) e
  injection h with h1 h
  injection h with h2 h
  injection h with h3 h
  injection h with h4 h
  injection h with h5 h
  injection h with h6 h
  injection h with h7 h
  injection h with h8 h
  injection h with h9 h
  exact ⟨h1, h2, h3, h4, h5, h6, h7, h8, h9⟩
theorem bm_of : (∃ o, K.lookup 4 = some o ∧ o.cls = .type "module" ∧ o.dict = some builtinsNs ∧ o.data = .plain) ∧ (∃ o v, K.lookup 409 = some o ∧ o.data = .cell v) ∧ isIn K (.ref 300) 300 = true := by
  have h : ((K.lookup 4).map (fun o => (o.cls, o.dict, dPlain o.data)), (K.lookup 409).any (fun o => dCell o.data), isIn K (.ref 300) 300) = (some (.type "module", some builtinsNs, true), true, true) := congrArg (·.2.2.2.2.2.2.2.2.2.2.1) e
  obtain ⟨o, h1, h2⟩ := Option.map_eq_some_iff.mp (congrArg (·.1) h)
  have h3 : (K.lookup 409).any (fun o => dCell o.data) = true := congrArg (·.2.1) h
  refine ⟨⟨o, h1, congrArg (·.1) h2, congrArg (·.2.1) h2, dPlain_of (congrArg (·.2.2) h2)⟩, ?_, congrArg (·.2.2) h⟩
  cases q : K.lookup 409 with
  | none => rw [q] at h3; cases h3
  | some o => rw [q] at h3; obtain ⟨v, hv⟩ := dCell_of h3; exact ⟨o, v, rfl, hv⟩
theorem it_of : (∃ fo, K.lookup 333 = some fo ∧ fo.data = .func fdI) ∧ typeIn K (.ref 333) = some (.type "function") ∧ codeIn K fdI.code fdI.qualname = true ∧ ∀ k < 18, findIn K (.ref (564 + 19 * k)) "__iter__" = some (some (.ref 333)) := by
  have h : (fdIn K 333, typeIn K (.ref 333), codeIn K fdI.code fdI.qualname) = (some fdI, some (.type "function"), true) := congrArg (·.2.2.2.2.2.2.2.2.2.2.2.1) e
  exact ⟨fdIn_of (congrArg (·.1) h), congrArg (·.2.1) h, congrArg (·.2.2) h, fun k hk => mapE (show (List.range 18).map (fun k => findIn K (.ref (564 + 19 * k)) "__iter__") = (List.range 18).map fun _ => some (some (.ref 333)) from congrArg (·.2.2.2.2.2.2.2.2.2.2.2.2) e) _ (List.mem_range.mpr hk)⟩
theorem df_of (X : K.In h) {a : Addr} {l : List Value} (m : (a, l) ∈ D02) : ∃ k, h.get? a = some (tupO l.toArray k) := by
  have h' := mapE (show D02.map (fun x => objQ K x.1) = D02.map fun x => some (.type "tuple", none, #[], some x.2.toArray, false) from congrArg (·.2.2.2.2.2.2.2.2.1) e) _ m
  obtain ⟨⟨oc, od, da, sl⟩, h1, h2⟩ := Option.map_eq_some_iff.mp h'
  have e1 : oc = .type "tuple" := congrArg (·.1) h2
  have e2 : od = none := congrArg (·.2.1) h2
  have e3 : sl = #[] := congrArg (·.2.2.1) h2
  obtain ⟨k, e4⟩ := dSeq_of (congrArg (·.2.2.2.1) h2)
  have e4 : da = .seq l.toArray k := e4
  subst e1 e2 e3 e4
  exact ⟨k, X _ _ h1⟩
theorem fn_of (X : K.In h) {w : World} {ax : Addr} {is : List Int} {i f : Nat} {ps : List Nat} {fd : FuncData} {b : List Stmt} (hi : FT[i]? = some (f, ps, fd)) (hb : fd.body = .stmts b) : FnAt (cx ⟨w, K, h, ax, is⟩) f ps b fd := by
  have m := List.mem_of_getElem? hi
  obtain ⟨_, h2, h3⟩ := ft_of e m
  have st := List.all_eq_true.mp stB_ok _ m
  unfold stB at st
  rw [Bool.and_eq_true, Bool.and_eq_true, Bool.and_eq_true, Bool.and_eq_true, Bool.and_eq_true, Bool.and_eq_true, Bool.and_eq_true, Bool.and_eq_true, Bool.and_eq_true] at st
  obtain ⟨s1, s2, s3, s4, s5, s6, s7, s8, s9, s10⟩ := st
  obtain ⟨c, hc, ec⟩ := List.any_eq_true.mp s10
  obtain ⟨P, hP, q⟩ := cd_of e hc
  obtain ⟨d, sl, vs, g1, ⟨a1, t1, g2⟩, ⟨a2, t2, g3⟩, ⟨a3, g4⟩, ⟨a4, t4, g5⟩, g6⟩ := cdQ_of X q
  refine ⟨fdIn_of h2, hb, eq_of_beq s1, eq_of_beq s2, eq_of_beq s3, Bool.not_eq_true' _ |>.mp s4, Bool.not_eq_true' _ |>.mp s5, fun k hk => ?_, h3, ⟨c, P, _, vs, a1, t1, a2, t2, a3, a4, t4, eq_of_beq ec, g1, rfl, rfl, g6, g2, g3, g4, g5, hP, fun e' => ?_⟩, ndB_of s7, ?_, of_decide_eq_true s8⟩
  · have := List.all_eq_true.mp s6 k hk
    unfold bndB at this
    show fd.scope.names.lookup (nm02 k) = _ ∨ _
    split at this
    · rename_i q; exact .inl q
    · rename_i q; exact .inr q
    · cases this
  · have := List.all_eq_true.mp dj_ok c hc
    rw [e', List.contains_iff_mem.mpr hP] at this
    cases this
  · unfold cloB at s9
    rcases Bool.or_eq_true_iff.mp s9 with q | q
    · rw [Bool.and_eq_true] at q
      exact .inl ⟨List.isEmpty_iff.mp q.1, fun p hp => bne_iff_ne.mp (List.all_eq_true.mp q.2 p hp)⟩
    · rw [Bool.and_eq_true] at q
      obtain ⟨o, v, k1, k2⟩ := (bm_of e).2.1
      refine .inr ⟨_, 409, o, v, eq_of_beq q.1, fun p hp => ?_, k1, k2⟩
      have := List.all_eq_true.mp q.2 p hp
      rw [Bool.and_eq_true] at this
      refine ⟨bne_iff_ne.mp this.1, fun hf => ?_⟩
      rcases Bool.or_eq_true_iff.mp this.2 with z | z
      · exact absurd hf (bne_iff_ne.mp z)
      · exact eq_of_beq z
end
end Rw
namespace Rw
open PySem PySem.W PySem.Calls PyProof.Rows
section
variable {w : World} {K : Frag} {s : Shared} {ax : Addr} {is : List Int} {vs : List Value} {p : Program} {loose : List Str} {mean : ExcName → Option Value} {mg mb : Str → Option Value} (X : K.In s.heap) (e : lk K = lkV) (tx : T02.map (fun a => s.heap.get? a) = T02.map fun _ => some txO) (T : Top p loose mean mg mb s.heap) (il : s.heap.IsList ax vs.toArray) (hi : IntsAre vs is)
include X e
theorem hid_in : K.In (hideAll s.heap T02) := fun a o h => hideAll_get _ (X a o h) fun hm => by rw [noK e hm] at h; cases h
include tx
theorem not_tx {a : Addr} {o : Obj} (h : s.heap.get? a = some o) (hc : o.cls ≠ .none ∨ o.data ≠ .fields #[]) : (hideAll s.heap T02).get? a = some o := hideAll_get _ h fun hm => by
  rw [mapE tx a hm] at h
  cases h
  exact hc.elim (fun h => h rfl) fun h => h rfl
theorem ints_vrs {c : Cx} {vs : List Value} {is : List Int} (hi : IntsAre vs is) : VRs c [] (is.map .int) vs := by
  induction hi with
  | nil => exact .nil
  | cons n t _ ih => exact .cons ⟨t, rfl⟩ ih
include T il hi
theorem gd_of : Gd (cx ⟨w, K, hideAll s.heap T02, ax, is⟩) where
  k := hid_in X e
  ns := ⟨mg, let ⟨o, es, ep, h1, hd, r⟩ := T.g; ⟨o, es, ep, not_tx X e tx h1 (.inr (by rw [hd]; exact fun h => nomatch h)), hd, r⟩⟩
  nb := ⟨mb, (let ⟨o, es, ep, h1, hd, r⟩ := T.b; ⟨o, es, ep, not_tx X e tx h1 (.inr (by rw [hd]; exact fun h => nomatch h)), hd, r⟩), T.builtins⟩
  gt x v h := by
    have g := gl_of e h
    have b := List.all_eq_true.mp gB_ok _ (lookG h)
    unfold gB at b
    cases v with
    | top a => exact .inl ⟨a, rfl, g⟩
    | bi q =>
      have b : (bootBuiltins (nm02 x) == some (bval q) && !(nm02 x == ("__name__" : Str))) = true := b
      rw [Bool.and_eq_true] at b
      exact .inr ⟨q, rfl, g, eq_of_beq b.1, beq_eq_false_iff_ne.mp ((Bool.not_eq_true' _).mp b.2)⟩
    | none => cases b
    | bool _ => cases b
    | int _ => cases b
    | str _ => cases b
    | obj _ => cases b
    | scr => cases b
  lim := let ⟨mc, ⟨o, es, ep, h1, hd, r⟩, r'⟩ := T.nolimit; ⟨mc, ⟨o, es, ep, not_tx X e tx h1 (.inr (by rw [hd]; exact fun h => nomatch h)), hd, r⟩, r'⟩
  sm := by
    show _ < (hideAll s.heap T02).objs.size
    rw [hideAll_size]
    obtain ⟨mc, ⟨o, es, ep, h1, _⟩, _⟩ := T.nolimit
    exact Nat.lt_of_le_of_lt (by decide) (Heap.lt_size h1)
  db := nm_free (by decide +kernel) (by decide)
  cd := nm_free (by decide +kernel) (by decide)
  ck cl n a h := by
    have := (at_of e h).2.1
    unfold clsB at this
    rw [Bool.and_eq_true, Bool.and_eq_true, Bool.and_eq_true, Bool.and_eq_true] at this
    exact ⟨eq_of_beq this.1, eq_of_beq this.2.1, eq_of_beq this.2.2.1, this.2.2.2.1, this.2.2.2.2⟩
  no cl n h := (at_of e h).1
  fnm cl n g h := ⟨(at_of e h).1, (ft_key e ((at_of e h).2.2 g rfl)).1⟩
  tru cl h := by
    have h : (cl == 300) = true := h
    rw [eq_of_beq h]
    exact ⟨(ms_of e).2.2.2.2.2.1, (ms_of e).2.2.2.2.2.2.1⟩
  ini cl g h := ⟨(in_of e h).1, (in_of e h).2.2⟩
  kp a h := by
    rcases Bool.or_eq_true_iff.mp h with h | h
    · obtain ⟨_, ⟨oc, od, da, sl⟩, fd, h1, h2⟩ := ft_key e h
      have h2 : da = .func fd := h2
      subst h2
      show keepIn K (.ref a) = true
      unfold keepIn
      dsimp only
      rw [h1]
    · obtain ⟨x, hx, rfl⟩ := List.mem_map.mp (List.contains_iff_mem.mp h)
      have := mapE (show initT.map (fun x => (makesIn K x.1, keepIn K (.ref x.1), findIn K (.ref x.1) "__init__", typeIn K (.ref x.2))) = initT.map fun x => (true, true, some (some (.ref x.2)), some (.type "function")) from congrArg (·.2.2.2.1) e) _ hx
      exact congrArg (·.2.1) this
  eq cl f h := by
    have h : (if cl = 300 then some 246 else none) = some f := h
    split at h
    · rename_i q
      cases h
      subst q
      exact ⟨(ms_of e).2.2.2.2.1, (ft_key e (by decide +kernel)).1⟩
    · cases h
  sp cl d n f h := by
    have hs := su_of e h
    have st := List.all_eq_true.mp sp_ok _ (lookG h)
    rw [Bool.and_eq_true] at st
    obtain ⟨k1, k2⟩ := ft_key e st.1
    unfold supFor at hs
    split at hs
    · rename_i q
      rw [Bool.and_eq_true] at q
      obtain ⟨cD, hD⟩ := Option.isSome_iff_exists.mp q.1
      obtain ⟨cC, hC, ha⟩ := Option.bind_eq_some_iff.mp hs
      exact ⟨cD, cC, hD, eq_of_beq q.2, hC, ha, k1, (Bool.not_eq_true' _).mp st.2, k2⟩
    · cases hs
  sg := ⟨(ms_of e).1, by decide +kernel⟩
  th := (ms_of e).2.2.1
  bf := let ⟨o, h1, h2⟩ := (bm_of e).1; ⟨4, o, (ms_of e).2.2.2.1, by decide, h1, h2⟩
  ve := ⟨(ms_of e).2.1, by decide +kernel⟩
  tn a ha := hideAll_none _ ha
  sc := let ⟨o, h1, h2, h3⟩ := il; ⟨vs.toArray, ⟨o, not_tx X e tx h1 (.inl (by rw [h2]; exact fun h => nomatch h)), h2, h3⟩, ints_vrs X e tx hi⟩
theorem ok_of : Ok ⟨w, K, hideAll s.heap T02, ax, is⟩ :=
  ⟨gd_of X e tx T il hi, fun i _ _ _ _ hi hb => fn_of e (hid_in X e) hi hb, it_of e, ⟨(ms_of e).2.2.2.2.2.2.2.2, by decide +kernel⟩, (bm_of e).2.2, fun a l m => df_of e (hid_in X e) m⟩
theorem run_law (hg : s.gens = #[]) (hlen : is.length ≤ 63) (hbit : ∀ x ∈ is, Builtin.Int.intBits x ≤ 2 ^ 20) {R : Result → Shared → Prop} (q : ∀ s', OldK s.heap s'.heap → s'.os = s.os → AllBare s'.gens → R (.ok (.ret (.bool true))) s') :
    codeAny (model pr w) callerA (.call (.ref 1435) ⟨[.ref ax], []⟩) R s := by
  obtain ⟨os', h⟩ := law_run (n := 0) (ok_of (w := w) X e tx T il hi) hlen hbit
  have txt : ∀ a ∈ T02, s.heap.get? a = some txO := mapE tx
  have sr : SR (cx ⟨w, K, hideAll s.heap T02, ax, is⟩) [] [] [] s := by
    refine ⟨rfl, .nil, .nil, (fun _ h => nomatch h), (fun _ h => nomatch h), (fun _ h => nomatch h), (fun i o hi => nomatch hi), ?_, (fun b o h => of_hideAll _ h), Nat.le_of_eq (hideAll_size _ _), (fun _ h => nomatch h), (fun a ha => ⟨#[], txt a ha, trivial, fun pos cv h => nomatch h⟩), fun a ha => ?_⟩
    · rw [hg]; intro x hx; simp at hx
    · show a < (hideAll s.heap T02).objs.size
      rw [hideAll_size]; exact Heap.lt_size (txt a ha)
  refine h callerA [] [] s [.ref ax] [] R ⟨rfl, by decide, by decide, rfl⟩ sr (fun a h => nomatch h) (.cons rfl .nil) .nil fun ρ' s' y le sr' ry => ?_
  cases ry
  refine q s' ⟨fun b o h => ?_, fun b o h => ?_⟩ le.os sr'.bare
  · by_cases hb : b ∈ T02
    · rw [txt b hb] at h
      cases h
      obtain ⟨ps, h1, _⟩ := sr'.tx b hb
      obtain ⟨c, _, hc⟩ := tx_of e hb
      obtain ⟨d, sl, vs', g1, _, _, _, _, g6⟩ := cdQ_of X hc
      refine .inr (.inl ⟨⟨c, _, vs', g1, rfl, rfl, ?_⟩, rfl, #[], ps, rfl, by rw [Array.empty_append]; exact h1⟩)
      rw [Array.getD_eq_getD_getElem?] at g6
      cases hv : vs'[11]? with
      | none => rw [hv] at g6; cases g6
      | some v => rw [hv] at g6; exact congrArg some g6
    · exact .inl (sr'.old _ _ (hideAll_get _ h hb))
  · by_cases hb : b ∈ T02
    · obtain ⟨ps, h1, _⟩ := sr'.tx b hb
      exact ⟨_, h1⟩
    · exact ⟨_, sr'.old _ _ (hideAll_get _ h hb)⟩
end
theorem bits_of : ∀ {is : List Int} {n : Nat}, PyData.weightAll (is.map PyData.int) ≤ n → ∀ x ∈ is, Builtin.Int.intBits x ≤ n
  | [], _, _, _, h => nomatch h
  | a :: is, n, h, x, hx => by
    rw [List.map_cons, PyData.weightAll, PyData.weight] at h
    rcases List.mem_cons.mp hx with rfl | hx
    · unfold Builtin.Int.intBits; omega
    · exact bits_of (by omega) x hx
theorem walk (q : Program) (loose : List Str) (XP : (Str → Option Value) → Heap → Prop) (d : DefRec) (kwd : List (Str × Expr)) (hdn : d.name = "law") : WalkO q loose XP hkSays Law.row.toRowW d kwd fun f vs => PySem.call f vs := by
  intro w s₀ s₁ mg mb G Y a o pm cd doc dV kV ho hd hcd hD hmg hg args vals as hpre hlay hrd hwl hlo
  obtain ⟨K, kin, ktab, ktx⟩ := Y
  wrow_args hpre hlay hrd hwl hlo
  rename_i is _ _ hL _ _ _ _ ax vs _ il _ _ _ hI _ hlen _
  have hbits : ∀ x ∈ is, Builtin.Int.intBits x ≤ 2 ^ 20 := bits_of (n := 2 ^ 20) (by
    unfold PyData.layable0 at hL
    simp only [Bool.and_eq_true, decide_eq_true_eq] at hL
    have := hL.2
    rw [PyData.weight] at this
    exact this)
  have ha : a = 1435 := by
    have h1 := mg_of kin G.T.g (ms_of ktab).2.2.2.2.2.2.2.1
    rw [hdn] at hmg
    rw [hmg] at h1
    cases h1; rfl
  subst ha
  refine enter_call ?_
  refine run_law kin ktab ktx G.T il hI hg (by omega) hbits fun s' h1 h2 h3 => ?_
  refine ⟨.inl ⟨.bool true, .bool true, [], rfl, fun _ => rfl, .bool _, ?_, fun _ => ⟨.nil, fun _ h => nomatch h⟩⟩, h1, h2, h3⟩
  wrow_post
end Rw
set_option maxHeartbeats 4000000
namespace Rh
open PySem PySem.W PySem.Calls PyProof.Rows
theorem kern {α : Type} {X Y : α} (h : ∀ ψ : α → Value, (fun _ : Array (Option Value) => Obj.mk (ψ X) none .plain #[none]) (Array.setIfInBounds (Obj.slots (Obj.mk (ψ Y) none .plain #[none])) 0 none) = Obj.mk (ψ Y) none .plain #[none]) : X = Y := by
  have hh : ∀ ψ : α → Value, ψ X = ψ Y := fun ψ => congrArg Obj.cls (h ψ)
  have := hh fun a => @ite Value (a = Y) (Classical.propDecidable _) .none (.bool true)
  by_cases e : X = Y
  · exact e
  · rw [if_neg e, if_pos rfl] at this; cases this
abbrev L := PySem.Challenge.rw_ay0036_05
abbrev p : Program := L.row.toRowW.prog
noncomputable def B : List Stmt := behindTheImports p
noncomputable def st (i : Nat) : Stmt := (B[i]?).getD default
noncomputable def me (i j : Nat) : Stmt := match st i with
  | .ClassDef _ _ _ b _ _ _ _ _ _ _ => (b[j]?).getD default
  | x => x
noncomputable def s (x : String) : Str := Str.ofString x
noncomputable def v (x : String) (t : Nat) : Value := .str (Str.ofString x) t
noncomputable def e (P : Params) (x : String) (t : Nat) (y : Value) : DictEntry := ⟨PyData.keyHash P (Str.ofString x), .str (Str.ofString x) t, y⟩
noncomputable def fd (x : Stmt) (q : String) (g : Addr) (cl : List (Str × Addr)) (d kd doc pm : Value) (an : Option Addr) (c ct : Value) (bu : Addr) : FuncData := match x with
  | .FunctionDef n a b _ _ _ sc _ _ _ => ⟨n, s q, a, .stmts b, sc, g, cl, d, kd, doc, pm, an, c, ct, bu⟩
  | _ => default
noncomputable def puts (t : BT) (l : List (Nat × Obj)) : BT := l.foldl (fun t x => t.ins x.1 x.2) t
noncomputable def env : Env := { scope := p.main.scope, locals := mainNs, globals := mainNs, cells := [], code := .ref 13, frame := some 14 }
noncomputable def cE : Code := .body (behindTheImports p) env
noncomputable def z0 : Pos := ⟨0, 0, 0, 0⟩
noncomputable def S (t : BT) (n tk : Nat) (os : OsState) : SharedT := ⟨t, n, {}, ⟨[]⟩, {}, tk, os⟩
noncomputable def PcT (a m k : Nat) (t : Params → BT) (n tk : Nat) (q : Pos) (t' : Params → BT) (n' tk' : Nat) (q' : Pos) : Prop := ∀ w : World,
  (fun os => PySem.W.Fast.tw10110043849684766642 PySem.W.Fast.tw14364793385576792824 p w 11 (some (.ref 6)) 1 k (S (t w.params) n tk os) (piecesOf ((B.drop a).take m) env cE q [topFrame z0])) =
    fun os => some (Flow.next, S (t' w.params) n' tk' os, cE, q')
noncomputable def O : Value := .type "object"
noncomputable def tu (l : List Value) : Obj := ⟨.type "tuple", none, .seq ⟨l⟩ 0, ⟨[]⟩⟩
noncomputable def fi (l : List Value) : Obj := ⟨.none, none, .fields ⟨l⟩, ⟨[]⟩⟩
noncomputable def x3 (l : List (Nat × Nat)) : Obj := fi (l.foldr (fun p r => .int p.1 0 :: .int 0 0 :: .ref p.2 :: r) [])
noncomputable def ff (t : String) (l : List Value) : Obj := ⟨.type t, none, .fields ⟨l⟩, ⟨[]⟩⟩
noncomputable def bp : Obj := ff "builtin_function_or_method" [.builtin "type.__prepare__", .type "type"]
noncomputable def bs (a : Nat) : Obj := ff "builtin_function_or_method" [.builtin "object.__init_subclass__", .ref a]
noncomputable def su (a : Nat) : Obj := ff "super" [.ref a, .ref a, .ref a]
noncomputable def di (l : List DictEntry) (n : Nat) : Obj := ⟨.type "dict", none, .dict ⟨l⟩ n, ⟨[]⟩⟩
noncomputable def r (P : Params) (k : String) (t a : Nat) : DictEntry := e P k t (.ref a)
noncomputable def f0 (x : Stmt) (q : String) : Obj := ⟨.none, none, .func (fd x q 0 [] .none .none .none .none none .none .none 0), ⟨[]⟩⟩
noncomputable def f3 (x : Stmt) (q : String) (cl : List (Str × Addr)) (de pm : Value) (c : Nat) (ct : Value) : Obj := ⟨.type "function", none, .func (fd x q 3 cl de .none .none pm none (.ref c) ct 0), ⟨[]⟩⟩
noncomputable def f2 (x : Stmt) (q : String) (de pm : Value) (c : Nat) : Obj := f3 x q [] de pm c .none
noncomputable def f1 (x : Stmt) (q : String) (pm : Value) (c : Nat) : Obj := f3 x q [] .none pm c .none
noncomputable def ce (a : Nat) : Obj := ⟨.type "cell", none, .cell (some (.ref a)), ⟨[]⟩⟩
noncomputable def fr (c l : Nat) (x : Value) : Obj := ⟨.type "frame", none, .plain, ⟨[some (.ref c), some (.ref 3), some (.ref l), none, some x, none, some (.ref 0)]⟩⟩
noncomputable def cg (n : String) (t : Nat) (q : String) (t' t3 : Nat) (m : List Value) (t4 : Nat) : Obj := ff "code" (v n t :: v q t' :: v "/claim/cut.py" t3 :: (m ++ [v "/claim/cut.py" t4]))
noncomputable def co (n q : String) (t ln ac kw fl A x : Nat) : Obj := cg n t q (t + 1) (t + 2) [.int ln 0, .int ac 0, .int 0 0, .int kw 0, .int fl 0, .ref A, .bool true, .int 181 0, .ref (A + 1), .none, .ref (A + 2), .ref (A + 3), .ref (A + 4), .int x 0, .int ln 0] (x + 1)
noncomputable def kl (N : String) (b m : List Value) (ns : Nat) (sb : List Value) (T : Value) (t1 t2 : Nat) : Obj := ⟨.type "type", none, .cls ⟨s N, b, m, ns, s N, true, [], sb, false, none, false⟩, ⟨[some T, none, some (v N t1), some (v N t2), some (.builtin "object.__new__"), some (.bool true)]⟩⟩
noncomputable def w172:=v "/claim/cut.py" 172
noncomputable def w194:=v "rectpack.geometry" 194
noncomputable def w252:=v "Segment" 252
noncomputable def w538:=v "rectpack.pack_algo" 538
noncomputable def w540:=v "PackingAlgorithm" 540
noncomputable def w548:=v "PackingAlgorithm" 548
noncomputable def w668:=v "rectpack.guillotine" 668
noncomputable def w670:=v "Guillotine" 670
noncomputable def w678:=v "Guillotine" 678
noncomputable def w799:=v "GuillotineBaf" 799
noncomputable def w807:=v "GuillotineBaf" 807
noncomputable def w825:=v "GuillotineBlsf" 825
noncomputable def w833:=v "GuillotineBlsf" 833
noncomputable def w851:=v "GuillotineBssf" 851
noncomputable def w859:=v "GuillotineBssf" 859
noncomputable def w1327:=v "GuillotineBafMinas" 1327
noncomputable def w1345:=v "rectpack.maxrects" 1345
noncomputable def w1354:=v "MaxRects" 1354
noncomputable def w1362:=v "MaxRects" 1362
noncomputable def w1580:=v "rectpack.waste" 1580
noncomputable def w1647:=v "rectpack.skyline" 1647
noncomputable def w1649:=v "Skyline" 1649
noncomputable def w1657:=v "Skyline" 1657
noncomputable def w1794:=v "SkylineMwf" 1794
noncomputable def w1832:=v "SkylineMwfl" 1832
noncomputable def w1860:=v "SkylineBl" 1860
noncomputable def w1968:=v "rectpack.packer" 1968
noncomputable def w2078:=v "law_ay0036_05" 2078
noncomputable def nsE (P : Params) : List DictEntry := [r P "_wall" 193 21, r P "Point" 243 52, r P "Segment" 323 120, r P "HSegment" 358 151, r P "Rectangle" 537 300, r P "PackingAlgorithm" 667 401, r P "Guillotine" 798 488, r P "GuillotineBaf" 824 507, r P "GuillotineBlsf" 850 526, r P "GuillotineBssf" 876 545, r P "GuillotineBssfSas" 902 564, r P "GuillotineBssfLas" 928 583, r P "GuillotineBssfSlas" 954 602, r P "GuillotineBssfLlas" 980 621, r P "GuillotineBssfMaxas" 1006 640, r P "GuillotineBssfMinas" 1032 659, r P "GuillotineBlsfSas" 1058 678, r P "GuillotineBlsfLas" 1084 697, r P "GuillotineBlsfSlas" 1110 716, r P "GuillotineBlsfLlas" 1136 735, r P "GuillotineBlsfMaxas" 1162 754, r P "GuillotineBlsfMinas" 1188 773, r P "GuillotineBafSas" 1214 792, r P "GuillotineBafLas" 1240 811, r P "GuillotineBafSlas" 1266 830, r P "GuillotineBafLlas" 1292 849, r P "GuillotineBafMaxas" 1318 868, r P "GuillotineBafMinas" 1344 887, r P "first_item" 1353 896, r P "MaxRects" 1468 972, r P "MaxRectsBl" 1501 991, r P "MaxRectsBssf" 1527 1010, r P "MaxRectsBaf" 1553 1029, r P "MaxRectsBlsf" 1579 1048, r P "WasteManager" 1646 1099, r P "Skyline" 1785 1186, r P "SkylineMwf" 1823 1212, r P "SkylineMwfl" 1851 1231, r P "SkylineBl" 1877 1250, r P "SkylineBlWm" 1907 1271, r P "SkylineMwfWm" 1937 1292, r P "SkylineMwflWm" 1967 1313, r P "_new_packing" 1980 1322, r P "BinFactory" 2077 1388, r P "_law_ways" 2085 1399, r P "_law_at" 2094 1406, r P "_law_side" 2103 1413, r P "_law_cut" 2109 1418, r P "_law_within" 2117 1425, r P "_law_rests" 2123 1430, r P "law" 2129 1435]
noncomputable def nsB (P : Params) : List DictEntry := [e P "__doc__" 166 .none, e P "__package__" 167 .none, e P "__loader__" 168 (.builtin "__main__.__loader__#opaque"), e P "__spec__" 169 .none, r P "__annotations__" 170 6, r P "__builtins__" 171 4, e P "__file__" 173 w172, e P "__cached__" 174 .none]
noncomputable def xsE : List Value := [.int 1 0, .int 0 0, .ref 20, .int 5 0, .int 0 0, .ref 27, .int 16 0, .int 0 0, .ref 62, .int 47 0, .int 0 0, .ref 131, .int 56 0, .int 0 0, .ref 159, .int 157 0, .int 0 0, .ref 310, .int 205 0, .int 0 0, .ref 412, .int 276 0, .int 0 0, .ref 496, .int 282 0, .int 0 0, .ref 515, .int 288 0, .int 0 0, .ref 534, .int 294 0, .int 0 0, .ref 553, .int 301 0, .int 0 0, .ref 572, .int 308 0, .int 0 0, .ref 591, .int 315 0, .int 0 0, .ref 610, .int 322 0, .int 0 0, .ref 629, .int 329 0, .int 0 0, .ref 648, .int 336 0, .int 0 0, .ref 667, .int 343 0, .int 0 0, .ref 686, .int 350 0, .int 0 0, .ref 705, .int 357 0, .int 0 0, .ref 724, .int 364 0, .int 0 0, .ref 743, .int 371 0, .int 0 0, .ref 762, .int 378 0, .int 0 0, .ref 781, .int 385 0, .int 0 0, .ref 800, .int 392 0, .int 0 0, .ref 819, .int 399 0, .int 0 0, .ref 838, .int 406 0, .int 0 0, .ref 857, .int 413 0, .int 0 0, .ref 876, .int 421 0, .int 0 0, .ref 895, .int 423 0, .int 0 0, .ref 903, .int 499 0, .int 0 0, .ref 980, .int 512 0, .int 0 0, .ref 999, .int 518 0, .int 0 0, .ref 1018, .int 524 0, .int 0 0, .ref 1037, .int 531 0, .int 0 0, .ref 1057, .int 549 0, .int 0 0, .ref 1108, .int 665 0, .int 0 0, .ref 1194, .int 675 0, .int 0 0, .ref 1220, .int 682 0, .int 0 0, .ref 1239, .int 686 0, .int 0 0, .ref 1259, .int 691 0, .int 0 0, .ref 1280, .int 696 0, .int 0 0, .ref 1301, .int 702 0, .int 0 0, .ref 1321, .int 760 0, .int 0 0, .ref 1328, .int 799 0, .int 0 0, .ref 1398, .int 801 0, .int 0 0, .ref 1405, .int 803 0, .int 0 0, .ref 1412, .int 806 0, .int 0 0, .ref 1417, .int 814 0, .int 0 0, .ref 1424, .int 816 0, .int 0 0, .ref 1429, .int 832 0, .int 0 0, .ref 1434]
noncomputable def nz (P : Params) (x : Value) (k n : Nat) : Obj := di (e P "__name__" 165 x :: (nsB P ++ (nsE P).take k)) n
noncomputable def xz (n : Nat) : Obj := fi (xsE.take n)
noncomputable def o2:=cg "<module>" 182 "<module>" 183 184 [.int 1 0, .int 0 0, .int 0 0, .int 0 0, .int 0 0, .ref 11, .bool false, .int 181 0, .ref 12, .none, .none, .none, .none, .int 185 0, .int 1 0] 186
noncomputable def o3:=fr 13 3 (v "__main__" 164)
noncomputable def hA (P : Params) : Heap := ⟨⟨[boot_o_0 P, boot_o_1 P, boot_o_2 P, boot_o_3 P, boot_o_4 P, boot_o_5 P, boot_o_6 P, boot_o_7 P, boot_o_8 P, boot_o_9 P, boot_o_10 P, tu [], xz 0, o2, o3]⟩, {}⟩
noncomputable def t0 (P):=puts .nil [(0, boot_o_0 P), (1, boot_o_1 P), (2, boot_o_2 P), (3, boot_o_3 P), (4, boot_o_4 P), (5, boot_o_5 P), (6, boot_o_6 P), (7, boot_o_7 P), (8, boot_o_8 P), (9, boot_o_9 P), (10, boot_o_10 P), (11, tu []), (12, xz 0), (13, o2), (14, o3)]
noncomputable def o8:=tu [v "k" 190]
noncomputable def o10:=f0 (st 0) "_wall"
noncomputable def o11:=co "_wall" "_wall" 187 1 1 0 3 15 191
noncomputable def o12:=f1 (st 0) "_wall" (v "__main__" 164) 20
noncomputable def o13:=tu [.type "object"]
noncomputable def o15 (P):=di [e P "__module__" 203 w194, e P "__qualname__" 205 (v "Point" 204), e P "__firstlineno__" 207 (.int 5 206), r P "__init__" 216 35, r P "__eq__" 224 42, r P "distance_squared" 232 49, r P "__static_attributes__" 235 50] 7
noncomputable def o17:=fi [.int 7 0, .int 4 0, .ref 34, .int 11 0, .int 4 0, .ref 41, .int 14 0, .int 4 0, .ref 48]
noncomputable def o18:=cg "Point" 198 "Point" 199 200 [.int 5 0, .int 0 0, .int 0 0, .int 0 0, .int 0 0, .ref 25, .bool false, .int 181 0, .ref 26, .none, .none, .none, .none, .int 201 0, .int 5 0] 202
noncomputable def o19:=fr 27 24 w194
noncomputable def o22:=tu [v "self" 211, v "x" 212, v "y" 213]
noncomputable def o24:=f0 (me 2 0) "Point.__init__"
noncomputable def o25:=co "__init__" "Point.__init__" 208 7 3 0 3 29 214
noncomputable def o26:=f1 (me 2 0) "Point.__init__" w194 34
noncomputable def o29:=tu [v "self" 220, v "other" 221]
noncomputable def o31:=f0 (me 2 1) "Point.__eq__"
noncomputable def o32:=co "__eq__" "Point.__eq__" 217 11 2 0 3 36 222
noncomputable def o33:=f1 (me 2 1) "Point.__eq__" w194 41
noncomputable def o36:=tu [v "self" 228, v "point" 229]
noncomputable def o38:=f0 (me 2 2) "Point.distance_squared"
noncomputable def o39:=co "distance_squared" "Point.distance_squared" 225 14 2 0 3 43 230
noncomputable def o40:=f1 (me 2 2) "Point.distance_squared" w194 48
noncomputable def o41:=tu [v "x" 233, v "y" 234]
noncomputable def o42 (P):=di [e P "__module__" 203 w194, e P "__firstlineno__" 207 (.int 5 206), r P "__init__" 216 35, r P "__eq__" 224 42, r P "distance_squared" 232 49, r P "__static_attributes__" 235 50, r P "__dict__" 237 53, r P "__weakref__" 239 54, e P "__doc__" 240 .none, e P "__hash__" 241 .none] 5
noncomputable def o43:=kl "Point" [O] [.ref 52, O] 51 [] (.ref 22) 196 204
noncomputable def o44:=ff "getset_descriptor" [v "__dict__" 236, .ref 52, .builtin "function.__dict__", .builtin "function.__dict__#set"]
noncomputable def o45:=ff "getset_descriptor" [v "__weakref__" 238, .ref 52, .builtin "ExceptionGroup.__weakref__", .none]
noncomputable def t1 (P):=puts (t0 P) [(3, nz P w194 2 11), (12, xz 6), (15, tu []), (16, x3 []), (17, o8), (18, tu []), (19, o10), (20, o11), (21, o12), (22, o13), (23, bp), (24, o15 P), (25, tu []), (26, o17), (27, o18), (28, o19), (29, tu []), (30, x3 []), (31, o22), (32, tu []), (33, o24), (34, o25), (35, o26), (36, tu []), (37, x3 []), (38, o29), (39, tu []), (40, o31), (41, o32), (42, o33), (43, tu []), (44, x3 []), (45, o36), (46, tu []), (47, o38), (48, o39), (49, o40), (50, o41), (51, o42 P), (52, o43), (53, o44), (54, o45), (55, su 52), (56, bs 52)]
noncomputable def o52 (P):=di [e P "__module__" 251 w194, e P "__qualname__" 253 w252, e P "__firstlineno__" 255 (.int 16 254), r P "__init__" 264 70, r P "__eq__" 272 77, r P "length_squared" 280 85, r P "top" 288 93, r P "bottom" 296 101, r P "right" 304 109, r P "left" 312 117, r P "__static_attributes__" 315 118] 11
noncomputable def o54:=fi [.int 18 0, .int 4 0, .ref 69, .int 23 0, .int 4 0, .ref 76, .int 29 0, .int 4 0, .ref 83, .int 33 0, .int 4 0, .ref 91, .int 37 0, .int 4 0, .ref 99, .int 41 0, .int 4 0, .ref 107, .int 45 0, .int 4 0, .ref 115]
noncomputable def o55:=cg "Segment" 246 "Segment" 247 248 [.int 16 0, .int 0 0, .int 0 0, .int 0 0, .int 0 0, .ref 60, .bool false, .int 181 0, .ref 61, .none, .none, .none, .none, .int 249 0, .int 16 0] 250
noncomputable def o56:=fr 62 59 w194
noncomputable def o59:=tu [v "self" 259, v "start" 260, v "end" 261]
noncomputable def o61:=f0 (me 3 0) "Segment.__init__"
noncomputable def o62:=co "__init__" "Segment.__init__" 256 18 3 0 3 64 262
noncomputable def o63:=f1 (me 3 0) "Segment.__init__" w194 69
noncomputable def o66:=tu [v "self" 268, v "other" 269]
noncomputable def o68:=f0 (me 3 1) "Segment.__eq__"
noncomputable def o69:=co "__eq__" "Segment.__eq__" 265 23 2 0 3 71 270
noncomputable def o70:=f1 (me 3 1) "Segment.__eq__" w194 76
noncomputable def o73:=tu [v "self" 276]
noncomputable def o75:=f0 (me 3 2) "Segment.length_squared"
noncomputable def o76:=co "length_squared" "Segment.length_squared" 273 28 1 0 3 78 277
noncomputable def o77:=f1 (me 3 2) "Segment.length_squared" w194 83
noncomputable def o78:=ff "property" [.ref 84, .none, .none, .none, v "length_squared" 280, .bool false]
noncomputable def o81:=tu [v "self" 284]
noncomputable def o83:=f0 (me 3 3) "Segment.top"
noncomputable def o84:=co "top" "Segment.top" 281 32 1 0 3 86 285
noncomputable def o85:=f1 (me 3 3) "Segment.top" w194 91
noncomputable def o86:=ff "property" [.ref 92, .none, .none, .none, v "top" 288, .bool false]
noncomputable def o89:=tu [v "self" 292]
noncomputable def o91:=f0 (me 3 4) "Segment.bottom"
noncomputable def o92:=co "bottom" "Segment.bottom" 289 36 1 0 3 94 293
noncomputable def o93:=f1 (me 3 4) "Segment.bottom" w194 99
noncomputable def o94:=ff "property" [.ref 100, .none, .none, .none, v "bottom" 296, .bool false]
noncomputable def o97:=tu [v "self" 300]
noncomputable def o99:=f0 (me 3 5) "Segment.right"
noncomputable def o100:=co "right" "Segment.right" 297 40 1 0 3 102 301
noncomputable def o101:=f1 (me 3 5) "Segment.right" w194 107
noncomputable def o102:=ff "property" [.ref 108, .none, .none, .none, v "right" 304, .bool false]
noncomputable def o105:=tu [v "self" 308]
noncomputable def o107:=f0 (me 3 6) "Segment.left"
noncomputable def o108:=co "left" "Segment.left" 305 44 1 0 3 110 309
noncomputable def o109:=f1 (me 3 6) "Segment.left" w194 115
noncomputable def o110:=ff "property" [.ref 116, .none, .none, .none, v "left" 312, .bool false]
noncomputable def o111:=tu [v "end" 313, v "start" 314]
noncomputable def o112 (P):=di [e P "__module__" 251 w194, e P "__firstlineno__" 255 (.int 16 254), r P "__init__" 264 70, r P "__eq__" 272 77, r P "length_squared" 280 85, r P "top" 288 93, r P "bottom" 296 101, r P "right" 304 109, r P "left" 312 117, r P "__static_attributes__" 315 118, r P "__dict__" 317 121, r P "__weakref__" 319 122, e P "__doc__" 320 .none, e P "__hash__" 321 .none] 5
noncomputable def o114:=ff "getset_descriptor" [v "__dict__" 316, .ref 120, .builtin "function.__dict__", .builtin "function.__dict__#set"]
noncomputable def o115:=ff "getset_descriptor" [v "__weakref__" 318, .ref 120, .builtin "ExceptionGroup.__weakref__", .none]
noncomputable def t2 (P):=puts (t1 P) [(3, nz P w194 3 12), (12, xz 9), (57, o13), (58, bp), (59, o52 P), (60, tu []), (61, o54), (62, o55), (63, o56), (64, tu []), (65, x3 []), (66, o59), (67, tu []), (68, o61), (69, o62), (70, o63), (71, tu []), (72, x3 []), (73, o66), (74, tu []), (75, o68), (76, o69), (77, o70), (78, tu []), (79, x3 []), (80, o73), (81, tu []), (82, o75), (83, o76), (84, o77), (85, o78), (86, tu []), (87, x3 []), (88, o81), (89, tu []), (90, o83), (91, o84), (92, o85), (93, o86), (94, tu []), (95, x3 []), (96, o89), (97, tu []), (98, o91), (99, o92), (100, o93), (101, o94), (102, tu []), (103, x3 []), (104, o97), (105, tu []), (106, o99), (107, o100), (108, o101), (109, o102), (110, tu []), (111, x3 []), (112, o105), (113, tu []), (114, o107), (115, o108), (116, o109), (117, o110), (118, o111), (119, o112 P), (120, kl "Segment" [O] [.ref 120, O] 119 [] (.ref 57) 244 252), (121, o114), (122, o115), (123, su 120), (124, bs 120)]
noncomputable def o120:=kl "Segment" [O] [.ref 120, O] 119 [.ref 151] (.ref 57) 244 252
noncomputable def o121:=tu [.ref 120]
noncomputable def o123 (P):=di [e P "__module__" 331 w194, e P "__qualname__" 333 (v "HSegment" 332), e P "__firstlineno__" 335 (.int 47 334), r P "__init__" 345 140, r P "length" 353 148, r P "__static_attributes__" 354 149, r P "__classcell__" 355 128] 7
noncomputable def o126:=fi [.int 49 0, .int 4 0, .ref 139, .int 54 0, .int 4 0, .ref 146]
noncomputable def o127:=cg "HSegment" 326 "HSegment" 327 328 [.int 47 0, .int 0 0, .int 0 0, .int 0 0, .int 0 0, .ref 129, .bool false, .int 181 0, .ref 130, .none, .none, .none, .none, .int 329 0, .int 47 0] 330
noncomputable def o128:=fr 131 127 w194
noncomputable def o129:=tu [.ref 128]
noncomputable def o130:=tu [v "__class__" 339]
noncomputable def o132:=tu [v "self" 340, v "start" 341, v "length" 342]
noncomputable def o134:=f0 (me 4 0) "HSegment.__init__"
noncomputable def o135:=co "__init__" "HSegment.__init__" 336 49 3 0 3 134 343
noncomputable def o136:=f3 (me 4 0) "HSegment.__init__" [(s "__class__", 128)] .none w194 139 (.ref 133)
noncomputable def o139:=tu [v "self" 349]
noncomputable def o141:=f0 (me 4 1) "HSegment.length"
noncomputable def o142:=co "length" "HSegment.length" 346 53 1 0 3 141 350
noncomputable def o143:=f1 (me 4 1) "HSegment.length" w194 146
noncomputable def o144:=ff "property" [.ref 147, .none, .none, .none, v "length" 353, .bool false]
noncomputable def o146 (P):=di [e P "__module__" 331 w194, e P "__firstlineno__" 335 (.int 47 334), r P "__init__" 345 140, r P "length" 353 148, r P "__static_attributes__" 354 149, e P "__doc__" 356 .none] 3
noncomputable def o147:=kl "HSegment" [.ref 120] [.ref 151, .ref 120, O] 150 [] (.ref 125) 324 332
noncomputable def t3 (P):=puts (t2 P) [(3, nz P w194 4 13), (12, xz 12), (120, o120), (125, o121), (126, bp), (127, o123 P), (128, ce 151), (129, tu []), (130, o126), (131, o127), (132, o128), (133, o129), (134, o130), (135, x3 []), (136, o132), (137, tu []), (138, o134), (139, o135), (140, o136), (141, tu []), (142, x3 []), (143, o139), (144, tu []), (145, o141), (146, o142), (147, o143), (148, o144), (149, tu []), (150, o146 P), (151, o147), (152, su 151), (153, bs 151)]
noncomputable def o154 (P):=di [e P "__module__" 366 w194, e P "__qualname__" 368 (v "Rectangle" 367), e P "__firstlineno__" 370 (.int 56 369), r P "__init__" 382 168, r P "bottom" 390 176, r P "top" 398 184, r P "left" 406 192, r P "right" 414 200, r P "corner_top_l" 422 208, r P "corner_top_r" 430 216, r P "corner_bot_r" 438 224, r P "corner_bot_l" 446 232, r P "__lt__" 454 239, r P "__eq__" 462 246, r P "__iter__" 469 253, r P "area" 476 260, r P "move" 485 267, r P "contains" 493 274, r P "intersects" 502 282, r P "intersection" 511 290, r P "join" 523 297, r P "__static_attributes__" 529 298] 22
noncomputable def o156:=fi [.int 58 0, .int 4 0, .ref 167, .int 67 0, .int 4 0, .ref 174, .int 71 0, .int 4 0, .ref 182, .int 75 0, .int 4 0, .ref 190, .int 79 0, .int 4 0, .ref 198, .int 83 0, .int 4 0, .ref 206, .int 87 0, .int 4 0, .ref 214, .int 91 0, .int 4 0, .ref 222, .int 95 0, .int 4 0, .ref 230, .int 98 0, .int 4 0, .ref 238, .int 101 0, .int 4 0, .ref 245, .int 106 0, .int 4 0, .ref 252, .int 112 0, .int 4 0, .ref 259, .int 115 0, .int 4 0, .ref 266, .int 118 0, .int 4 0, .ref 273, .int 121 0, .int 4 0, .ref 281, .int 129 0, .int 4 0, .ref 289, .int 132 0, .int 4 0, .ref 296]
noncomputable def o157:=cg "Rectangle" 361 "Rectangle" 362 363 [.int 56 0, .int 0 0, .int 0 0, .int 0 0, .int 0 0, .ref 157, .bool false, .int 181 0, .ref 158, .none, .none, .none, .none, .int 364 0, .int 56 0] 365
noncomputable def o158:=fr 159 156 w194
noncomputable def o159:=tu [.none]
noncomputable def o162:=tu [v "self" 374, v "x" 375, v "y" 376, v "width" 377, v "height" 378, v "rid" 379]
noncomputable def o164:=f0 (me 5 0) "Rectangle.__init__"
noncomputable def o165:=co "__init__" "Rectangle.__init__" 371 58 6 0 3 162 380
noncomputable def o166:=f2 (me 5 0) "Rectangle.__init__" (.ref 161) w194 167
noncomputable def o169:=tu [v "self" 386]
noncomputable def o171:=f0 (me 5 1) "Rectangle.bottom"
noncomputable def o172:=co "bottom" "Rectangle.bottom" 383 66 1 0 3 169 387
noncomputable def o173:=f1 (me 5 1) "Rectangle.bottom" w194 174
noncomputable def o174:=ff "property" [.ref 175, .none, .none, .none, v "bottom" 390, .bool false]
noncomputable def o177:=tu [v "self" 394]
noncomputable def o179:=f0 (me 5 2) "Rectangle.top"
noncomputable def o180:=co "top" "Rectangle.top" 391 70 1 0 3 177 395
noncomputable def o181:=f1 (me 5 2) "Rectangle.top" w194 182
noncomputable def o182:=ff "property" [.ref 183, .none, .none, .none, v "top" 398, .bool false]
noncomputable def o185:=tu [v "self" 402]
noncomputable def o187:=f0 (me 5 3) "Rectangle.left"
noncomputable def o188:=co "left" "Rectangle.left" 399 74 1 0 3 185 403
noncomputable def o189:=f1 (me 5 3) "Rectangle.left" w194 190
noncomputable def o190:=ff "property" [.ref 191, .none, .none, .none, v "left" 406, .bool false]
noncomputable def o193:=tu [v "self" 410]
noncomputable def o195:=f0 (me 5 4) "Rectangle.right"
noncomputable def o196:=co "right" "Rectangle.right" 407 78 1 0 3 193 411
noncomputable def o197:=f1 (me 5 4) "Rectangle.right" w194 198
noncomputable def o198:=ff "property" [.ref 199, .none, .none, .none, v "right" 414, .bool false]
noncomputable def o201:=tu [v "self" 418]
noncomputable def o203:=f0 (me 5 5) "Rectangle.corner_top_l"
noncomputable def o204:=co "corner_top_l" "Rectangle.corner_top_l" 415 82 1 0 3 201 419
noncomputable def o205:=f1 (me 5 5) "Rectangle.corner_top_l" w194 206
noncomputable def o206:=ff "property" [.ref 207, .none, .none, .none, v "corner_top_l" 422, .bool false]
noncomputable def o209:=tu [v "self" 426]
noncomputable def o211:=f0 (me 5 6) "Rectangle.corner_top_r"
noncomputable def o212:=co "corner_top_r" "Rectangle.corner_top_r" 423 86 1 0 3 209 427
noncomputable def o213:=f1 (me 5 6) "Rectangle.corner_top_r" w194 214
noncomputable def o214:=ff "property" [.ref 215, .none, .none, .none, v "corner_top_r" 430, .bool false]
noncomputable def o217:=tu [v "self" 434]
noncomputable def o219:=f0 (me 5 7) "Rectangle.corner_bot_r"
noncomputable def o220:=co "corner_bot_r" "Rectangle.corner_bot_r" 431 90 1 0 3 217 435
noncomputable def o221:=f1 (me 5 7) "Rectangle.corner_bot_r" w194 222
noncomputable def o222:=ff "property" [.ref 223, .none, .none, .none, v "corner_bot_r" 438, .bool false]
noncomputable def o225:=tu [v "self" 442]
noncomputable def o227:=f0 (me 5 8) "Rectangle.corner_bot_l"
noncomputable def o228:=co "corner_bot_l" "Rectangle.corner_bot_l" 439 94 1 0 3 225 443
noncomputable def o229:=f1 (me 5 8) "Rectangle.corner_bot_l" w194 230
noncomputable def o230:=ff "property" [.ref 231, .none, .none, .none, v "corner_bot_l" 446, .bool false]
noncomputable def o233:=tu [v "self" 450, v "other" 451]
noncomputable def o235:=f0 (me 5 9) "Rectangle.__lt__"
noncomputable def o236:=co "__lt__" "Rectangle.__lt__" 447 98 2 0 3 233 452
noncomputable def o237:=f1 (me 5 9) "Rectangle.__lt__" w194 238
noncomputable def o240:=tu [v "self" 458, v "other" 459]
noncomputable def o242:=f0 (me 5 10) "Rectangle.__eq__"
noncomputable def o243:=co "__eq__" "Rectangle.__eq__" 455 101 2 0 3 240 460
noncomputable def o244:=f1 (me 5 10) "Rectangle.__eq__" w194 245
noncomputable def o247:=tu [v "self" 466]
noncomputable def o249:=f0 (me 5 11) "Rectangle.__iter__"
noncomputable def o250:=co "__iter__" "Rectangle.__iter__" 463 106 1 0 35 247 467
noncomputable def o251:=f1 (me 5 11) "Rectangle.__iter__" w194 252
noncomputable def o254:=tu [v "self" 473]
noncomputable def o256:=f0 (me 5 12) "Rectangle.area"
noncomputable def o257:=co "area" "Rectangle.area" 470 112 1 0 3 254 474
noncomputable def o258:=f1 (me 5 12) "Rectangle.area" w194 259
noncomputable def o261:=tu [v "self" 480, v "x" 481, v "y" 482]
noncomputable def o263:=f0 (me 5 13) "Rectangle.move"
noncomputable def o264:=co "move" "Rectangle.move" 477 115 3 0 3 261 483
noncomputable def o265:=f1 (me 5 13) "Rectangle.move" w194 266
noncomputable def o268:=tu [v "self" 489, v "rect" 490]
noncomputable def o270:=f0 (me 5 14) "Rectangle.contains"
noncomputable def o271:=co "contains" "Rectangle.contains" 486 118 2 0 3 268 491
noncomputable def o272:=f1 (me 5 14) "Rectangle.contains" w194 273
noncomputable def o273:=tu [.bool false]
noncomputable def o276:=tu [v "self" 497, v "rect" 498, v "edges" 499]
noncomputable def o278:=f0 (me 5 15) "Rectangle.intersects"
noncomputable def o279:=co "intersects" "Rectangle.intersects" 494 121 3 0 3 276 500
noncomputable def o280:=f2 (me 5 15) "Rectangle.intersects" (.ref 275) w194 281
noncomputable def o284:=tu [v "self" 506, v "rect" 507, v "edges" 508]
noncomputable def o286:=f0 (me 5 16) "Rectangle.intersection"
noncomputable def o287:=co "intersection" "Rectangle.intersection" 503 129 3 0 3 284 509
noncomputable def o288:=f2 (me 5 16) "Rectangle.intersection" (.ref 283) w194 289
noncomputable def o291:=tu [v "self" 515, v "other" 516, v "y_min" 517, v "y_max" 518, v "x_min" 519, v "x_max" 520]
noncomputable def o293:=f0 (me 5 17) "Rectangle.join"
noncomputable def o294:=co "join" "Rectangle.join" 512 132 2 0 3 291 521
noncomputable def o295:=f1 (me 5 17) "Rectangle.join" w194 296
noncomputable def o296:=tu [v "height" 524, v "rid" 525, v "width" 526, v "x" 527, v "y" 528]
noncomputable def o297 (P):=di [e P "__module__" 366 w194, e P "__firstlineno__" 370 (.int 56 369), r P "__init__" 382 168, r P "bottom" 390 176, r P "top" 398 184, r P "left" 406 192, r P "right" 414 200, r P "corner_top_l" 422 208, r P "corner_top_r" 430 216, r P "corner_bot_r" 438 224, r P "corner_bot_l" 446 232, r P "__lt__" 454 239, r P "__eq__" 462 246, r P "__iter__" 469 253, r P "area" 476 260, r P "move" 485 267, r P "contains" 493 274, r P "intersects" 502 282, r P "intersection" 511 290, r P "join" 523 297, r P "__static_attributes__" 529 298, r P "__dict__" 531 301, r P "__weakref__" 533 302, e P "__doc__" 534 .none, e P "__hash__" 535 .none] 5
noncomputable def o298:=kl "Rectangle" [O] [.ref 300, O] 299 [] (.ref 154) 359 367
noncomputable def o299:=ff "getset_descriptor" [v "__dict__" 530, .ref 300, .builtin "function.__dict__", .builtin "function.__dict__#set"]
noncomputable def o300:=ff "getset_descriptor" [v "__weakref__" 532, .ref 300, .builtin "ExceptionGroup.__weakref__", .none]
noncomputable def t4 (P):=puts (t3 P) [(3, nz P w194 5 14), (12, xz 15), (154, o13), (155, bp), (156, o154 P), (157, tu []), (158, o156), (159, o157), (160, o158), (161, o159), (162, tu []), (163, x3 []), (164, o162), (165, tu []), (166, o164), (167, o165), (168, o166), (169, tu []), (170, x3 []), (171, o169), (172, tu []), (173, o171), (174, o172), (175, o173), (176, o174), (177, tu []), (178, x3 []), (179, o177), (180, tu []), (181, o179), (182, o180), (183, o181), (184, o182), (185, tu []), (186, x3 []), (187, o185), (188, tu []), (189, o187), (190, o188), (191, o189), (192, o190), (193, tu []), (194, x3 []), (195, o193), (196, tu []), (197, o195), (198, o196), (199, o197), (200, o198), (201, tu []), (202, x3 []), (203, o201), (204, tu []), (205, o203), (206, o204), (207, o205), (208, o206), (209, tu []), (210, x3 []), (211, o209), (212, tu []), (213, o211), (214, o212), (215, o213), (216, o214), (217, tu []), (218, x3 []), (219, o217), (220, tu []), (221, o219), (222, o220), (223, o221), (224, o222), (225, tu []), (226, x3 []), (227, o225), (228, tu []), (229, o227), (230, o228), (231, o229), (232, o230), (233, tu []), (234, x3 []), (235, o233), (236, tu []), (237, o235), (238, o236), (239, o237), (240, tu []), (241, x3 []), (242, o240), (243, tu []), (244, o242), (245, o243), (246, o244), (247, tu []), (248, x3 []), (249, o247), (250, tu []), (251, o249), (252, o250), (253, o251), (254, tu []), (255, x3 []), (256, o254), (257, tu []), (258, o256), (259, o257), (260, o258), (261, tu []), (262, x3 []), (263, o261), (264, tu []), (265, o263), (266, o264), (267, o265), (268, tu []), (269, x3 []), (270, o268), (271, tu []), (272, o270), (273, o271), (274, o272), (275, o273), (276, tu []), (277, x3 []), (278, o276), (279, tu []), (280, o278), (281, o279), (282, o280), (283, o273), (284, tu []), (285, x3 []), (286, o284), (287, tu []), (288, o286), (289, o287), (290, o288), (291, tu []), (292, x3 []), (293, o291), (294, tu []), (295, o293), (296, o294), (297, o295), (298, o296), (299, o297 P), (300, o298), (301, o299), (302, o300), (303, su 300), (304, bs 300)]
noncomputable def t5 (P):=puts (t4 P) [(3, nz P w538 5 14)]
noncomputable def o308 (P):=di [e P "__module__" 547 w538, e P "__qualname__" 549 w548, e P "__firstlineno__" 551 (.int 157 550), r P "__init__" 564 319, r P "__len__" 571 326, r P "__iter__" 579 333, r P "_fits_surface" 588 340, r P "__getitem__" 596 347, r P "used_area" 603 354, r P "fitness" 613 362, r P "add_rect" 623 370, r P "rect_list" 632 377, r P "validate_packing" 639 384, r P "is_empty" 646 391, r P "reset" 653 398, r P "__static_attributes__" 660 399] 16
noncomputable def o310:=fi [.int 159 0, .int 4 0, .ref 318, .int 168 0, .int 4 0, .ref 325, .int 171 0, .int 4 0, .ref 332, .int 175 0, .int 4 0, .ref 339, .int 178 0, .int 4 0, .ref 346, .int 181 0, .int 4 0, .ref 353, .int 184 0, .int 4 0, .ref 361, .int 187 0, .int 4 0, .ref 369, .int 190 0, .int 4 0, .ref 376, .int 196 0, .int 4 0, .ref 383, .int 199 0, .int 4 0, .ref 390, .int 202 0, .int 4 0, .ref 397]
noncomputable def o311:=cg "PackingAlgorithm" 542 "PackingAlgorithm" 543 544 [.int 157 0, .int 0 0, .int 0 0, .int 0 0, .int 0 0, .ref 308, .bool false, .int 181 0, .ref 309, .none, .none, .none, .none, .int 545 0, .int 157 0] 546
noncomputable def o312:=fr 310 307 w538
noncomputable def o313:=tu [.bool true, .none]
noncomputable def o316:=tu [v "self" 555, v "width" 556, v "height" 557, v "rot" 558, v "bid" 559, v "args" 560, v "kwargs" 561]
noncomputable def o318:=f0 (me 7 0) "PackingAlgorithm.__init__"
noncomputable def o319:=co "__init__" "PackingAlgorithm.__init__" 552 159 5 0 15 313 562
noncomputable def o320:=f2 (me 7 0) "PackingAlgorithm.__init__" (.ref 312) w538 318
noncomputable def o323:=tu [v "self" 568]
noncomputable def o325:=f0 (me 7 1) "PackingAlgorithm.__len__"
noncomputable def o326:=co "__len__" "PackingAlgorithm.__len__" 565 168 1 0 3 320 569
noncomputable def o327:=f1 (me 7 1) "PackingAlgorithm.__len__" w538 325
noncomputable def o330:=tu [v "self" 575, v "r" 576]
noncomputable def o332:=f0 (me 7 2) "PackingAlgorithm.__iter__"
noncomputable def o333:=co "__iter__" "PackingAlgorithm.__iter__" 572 171 1 0 35 327 577
noncomputable def o334:=f1 (me 7 2) "PackingAlgorithm.__iter__" w538 332
noncomputable def o337:=tu [v "self" 583, v "width" 584, v "height" 585]
noncomputable def o339:=f0 (me 7 3) "PackingAlgorithm._fits_surface"
noncomputable def o340:=co "_fits_surface" "PackingAlgorithm._fits_surface" 580 175 3 0 3 334 586
noncomputable def o341:=f1 (me 7 3) "PackingAlgorithm._fits_surface" w538 339
noncomputable def o344:=tu [v "self" 592, v "key" 593]
noncomputable def o346:=f0 (me 7 4) "PackingAlgorithm.__getitem__"
noncomputable def o347:=co "__getitem__" "PackingAlgorithm.__getitem__" 589 178 2 0 3 341 594
noncomputable def o348:=f1 (me 7 4) "PackingAlgorithm.__getitem__" w538 346
noncomputable def o351:=tu [v "self" 600]
noncomputable def o353:=f0 (me 7 5) "PackingAlgorithm.used_area"
noncomputable def o354:=co "used_area" "PackingAlgorithm.used_area" 597 181 1 0 3 348 601
noncomputable def o355:=f1 (me 7 5) "PackingAlgorithm.used_area" w538 353
noncomputable def o359:=tu [v "self" 607, v "width" 608, v "height" 609, v "rot" 610]
noncomputable def o361:=f0 (me 7 6) "PackingAlgorithm.fitness"
noncomputable def o362:=co "fitness" "PackingAlgorithm.fitness" 604 184 4 0 3 356 611
noncomputable def o363:=f2 (me 7 6) "PackingAlgorithm.fitness" (.ref 355) w538 361
noncomputable def o367:=tu [v "self" 617, v "width" 618, v "height" 619, v "rid" 620]
noncomputable def o369:=f0 (me 7 7) "PackingAlgorithm.add_rect"
noncomputable def o370:=co "add_rect" "PackingAlgorithm.add_rect" 614 187 4 0 3 364 621
noncomputable def o371:=f2 (me 7 7) "PackingAlgorithm.add_rect" (.ref 363) w538 369
noncomputable def o374:=tu [v "self" 627, v "rectangle_list" 628, v "r" 629]
noncomputable def o376:=f0 (me 7 8) "PackingAlgorithm.rect_list"
noncomputable def o377:=co "rect_list" "PackingAlgorithm.rect_list" 624 190 1 0 3 371 630
noncomputable def o378:=f1 (me 7 8) "PackingAlgorithm.rect_list" w538 376
noncomputable def o381:=tu [v "self" 636]
noncomputable def o383:=f0 (me 7 9) "PackingAlgorithm.validate_packing"
noncomputable def o384:=co "validate_packing" "PackingAlgorithm.validate_packing" 633 196 1 0 3 378 637
noncomputable def o385:=f1 (me 7 9) "PackingAlgorithm.validate_packing" w538 383
noncomputable def o388:=tu [v "self" 643]
noncomputable def o390:=f0 (me 7 10) "PackingAlgorithm.is_empty"
noncomputable def o391:=co "is_empty" "PackingAlgorithm.is_empty" 640 199 1 0 3 385 644
noncomputable def o392:=f1 (me 7 10) "PackingAlgorithm.is_empty" w538 390
noncomputable def o395:=tu [v "self" 650]
noncomputable def o397:=f0 (me 7 11) "PackingAlgorithm.reset"
noncomputable def o398:=co "reset" "PackingAlgorithm.reset" 647 202 1 0 3 392 651
noncomputable def o399:=f1 (me 7 11) "PackingAlgorithm.reset" w538 397
noncomputable def o400:=tu [v "_surface" 654, v "bid" 655, v "height" 656, v "rectangles" 657, v "rot" 658, v "width" 659]
noncomputable def o401 (P):=di [e P "__module__" 547 w538, e P "__firstlineno__" 551 (.int 157 550), r P "__init__" 564 319, r P "__len__" 571 326, r P "__iter__" 579 333, r P "_fits_surface" 588 340, r P "__getitem__" 596 347, r P "used_area" 603 354, r P "fitness" 613 362, r P "add_rect" 623 370, r P "rect_list" 632 377, r P "validate_packing" 639 384, r P "is_empty" 646 391, r P "reset" 653 398, r P "__static_attributes__" 660 399, r P "__dict__" 662 402, r P "__weakref__" 664 403, e P "__doc__" 665 .none] 4
noncomputable def o403:=ff "getset_descriptor" [v "__dict__" 661, .ref 401, .builtin "function.__dict__", .builtin "function.__dict__#set"]
noncomputable def o404:=ff "getset_descriptor" [v "__weakref__" 663, .ref 401, .builtin "ExceptionGroup.__weakref__", .none]
noncomputable def t6 (P):=puts (t5 P) [(3, nz P w538 6 15), (12, xz 18), (305, o13), (306, bp), (307, o308 P), (308, tu []), (309, o310), (310, o311), (311, o312), (312, o313), (313, tu []), (314, x3 []), (315, o316), (316, tu []), (317, o318), (318, o319), (319, o320), (320, tu []), (321, x3 []), (322, o323), (323, tu []), (324, o325), (325, o326), (326, o327), (327, tu []), (328, x3 []), (329, o330), (330, tu []), (331, o332), (332, o333), (333, o334), (334, tu []), (335, x3 []), (336, o337), (337, tu []), (338, o339), (339, o340), (340, o341), (341, tu []), (342, x3 []), (343, o344), (344, tu []), (345, o346), (346, o347), (347, o348), (348, tu []), (349, x3 []), (350, o351), (351, tu []), (352, o353), (353, o354), (354, o355), (355, o273), (356, tu []), (357, x3 []), (358, o359), (359, tu []), (360, o361), (361, o362), (362, o363), (363, o159), (364, tu []), (365, x3 []), (366, o367), (367, tu []), (368, o369), (369, o370), (370, o371), (371, tu []), (372, x3 []), (373, o374), (374, tu []), (375, o376), (376, o377), (377, o378), (378, tu []), (379, x3 []), (380, o381), (381, tu []), (382, o383), (383, o384), (384, o385), (385, tu []), (386, x3 []), (387, o388), (388, tu []), (389, o390), (390, o391), (391, o392), (392, tu []), (393, x3 []), (394, o395), (395, tu []), (396, o397), (397, o398), (398, o399), (399, o400), (400, o401 P), (401, kl "PackingAlgorithm" [O] [.ref 401, O] 400 [] (.ref 305) 540 548), (402, o403), (403, o404), (404, su 401), (405, bs 401)]
noncomputable def t7 (P):=puts (t6 P) [(3, nz P w668 6 15)]
noncomputable def o411:=tu [.ref 401]
noncomputable def o413 (P):=di [e P "__module__" 677 w668, e P "__qualname__" 679 w678, e P "__firstlineno__" 681 (.int 205 680), r P "__init__" 695 422, r P "_add_section" 701 427, r P "_split_horizontal" 711 434, r P "_split_vertical" 721 441, r P "_split" 731 448, r P "_section_fitness" 741 455, r P "_select_fittest_section" 759 462, r P "add_rect" 772 470, r P "fitness" 783 477, r P "reset" 791 485, r P "__static_attributes__" 794 486, r P "__classcell__" 795 409] 15
noncomputable def o416:=fi [.int 207 0, .int 4 0, .ref 421, .int 211 0, .int 4 0, .ref 426, .int 219 0, .int 4 0, .ref 433, .int 225 0, .int 4 0, .ref 440, .int 231 0, .int 4 0, .ref 447, .int 234 0, .int 4 0, .ref 454, .int 237 0, .int 4 0, .ref 461, .int 249 0, .int 4 0, .ref 469, .int 262 0, .int 4 0, .ref 476, .int 272 0, .int 4 0, .ref 484]
noncomputable def o417:=cg "Guillotine" 672 "Guillotine" 673 674 [.int 205 0, .int 0 0, .int 0 0, .int 0 0, .int 0 0, .ref 410, .bool false, .int 181 0, .ref 411, .none, .none, .none, .none, .int 675 0, .int 205 0] 676
noncomputable def o418:=fr 412 408 w668
noncomputable def o419:=tu [.bool true, .bool true]
noncomputable def o420:=tu [.ref 409]
noncomputable def o421:=tu [v "__class__" 685]
noncomputable def o423:=tu [v "self" 686, v "width" 687, v "height" 688, v "rot" 689, v "merge" 690, v "args" 691, v "kwargs" 692]
noncomputable def o425:=f0 (me 9 0) "Guillotine.__init__"
noncomputable def o426:=co "__init__" "Guillotine.__init__" 682 207 5 0 15 416 693
noncomputable def o427:=f3 (me 9 0) "Guillotine.__init__" [(s "__class__", 409)] (.ref 414) w668 421 (.ref 415)
noncomputable def o430:=f0 (me 9 1) "Guillotine._add_section"
noncomputable def o431:=cg "_add_section" 696 "Guillotine._add_section" 697 698 [.int 211 0, .int 2 0, .int 0 0, .int 0 0, .int 3 0, .ref 423, .bool true, .int 181 0, .ref 424, .none, .none, .none, .ref 425, .int 699 0, .int 211 0] 700
noncomputable def o432:=f1 (me 9 1) "Guillotine._add_section" w668 426
noncomputable def o435:=tu [v "self" 705, v "section" 706, v "width" 707, v "height" 708]
noncomputable def o437:=f0 (me 9 2) "Guillotine._split_horizontal"
noncomputable def o438:=co "_split_horizontal" "Guillotine._split_horizontal" 702 219 4 0 3 428 709
noncomputable def o439:=f1 (me 9 2) "Guillotine._split_horizontal" w668 433
noncomputable def o442:=tu [v "self" 715, v "section" 716, v "width" 717, v "height" 718]
noncomputable def o444:=f0 (me 9 3) "Guillotine._split_vertical"
noncomputable def o445:=co "_split_vertical" "Guillotine._split_vertical" 712 225 4 0 3 435 719
noncomputable def o446:=f1 (me 9 3) "Guillotine._split_vertical" w668 440
noncomputable def o449:=tu [v "self" 725, v "section" 726, v "width" 727, v "height" 728]
noncomputable def o451:=f0 (me 9 4) "Guillotine._split"
noncomputable def o452:=co "_split" "Guillotine._split" 722 231 4 0 3 442 729
noncomputable def o453:=f1 (me 9 4) "Guillotine._split" w668 447
noncomputable def o456:=tu [v "self" 735, v "section" 736, v "width" 737, v "height" 738]
noncomputable def o458:=f0 (me 9 5) "Guillotine._section_fitness"
noncomputable def o459:=co "_section_fitness" "Guillotine._section_fitness" 732 234 4 0 3 449 739
noncomputable def o460:=f1 (me 9 5) "Guillotine._section_fitness" w668 454
noncomputable def o463:=tu [v "self" 745, v "w" 746, v "h" 747, v "fitn" 748, v "fitr" 749, v "fit" 750, v "_" 751, v "sec" 752, v "rot" 753]
noncomputable def o464:=tu [v "self" 754, v "w" 755, v "h" 756]
noncomputable def o465:=f0 (me 9 6) "Guillotine._select_fittest_section"
noncomputable def o466:=co "_select_fittest_section" "Guillotine._select_fittest_section" 742 237 3 0 3 456 757
noncomputable def o467:=f1 (me 9 6) "Guillotine._select_fittest_section" w668 461
noncomputable def o471:=tu [v "self" 763, v "width" 764, v "height" 765, v "rid" 766, v "section" 767, v "rotated" 768, v "rect" 769]
noncomputable def o473:=f0 (me 9 7) "Guillotine.add_rect"
noncomputable def o474:=co "add_rect" "Guillotine.add_rect" 760 249 4 0 3 464 770
noncomputable def o475:=f2 (me 9 7) "Guillotine.add_rect" (.ref 463) w668 469
noncomputable def o478:=tu [v "self" 776, v "width" 777, v "height" 778, v "section" 779, v "rotated" 780]
noncomputable def o480:=f0 (me 9 8) "Guillotine.fitness"
noncomputable def o481:=co "fitness" "Guillotine.fitness" 773 262 3 0 3 471 781
noncomputable def o482:=f1 (me 9 8) "Guillotine.fitness" w668 476
noncomputable def o484:=tu [v "__class__" 787]
noncomputable def o486:=tu [v "self" 788]
noncomputable def o488:=f0 (me 9 9) "Guillotine.reset"
noncomputable def o489:=co "reset" "Guillotine.reset" 784 272 1 0 3 479 789
noncomputable def o490:=f3 (me 9 9) "Guillotine.reset" [(s "__class__", 409)] .none w668 484 (.ref 478)
noncomputable def o491:=tu [v "_merge" 792, v "_sections" 793]
noncomputable def o492 (P):=di [e P "__module__" 677 w668, e P "__firstlineno__" 681 (.int 205 680), r P "__init__" 695 422, r P "_add_section" 701 427, r P "_split_horizontal" 711 434, r P "_split_vertical" 721 441, r P "_split" 731 448, r P "_section_fitness" 741 455, r P "_select_fittest_section" 759 462, r P "add_rect" 772 470, r P "fitness" 783 477, r P "reset" 791 485, r P "__static_attributes__" 794 486, e P "__doc__" 796 .none] 3
noncomputable def t8 (P):=puts (t7 P) [(3, nz P w668 7 16), (12, xz 21), (401, kl "PackingAlgorithm" [O] [.ref 401, O] 400 [.ref 488] (.ref 305) 540 548), (406, o411), (407, bp), (408, o413 P), (409, ce 488), (410, tu []), (411, o416), (412, o417), (413, o418), (414, o419), (415, o420), (416, o421), (417, x3 []), (418, o423), (419, tu []), (420, o425), (421, o426), (422, o427), (423, tu []), (424, x3 []), (425, o430), (426, o431), (427, o432), (428, tu []), (429, x3 []), (430, o435), (431, tu []), (432, o437), (433, o438), (434, o439), (435, tu []), (436, x3 []), (437, o442), (438, tu []), (439, o444), (440, o445), (441, o446), (442, tu []), (443, x3 []), (444, o449), (445, tu []), (446, o451), (447, o452), (448, o453), (449, tu []), (450, x3 []), (451, o456), (452, tu []), (453, o458), (454, o459), (455, o460), (456, tu []), (457, x3 []), (458, o463), (459, o464), (460, o465), (461, o466), (462, o467), (463, o159), (464, tu []), (465, x3 []), (466, o471), (467, tu []), (468, o473), (469, o474), (470, o475), (471, tu []), (472, x3 []), (473, o478), (474, tu []), (475, o480), (476, o481), (477, o482), (478, o420), (479, o484), (480, x3 []), (481, o486), (482, tu []), (483, o488), (484, o489), (485, o490), (486, o491), (487, o492 P), (488, kl "Guillotine" [.ref 401] [.ref 488, .ref 401, O] 487 [] (.ref 406) 670 678), (489, su 488), (490, bs 488)]
noncomputable def o499:=tu [.ref 488]
noncomputable def o501 (P):=di [e P "__module__" 806 w668, e P "__qualname__" 808 w807, e P "__firstlineno__" 810 (.int 276 809), r P "_section_fitness" 820 504, r P "__static_attributes__" 821 505] 5
noncomputable def o503:=fi [.int 278 0, .int 4 0, .ref 503]
noncomputable def o504:=cg "GuillotineBaf" 801 "GuillotineBaf" 802 803 [.int 276 0, .int 0 0, .int 0 0, .int 0 0, .int 0 0, .ref 494, .bool false, .int 181 0, .ref 495, .none, .none, .none, .none, .int 804 0, .int 276 0] 805
noncomputable def o505:=fr 496 493 w668
noncomputable def o508:=tu [v "self" 814, v "section" 815, v "width" 816, v "height" 817]
noncomputable def o510:=f0 (me 10 0) "GuillotineBaf._section_fitness"
noncomputable def o511:=co "_section_fitness" "GuillotineBaf._section_fitness" 811 278 4 0 3 498 818
noncomputable def o512:=f1 (me 10 0) "GuillotineBaf._section_fitness" w668 503
noncomputable def o514 (P):=di [e P "__module__" 806 w668, e P "__firstlineno__" 810 (.int 276 809), r P "_section_fitness" 820 504, r P "__static_attributes__" 821 505, e P "__doc__" 822 .none] 2
noncomputable def t9 (P):=puts (t8 P) [(3, nz P w668 8 17), (12, xz 24), (488, kl "Guillotine" [.ref 401] [.ref 488, .ref 401, O] 487 [.ref 507] (.ref 406) 670 678), (491, o499), (492, bp), (493, o501 P), (494, tu []), (495, o503), (496, o504), (497, o505), (498, tu []), (499, x3 []), (500, o508), (501, tu []), (502, o510), (503, o511), (504, o512), (505, tu []), (506, o514 P), (507, kl "GuillotineBaf" [.ref 488] [.ref 507, .ref 488, .ref 401, O] 506 [] (.ref 491) 799 807), (508, su 507), (509, bs 507)]
noncomputable def o523 (P):=di [e P "__module__" 832 w668, e P "__qualname__" 834 w833, e P "__firstlineno__" 836 (.int 282 835), r P "_section_fitness" 846 523, r P "__static_attributes__" 847 524] 5
noncomputable def o525:=fi [.int 284 0, .int 4 0, .ref 522]
noncomputable def o526:=cg "GuillotineBlsf" 827 "GuillotineBlsf" 828 829 [.int 282 0, .int 0 0, .int 0 0, .int 0 0, .int 0 0, .ref 513, .bool false, .int 181 0, .ref 514, .none, .none, .none, .none, .int 830 0, .int 282 0] 831
noncomputable def o527:=fr 515 512 w668
noncomputable def o530:=tu [v "self" 840, v "section" 841, v "width" 842, v "height" 843]
noncomputable def o532:=f0 (me 11 0) "GuillotineBlsf._section_fitness"
noncomputable def o533:=co "_section_fitness" "GuillotineBlsf._section_fitness" 837 284 4 0 3 517 844
noncomputable def o534:=f1 (me 11 0) "GuillotineBlsf._section_fitness" w668 522
noncomputable def o536 (P):=di [e P "__module__" 832 w668, e P "__firstlineno__" 836 (.int 282 835), r P "_section_fitness" 846 523, r P "__static_attributes__" 847 524, e P "__doc__" 848 .none] 2
noncomputable def t10 (P):=puts (t9 P) [(3, nz P w668 9 18), (12, xz 27), (488, kl "Guillotine" [.ref 401] [.ref 488, .ref 401, O] 487 [.ref 507, .ref 526] (.ref 406) 670 678), (510, o499), (511, bp), (512, o523 P), (513, tu []), (514, o525), (515, o526), (516, o527), (517, tu []), (518, x3 []), (519, o530), (520, tu []), (521, o532), (522, o533), (523, o534), (524, tu []), (525, o536 P), (526, kl "GuillotineBlsf" [.ref 488] [.ref 526, .ref 488, .ref 401, O] 525 [] (.ref 510) 825 833), (527, su 526), (528, bs 526)]
noncomputable def o542:=kl "Guillotine" [.ref 401] [.ref 488, .ref 401, O] 487 [.ref 507, .ref 526, .ref 545] (.ref 406) 670 678
noncomputable def o545 (P):=di [e P "__module__" 858 w668, e P "__qualname__" 860 w859, e P "__firstlineno__" 862 (.int 288 861), r P "_section_fitness" 872 542, r P "__static_attributes__" 873 543] 5
noncomputable def o547:=fi [.int 290 0, .int 4 0, .ref 541]
noncomputable def o548:=cg "GuillotineBssf" 853 "GuillotineBssf" 854 855 [.int 288 0, .int 0 0, .int 0 0, .int 0 0, .int 0 0, .ref 532, .bool false, .int 181 0, .ref 533, .none, .none, .none, .none, .int 856 0, .int 288 0] 857
noncomputable def o549:=fr 534 531 w668
noncomputable def o552:=tu [v "self" 866, v "section" 867, v "width" 868, v "height" 869]
noncomputable def o554:=f0 (me 12 0) "GuillotineBssf._section_fitness"
noncomputable def o555:=co "_section_fitness" "GuillotineBssf._section_fitness" 863 290 4 0 3 536 870
noncomputable def o556:=f1 (me 12 0) "GuillotineBssf._section_fitness" w668 541
noncomputable def o558 (P):=di [e P "__module__" 858 w668, e P "__firstlineno__" 862 (.int 288 861), r P "_section_fitness" 872 542, r P "__static_attributes__" 873 543, e P "__doc__" 874 .none] 2
noncomputable def t11 (P):=puts (t10 P) [(3, nz P w668 10 19), (12, xz 30), (488, o542), (529, o499), (530, bp), (531, o545 P), (532, tu []), (533, o547), (534, o548), (535, o549), (536, tu []), (537, x3 []), (538, o552), (539, tu []), (540, o554), (541, o555), (542, o556), (543, tu []), (544, o558 P), (545, kl "GuillotineBssf" [.ref 488] [.ref 545, .ref 488, .ref 401, O] 544 [] (.ref 529) 851 859), (546, su 545), (547, bs 545)]
noncomputable def o565:=tu [.ref 545]
noncomputable def o567 (P):=di [e P "__module__" 884 w668, e P "__qualname__" 886 (v "GuillotineBssfSas" 885), e P "__firstlineno__" 888 (.int 294 887), r P "_split" 898 561, r P "__static_attributes__" 899 562] 5
noncomputable def o569:=fi [.int 296 0, .int 4 0, .ref 560]
noncomputable def o570:=cg "GuillotineBssfSas" 879 "GuillotineBssfSas" 880 881 [.int 294 0, .int 0 0, .int 0 0, .int 0 0, .int 0 0, .ref 551, .bool false, .int 181 0, .ref 552, .none, .none, .none, .none, .int 882 0, .int 294 0] 883
noncomputable def o571:=fr 553 550 w668
noncomputable def o574:=tu [v "self" 892, v "section" 893, v "width" 894, v "height" 895]
noncomputable def o576:=f0 (me 13 0) "GuillotineBssfSas._split"
noncomputable def o577:=co "_split" "GuillotineBssfSas._split" 889 296 4 0 3 555 896
noncomputable def o578:=f1 (me 13 0) "GuillotineBssfSas._split" w668 560
noncomputable def o580 (P):=di [e P "__module__" 884 w668, e P "__firstlineno__" 888 (.int 294 887), r P "_split" 898 561, r P "__static_attributes__" 899 562, e P "__doc__" 900 .none] 2
noncomputable def o581:=kl "GuillotineBssfSas" [.ref 545] [.ref 564, .ref 545, .ref 488, .ref 401, O] 563 [] (.ref 548) 877 885
noncomputable def t12 (P):=puts (t11 P) [(3, nz P w668 11 20), (12, xz 33), (545, kl "GuillotineBssf" [.ref 488] [.ref 545, .ref 488, .ref 401, O] 544 [.ref 564] (.ref 529) 851 859), (548, o565), (549, bp), (550, o567 P), (551, tu []), (552, o569), (553, o570), (554, o571), (555, tu []), (556, x3 []), (557, o574), (558, tu []), (559, o576), (560, o577), (561, o578), (562, tu []), (563, o580 P), (564, o581), (565, su 564), (566, bs 564)]
noncomputable def o589 (P):=di [e P "__module__" 910 w668, e P "__qualname__" 912 (v "GuillotineBssfLas" 911), e P "__firstlineno__" 914 (.int 301 913), r P "_split" 924 580, r P "__static_attributes__" 925 581] 5
noncomputable def o591:=fi [.int 303 0, .int 4 0, .ref 579]
noncomputable def o592:=cg "GuillotineBssfLas" 905 "GuillotineBssfLas" 906 907 [.int 301 0, .int 0 0, .int 0 0, .int 0 0, .int 0 0, .ref 570, .bool false, .int 181 0, .ref 571, .none, .none, .none, .none, .int 908 0, .int 301 0] 909
noncomputable def o593:=fr 572 569 w668
noncomputable def o596:=tu [v "self" 918, v "section" 919, v "width" 920, v "height" 921]
noncomputable def o598:=f0 (me 14 0) "GuillotineBssfLas._split"
noncomputable def o599:=co "_split" "GuillotineBssfLas._split" 915 303 4 0 3 574 922
noncomputable def o600:=f1 (me 14 0) "GuillotineBssfLas._split" w668 579
noncomputable def o602 (P):=di [e P "__module__" 910 w668, e P "__firstlineno__" 914 (.int 301 913), r P "_split" 924 580, r P "__static_attributes__" 925 581, e P "__doc__" 926 .none] 2
noncomputable def o603:=kl "GuillotineBssfLas" [.ref 545] [.ref 583, .ref 545, .ref 488, .ref 401, O] 582 [] (.ref 567) 903 911
noncomputable def t13 (P):=puts (t12 P) [(3, nz P w668 12 21), (12, xz 36), (545, kl "GuillotineBssf" [.ref 488] [.ref 545, .ref 488, .ref 401, O] 544 [.ref 564, .ref 583] (.ref 529) 851 859), (567, o565), (568, bp), (569, o589 P), (570, tu []), (571, o591), (572, o592), (573, o593), (574, tu []), (575, x3 []), (576, o596), (577, tu []), (578, o598), (579, o599), (580, o600), (581, tu []), (582, o602 P), (583, o603), (584, su 583), (585, bs 583)]
noncomputable def o611 (P):=di [e P "__module__" 936 w668, e P "__qualname__" 938 (v "GuillotineBssfSlas" 937), e P "__firstlineno__" 940 (.int 308 939), r P "_split" 950 599, r P "__static_attributes__" 951 600] 5
noncomputable def o613:=fi [.int 310 0, .int 4 0, .ref 598]
noncomputable def o614:=cg "GuillotineBssfSlas" 931 "GuillotineBssfSlas" 932 933 [.int 308 0, .int 0 0, .int 0 0, .int 0 0, .int 0 0, .ref 589, .bool false, .int 181 0, .ref 590, .none, .none, .none, .none, .int 934 0, .int 308 0] 935
noncomputable def o615:=fr 591 588 w668
noncomputable def o618:=tu [v "self" 944, v "section" 945, v "width" 946, v "height" 947]
noncomputable def o620:=f0 (me 15 0) "GuillotineBssfSlas._split"
noncomputable def o621:=co "_split" "GuillotineBssfSlas._split" 941 310 4 0 3 593 948
noncomputable def o622:=f1 (me 15 0) "GuillotineBssfSlas._split" w668 598
noncomputable def o624 (P):=di [e P "__module__" 936 w668, e P "__firstlineno__" 940 (.int 308 939), r P "_split" 950 599, r P "__static_attributes__" 951 600, e P "__doc__" 952 .none] 2
noncomputable def o625:=kl "GuillotineBssfSlas" [.ref 545] [.ref 602, .ref 545, .ref 488, .ref 401, O] 601 [] (.ref 586) 929 937
noncomputable def t14 (P):=puts (t13 P) [(3, nz P w668 13 22), (12, xz 39), (545, kl "GuillotineBssf" [.ref 488] [.ref 545, .ref 488, .ref 401, O] 544 [.ref 564, .ref 583, .ref 602] (.ref 529) 851 859), (586, o565), (587, bp), (588, o611 P), (589, tu []), (590, o613), (591, o614), (592, o615), (593, tu []), (594, x3 []), (595, o618), (596, tu []), (597, o620), (598, o621), (599, o622), (600, tu []), (601, o624 P), (602, o625), (603, su 602), (604, bs 602)]
noncomputable def o633 (P):=di [e P "__module__" 962 w668, e P "__qualname__" 964 (v "GuillotineBssfLlas" 963), e P "__firstlineno__" 966 (.int 315 965), r P "_split" 976 618, r P "__static_attributes__" 977 619] 5
noncomputable def o635:=fi [.int 317 0, .int 4 0, .ref 617]
noncomputable def o636:=cg "GuillotineBssfLlas" 957 "GuillotineBssfLlas" 958 959 [.int 315 0, .int 0 0, .int 0 0, .int 0 0, .int 0 0, .ref 608, .bool false, .int 181 0, .ref 609, .none, .none, .none, .none, .int 960 0, .int 315 0] 961
noncomputable def o637:=fr 610 607 w668
noncomputable def o640:=tu [v "self" 970, v "section" 971, v "width" 972, v "height" 973]
noncomputable def o642:=f0 (me 16 0) "GuillotineBssfLlas._split"
noncomputable def o643:=co "_split" "GuillotineBssfLlas._split" 967 317 4 0 3 612 974
noncomputable def o644:=f1 (me 16 0) "GuillotineBssfLlas._split" w668 617
noncomputable def o646 (P):=di [e P "__module__" 962 w668, e P "__firstlineno__" 966 (.int 315 965), r P "_split" 976 618, r P "__static_attributes__" 977 619, e P "__doc__" 978 .none] 2
noncomputable def o647:=kl "GuillotineBssfLlas" [.ref 545] [.ref 621, .ref 545, .ref 488, .ref 401, O] 620 [] (.ref 605) 955 963
noncomputable def t15 (P):=puts (t14 P) [(3, nz P w668 14 23), (12, xz 42), (545, kl "GuillotineBssf" [.ref 488] [.ref 545, .ref 488, .ref 401, O] 544 [.ref 564, .ref 583, .ref 602, .ref 621] (.ref 529) 851 859), (605, o565), (606, bp), (607, o633 P), (608, tu []), (609, o635), (610, o636), (611, o637), (612, tu []), (613, x3 []), (614, o640), (615, tu []), (616, o642), (617, o643), (618, o644), (619, tu []), (620, o646 P), (621, o647), (622, su 621), (623, bs 621)]
noncomputable def o655 (P):=di [e P "__module__" 988 w668, e P "__qualname__" 990 (v "GuillotineBssfMaxas" 989), e P "__firstlineno__" 992 (.int 322 991), r P "_split" 1002 637, r P "__static_attributes__" 1003 638] 5
noncomputable def o657:=fi [.int 324 0, .int 4 0, .ref 636]
noncomputable def o658:=cg "GuillotineBssfMaxas" 983 "GuillotineBssfMaxas" 984 985 [.int 322 0, .int 0 0, .int 0 0, .int 0 0, .int 0 0, .ref 627, .bool false, .int 181 0, .ref 628, .none, .none, .none, .none, .int 986 0, .int 322 0] 987
noncomputable def o659:=fr 629 626 w668
noncomputable def o662:=tu [v "self" 996, v "section" 997, v "width" 998, v "height" 999]
noncomputable def o664:=f0 (me 17 0) "GuillotineBssfMaxas._split"
noncomputable def o665:=co "_split" "GuillotineBssfMaxas._split" 993 324 4 0 3 631 1000
noncomputable def o666:=f1 (me 17 0) "GuillotineBssfMaxas._split" w668 636
noncomputable def o668 (P):=di [e P "__module__" 988 w668, e P "__firstlineno__" 992 (.int 322 991), r P "_split" 1002 637, r P "__static_attributes__" 1003 638, e P "__doc__" 1004 .none] 2
noncomputable def o669:=kl "GuillotineBssfMaxas" [.ref 545] [.ref 640, .ref 545, .ref 488, .ref 401, O] 639 [] (.ref 624) 981 989
noncomputable def t16 (P):=puts (t15 P) [(3, nz P w668 15 24), (12, xz 45), (545, kl "GuillotineBssf" [.ref 488] [.ref 545, .ref 488, .ref 401, O] 544 [.ref 564, .ref 583, .ref 602, .ref 621, .ref 640] (.ref 529) 851 859), (624, o565), (625, bp), (626, o655 P), (627, tu []), (628, o657), (629, o658), (630, o659), (631, tu []), (632, x3 []), (633, o662), (634, tu []), (635, o664), (636, o665), (637, o666), (638, tu []), (639, o668 P), (640, o669), (641, su 640), (642, bs 640)]
noncomputable def o674:=kl "GuillotineBssf" [.ref 488] [.ref 545, .ref 488, .ref 401, O] 544 [.ref 564, .ref 583, .ref 602, .ref 621, .ref 640, .ref 659] (.ref 529) 851 859
noncomputable def o677 (P):=di [e P "__module__" 1014 w668, e P "__qualname__" 1016 (v "GuillotineBssfMinas" 1015), e P "__firstlineno__" 1018 (.int 329 1017), r P "_split" 1028 656, r P "__static_attributes__" 1029 657] 5
noncomputable def o679:=fi [.int 331 0, .int 4 0, .ref 655]
noncomputable def o680:=cg "GuillotineBssfMinas" 1009 "GuillotineBssfMinas" 1010 1011 [.int 329 0, .int 0 0, .int 0 0, .int 0 0, .int 0 0, .ref 646, .bool false, .int 181 0, .ref 647, .none, .none, .none, .none, .int 1012 0, .int 329 0] 1013
noncomputable def o681:=fr 648 645 w668
noncomputable def o684:=tu [v "self" 1022, v "section" 1023, v "width" 1024, v "height" 1025]
noncomputable def o686:=f0 (me 18 0) "GuillotineBssfMinas._split"
noncomputable def o687:=co "_split" "GuillotineBssfMinas._split" 1019 331 4 0 3 650 1026
noncomputable def o688:=f1 (me 18 0) "GuillotineBssfMinas._split" w668 655
noncomputable def o690 (P):=di [e P "__module__" 1014 w668, e P "__firstlineno__" 1018 (.int 329 1017), r P "_split" 1028 656, r P "__static_attributes__" 1029 657, e P "__doc__" 1030 .none] 2
noncomputable def o691:=kl "GuillotineBssfMinas" [.ref 545] [.ref 659, .ref 545, .ref 488, .ref 401, O] 658 [] (.ref 643) 1007 1015
noncomputable def t17 (P):=puts (t16 P) [(3, nz P w668 16 25), (12, xz 48), (545, o674), (643, o565), (644, bp), (645, o677 P), (646, tu []), (647, o679), (648, o680), (649, o681), (650, tu []), (651, x3 []), (652, o684), (653, tu []), (654, o686), (655, o687), (656, o688), (657, tu []), (658, o690 P), (659, o691), (660, su 659), (661, bs 659)]
noncomputable def o697:=tu [.ref 526]
noncomputable def o699 (P):=di [e P "__module__" 1040 w668, e P "__qualname__" 1042 (v "GuillotineBlsfSas" 1041), e P "__firstlineno__" 1044 (.int 336 1043), r P "_split" 1054 675, r P "__static_attributes__" 1055 676] 5
noncomputable def o701:=fi [.int 338 0, .int 4 0, .ref 674]
noncomputable def o702:=cg "GuillotineBlsfSas" 1035 "GuillotineBlsfSas" 1036 1037 [.int 336 0, .int 0 0, .int 0 0, .int 0 0, .int 0 0, .ref 665, .bool false, .int 181 0, .ref 666, .none, .none, .none, .none, .int 1038 0, .int 336 0] 1039
noncomputable def o703:=fr 667 664 w668
noncomputable def o706:=tu [v "self" 1048, v "section" 1049, v "width" 1050, v "height" 1051]
noncomputable def o708:=f0 (me 19 0) "GuillotineBlsfSas._split"
noncomputable def o709:=co "_split" "GuillotineBlsfSas._split" 1045 338 4 0 3 669 1052
noncomputable def o710:=f1 (me 19 0) "GuillotineBlsfSas._split" w668 674
noncomputable def o712 (P):=di [e P "__module__" 1040 w668, e P "__firstlineno__" 1044 (.int 336 1043), r P "_split" 1054 675, r P "__static_attributes__" 1055 676, e P "__doc__" 1056 .none] 2
noncomputable def o713:=kl "GuillotineBlsfSas" [.ref 526] [.ref 678, .ref 526, .ref 488, .ref 401, O] 677 [] (.ref 662) 1033 1041
noncomputable def t18 (P):=puts (t17 P) [(3, nz P w668 17 26), (12, xz 51), (526, kl "GuillotineBlsf" [.ref 488] [.ref 526, .ref 488, .ref 401, O] 525 [.ref 678] (.ref 510) 825 833), (662, o697), (663, bp), (664, o699 P), (665, tu []), (666, o701), (667, o702), (668, o703), (669, tu []), (670, x3 []), (671, o706), (672, tu []), (673, o708), (674, o709), (675, o710), (676, tu []), (677, o712 P), (678, o713), (679, su 678), (680, bs 678)]
noncomputable def o721 (P):=di [e P "__module__" 1066 w668, e P "__qualname__" 1068 (v "GuillotineBlsfLas" 1067), e P "__firstlineno__" 1070 (.int 343 1069), r P "_split" 1080 694, r P "__static_attributes__" 1081 695] 5
noncomputable def o723:=fi [.int 345 0, .int 4 0, .ref 693]
noncomputable def o724:=cg "GuillotineBlsfLas" 1061 "GuillotineBlsfLas" 1062 1063 [.int 343 0, .int 0 0, .int 0 0, .int 0 0, .int 0 0, .ref 684, .bool false, .int 181 0, .ref 685, .none, .none, .none, .none, .int 1064 0, .int 343 0] 1065
noncomputable def o725:=fr 686 683 w668
noncomputable def o728:=tu [v "self" 1074, v "section" 1075, v "width" 1076, v "height" 1077]
noncomputable def o730:=f0 (me 20 0) "GuillotineBlsfLas._split"
noncomputable def o731:=co "_split" "GuillotineBlsfLas._split" 1071 345 4 0 3 688 1078
noncomputable def o732:=f1 (me 20 0) "GuillotineBlsfLas._split" w668 693
noncomputable def o734 (P):=di [e P "__module__" 1066 w668, e P "__firstlineno__" 1070 (.int 343 1069), r P "_split" 1080 694, r P "__static_attributes__" 1081 695, e P "__doc__" 1082 .none] 2
noncomputable def o735:=kl "GuillotineBlsfLas" [.ref 526] [.ref 697, .ref 526, .ref 488, .ref 401, O] 696 [] (.ref 681) 1059 1067
noncomputable def t19 (P):=puts (t18 P) [(3, nz P w668 18 27), (12, xz 54), (526, kl "GuillotineBlsf" [.ref 488] [.ref 526, .ref 488, .ref 401, O] 525 [.ref 678, .ref 697] (.ref 510) 825 833), (681, o697), (682, bp), (683, o721 P), (684, tu []), (685, o723), (686, o724), (687, o725), (688, tu []), (689, x3 []), (690, o728), (691, tu []), (692, o730), (693, o731), (694, o732), (695, tu []), (696, o734 P), (697, o735), (698, su 697), (699, bs 697)]
noncomputable def o743 (P):=di [e P "__module__" 1092 w668, e P "__qualname__" 1094 (v "GuillotineBlsfSlas" 1093), e P "__firstlineno__" 1096 (.int 350 1095), r P "_split" 1106 713, r P "__static_attributes__" 1107 714] 5
noncomputable def o745:=fi [.int 352 0, .int 4 0, .ref 712]
noncomputable def o746:=cg "GuillotineBlsfSlas" 1087 "GuillotineBlsfSlas" 1088 1089 [.int 350 0, .int 0 0, .int 0 0, .int 0 0, .int 0 0, .ref 703, .bool false, .int 181 0, .ref 704, .none, .none, .none, .none, .int 1090 0, .int 350 0] 1091
noncomputable def o747:=fr 705 702 w668
noncomputable def o750:=tu [v "self" 1100, v "section" 1101, v "width" 1102, v "height" 1103]
noncomputable def o752:=f0 (me 21 0) "GuillotineBlsfSlas._split"
noncomputable def o753:=co "_split" "GuillotineBlsfSlas._split" 1097 352 4 0 3 707 1104
noncomputable def o754:=f1 (me 21 0) "GuillotineBlsfSlas._split" w668 712
noncomputable def o756 (P):=di [e P "__module__" 1092 w668, e P "__firstlineno__" 1096 (.int 350 1095), r P "_split" 1106 713, r P "__static_attributes__" 1107 714, e P "__doc__" 1108 .none] 2
noncomputable def o757:=kl "GuillotineBlsfSlas" [.ref 526] [.ref 716, .ref 526, .ref 488, .ref 401, O] 715 [] (.ref 700) 1085 1093
noncomputable def t20 (P):=puts (t19 P) [(3, nz P w668 19 28), (12, xz 57), (526, kl "GuillotineBlsf" [.ref 488] [.ref 526, .ref 488, .ref 401, O] 525 [.ref 678, .ref 697, .ref 716] (.ref 510) 825 833), (700, o697), (701, bp), (702, o743 P), (703, tu []), (704, o745), (705, o746), (706, o747), (707, tu []), (708, x3 []), (709, o750), (710, tu []), (711, o752), (712, o753), (713, o754), (714, tu []), (715, o756 P), (716, o757), (717, su 716), (718, bs 716)]
noncomputable def o765 (P):=di [e P "__module__" 1118 w668, e P "__qualname__" 1120 (v "GuillotineBlsfLlas" 1119), e P "__firstlineno__" 1122 (.int 357 1121), r P "_split" 1132 732, r P "__static_attributes__" 1133 733] 5
noncomputable def o767:=fi [.int 359 0, .int 4 0, .ref 731]
noncomputable def o768:=cg "GuillotineBlsfLlas" 1113 "GuillotineBlsfLlas" 1114 1115 [.int 357 0, .int 0 0, .int 0 0, .int 0 0, .int 0 0, .ref 722, .bool false, .int 181 0, .ref 723, .none, .none, .none, .none, .int 1116 0, .int 357 0] 1117
noncomputable def o769:=fr 724 721 w668
noncomputable def o772:=tu [v "self" 1126, v "section" 1127, v "width" 1128, v "height" 1129]
noncomputable def o774:=f0 (me 22 0) "GuillotineBlsfLlas._split"
noncomputable def o775:=co "_split" "GuillotineBlsfLlas._split" 1123 359 4 0 3 726 1130
noncomputable def o776:=f1 (me 22 0) "GuillotineBlsfLlas._split" w668 731
noncomputable def o778 (P):=di [e P "__module__" 1118 w668, e P "__firstlineno__" 1122 (.int 357 1121), r P "_split" 1132 732, r P "__static_attributes__" 1133 733, e P "__doc__" 1134 .none] 2
noncomputable def o779:=kl "GuillotineBlsfLlas" [.ref 526] [.ref 735, .ref 526, .ref 488, .ref 401, O] 734 [] (.ref 719) 1111 1119
noncomputable def t21 (P):=puts (t20 P) [(3, nz P w668 20 29), (12, xz 60), (526, kl "GuillotineBlsf" [.ref 488] [.ref 526, .ref 488, .ref 401, O] 525 [.ref 678, .ref 697, .ref 716, .ref 735] (.ref 510) 825 833), (719, o697), (720, bp), (721, o765 P), (722, tu []), (723, o767), (724, o768), (725, o769), (726, tu []), (727, x3 []), (728, o772), (729, tu []), (730, o774), (731, o775), (732, o776), (733, tu []), (734, o778 P), (735, o779), (736, su 735), (737, bs 735)]
noncomputable def o787 (P):=di [e P "__module__" 1144 w668, e P "__qualname__" 1146 (v "GuillotineBlsfMaxas" 1145), e P "__firstlineno__" 1148 (.int 364 1147), r P "_split" 1158 751, r P "__static_attributes__" 1159 752] 5
noncomputable def o789:=fi [.int 366 0, .int 4 0, .ref 750]
noncomputable def o790:=cg "GuillotineBlsfMaxas" 1139 "GuillotineBlsfMaxas" 1140 1141 [.int 364 0, .int 0 0, .int 0 0, .int 0 0, .int 0 0, .ref 741, .bool false, .int 181 0, .ref 742, .none, .none, .none, .none, .int 1142 0, .int 364 0] 1143
noncomputable def o791:=fr 743 740 w668
noncomputable def o794:=tu [v "self" 1152, v "section" 1153, v "width" 1154, v "height" 1155]
noncomputable def o796:=f0 (me 23 0) "GuillotineBlsfMaxas._split"
noncomputable def o797:=co "_split" "GuillotineBlsfMaxas._split" 1149 366 4 0 3 745 1156
noncomputable def o798:=f1 (me 23 0) "GuillotineBlsfMaxas._split" w668 750
noncomputable def o800 (P):=di [e P "__module__" 1144 w668, e P "__firstlineno__" 1148 (.int 364 1147), r P "_split" 1158 751, r P "__static_attributes__" 1159 752, e P "__doc__" 1160 .none] 2
noncomputable def o801:=kl "GuillotineBlsfMaxas" [.ref 526] [.ref 754, .ref 526, .ref 488, .ref 401, O] 753 [] (.ref 738) 1137 1145
noncomputable def t22 (P):=puts (t21 P) [(3, nz P w668 21 30), (12, xz 63), (526, kl "GuillotineBlsf" [.ref 488] [.ref 526, .ref 488, .ref 401, O] 525 [.ref 678, .ref 697, .ref 716, .ref 735, .ref 754] (.ref 510) 825 833), (738, o697), (739, bp), (740, o787 P), (741, tu []), (742, o789), (743, o790), (744, o791), (745, tu []), (746, x3 []), (747, o794), (748, tu []), (749, o796), (750, o797), (751, o798), (752, tu []), (753, o800 P), (754, o801), (755, su 754), (756, bs 754)]
noncomputable def o806:=kl "GuillotineBlsf" [.ref 488] [.ref 526, .ref 488, .ref 401, O] 525 [.ref 678, .ref 697, .ref 716, .ref 735, .ref 754, .ref 773] (.ref 510) 825 833
noncomputable def o809 (P):=di [e P "__module__" 1170 w668, e P "__qualname__" 1172 (v "GuillotineBlsfMinas" 1171), e P "__firstlineno__" 1174 (.int 371 1173), r P "_split" 1184 770, r P "__static_attributes__" 1185 771] 5
noncomputable def o811:=fi [.int 373 0, .int 4 0, .ref 769]
noncomputable def o812:=cg "GuillotineBlsfMinas" 1165 "GuillotineBlsfMinas" 1166 1167 [.int 371 0, .int 0 0, .int 0 0, .int 0 0, .int 0 0, .ref 760, .bool false, .int 181 0, .ref 761, .none, .none, .none, .none, .int 1168 0, .int 371 0] 1169
noncomputable def o813:=fr 762 759 w668
noncomputable def o816:=tu [v "self" 1178, v "section" 1179, v "width" 1180, v "height" 1181]
noncomputable def o818:=f0 (me 24 0) "GuillotineBlsfMinas._split"
noncomputable def o819:=co "_split" "GuillotineBlsfMinas._split" 1175 373 4 0 3 764 1182
noncomputable def o820:=f1 (me 24 0) "GuillotineBlsfMinas._split" w668 769
noncomputable def o822 (P):=di [e P "__module__" 1170 w668, e P "__firstlineno__" 1174 (.int 371 1173), r P "_split" 1184 770, r P "__static_attributes__" 1185 771, e P "__doc__" 1186 .none] 2
noncomputable def o823:=kl "GuillotineBlsfMinas" [.ref 526] [.ref 773, .ref 526, .ref 488, .ref 401, O] 772 [] (.ref 757) 1163 1171
noncomputable def t23 (P):=puts (t22 P) [(3, nz P w668 22 31), (12, xz 66), (526, o806), (757, o697), (758, bp), (759, o809 P), (760, tu []), (761, o811), (762, o812), (763, o813), (764, tu []), (765, x3 []), (766, o816), (767, tu []), (768, o818), (769, o819), (770, o820), (771, tu []), (772, o822 P), (773, o823), (774, su 773), (775, bs 773)]
noncomputable def o829:=tu [.ref 507]
noncomputable def o831 (P):=di [e P "__module__" 1196 w668, e P "__qualname__" 1198 (v "GuillotineBafSas" 1197), e P "__firstlineno__" 1200 (.int 378 1199), r P "_split" 1210 789, r P "__static_attributes__" 1211 790] 5
noncomputable def o833:=fi [.int 380 0, .int 4 0, .ref 788]
noncomputable def o834:=cg "GuillotineBafSas" 1191 "GuillotineBafSas" 1192 1193 [.int 378 0, .int 0 0, .int 0 0, .int 0 0, .int 0 0, .ref 779, .bool false, .int 181 0, .ref 780, .none, .none, .none, .none, .int 1194 0, .int 378 0] 1195
noncomputable def o835:=fr 781 778 w668
noncomputable def o838:=tu [v "self" 1204, v "section" 1205, v "width" 1206, v "height" 1207]
noncomputable def o840:=f0 (me 25 0) "GuillotineBafSas._split"
noncomputable def o841:=co "_split" "GuillotineBafSas._split" 1201 380 4 0 3 783 1208
noncomputable def o842:=f1 (me 25 0) "GuillotineBafSas._split" w668 788
noncomputable def o844 (P):=di [e P "__module__" 1196 w668, e P "__firstlineno__" 1200 (.int 378 1199), r P "_split" 1210 789, r P "__static_attributes__" 1211 790, e P "__doc__" 1212 .none] 2
noncomputable def o845:=kl "GuillotineBafSas" [.ref 507] [.ref 792, .ref 507, .ref 488, .ref 401, O] 791 [] (.ref 776) 1189 1197
noncomputable def t24 (P):=puts (t23 P) [(3, nz P w668 23 32), (12, xz 69), (507, kl "GuillotineBaf" [.ref 488] [.ref 507, .ref 488, .ref 401, O] 506 [.ref 792] (.ref 491) 799 807), (776, o829), (777, bp), (778, o831 P), (779, tu []), (780, o833), (781, o834), (782, o835), (783, tu []), (784, x3 []), (785, o838), (786, tu []), (787, o840), (788, o841), (789, o842), (790, tu []), (791, o844 P), (792, o845), (793, su 792), (794, bs 792)]
noncomputable def o853 (P):=di [e P "__module__" 1222 w668, e P "__qualname__" 1224 (v "GuillotineBafLas" 1223), e P "__firstlineno__" 1226 (.int 385 1225), r P "_split" 1236 808, r P "__static_attributes__" 1237 809] 5
noncomputable def o855:=fi [.int 387 0, .int 4 0, .ref 807]
noncomputable def o856:=cg "GuillotineBafLas" 1217 "GuillotineBafLas" 1218 1219 [.int 385 0, .int 0 0, .int 0 0, .int 0 0, .int 0 0, .ref 798, .bool false, .int 181 0, .ref 799, .none, .none, .none, .none, .int 1220 0, .int 385 0] 1221
noncomputable def o857:=fr 800 797 w668
noncomputable def o860:=tu [v "self" 1230, v "section" 1231, v "width" 1232, v "height" 1233]
noncomputable def o862:=f0 (me 26 0) "GuillotineBafLas._split"
noncomputable def o863:=co "_split" "GuillotineBafLas._split" 1227 387 4 0 3 802 1234
noncomputable def o864:=f1 (me 26 0) "GuillotineBafLas._split" w668 807
noncomputable def o866 (P):=di [e P "__module__" 1222 w668, e P "__firstlineno__" 1226 (.int 385 1225), r P "_split" 1236 808, r P "__static_attributes__" 1237 809, e P "__doc__" 1238 .none] 2
noncomputable def o867:=kl "GuillotineBafLas" [.ref 507] [.ref 811, .ref 507, .ref 488, .ref 401, O] 810 [] (.ref 795) 1215 1223
noncomputable def t25 (P):=puts (t24 P) [(3, nz P w668 24 33), (12, xz 72), (507, kl "GuillotineBaf" [.ref 488] [.ref 507, .ref 488, .ref 401, O] 506 [.ref 792, .ref 811] (.ref 491) 799 807), (795, o829), (796, bp), (797, o853 P), (798, tu []), (799, o855), (800, o856), (801, o857), (802, tu []), (803, x3 []), (804, o860), (805, tu []), (806, o862), (807, o863), (808, o864), (809, tu []), (810, o866 P), (811, o867), (812, su 811), (813, bs 811)]
noncomputable def o875 (P):=di [e P "__module__" 1248 w668, e P "__qualname__" 1250 (v "GuillotineBafSlas" 1249), e P "__firstlineno__" 1252 (.int 392 1251), r P "_split" 1262 827, r P "__static_attributes__" 1263 828] 5
noncomputable def o877:=fi [.int 394 0, .int 4 0, .ref 826]
noncomputable def o878:=cg "GuillotineBafSlas" 1243 "GuillotineBafSlas" 1244 1245 [.int 392 0, .int 0 0, .int 0 0, .int 0 0, .int 0 0, .ref 817, .bool false, .int 181 0, .ref 818, .none, .none, .none, .none, .int 1246 0, .int 392 0] 1247
noncomputable def o879:=fr 819 816 w668
noncomputable def o882:=tu [v "self" 1256, v "section" 1257, v "width" 1258, v "height" 1259]
noncomputable def o884:=f0 (me 27 0) "GuillotineBafSlas._split"
noncomputable def o885:=co "_split" "GuillotineBafSlas._split" 1253 394 4 0 3 821 1260
noncomputable def o886:=f1 (me 27 0) "GuillotineBafSlas._split" w668 826
noncomputable def o888 (P):=di [e P "__module__" 1248 w668, e P "__firstlineno__" 1252 (.int 392 1251), r P "_split" 1262 827, r P "__static_attributes__" 1263 828, e P "__doc__" 1264 .none] 2
noncomputable def o889:=kl "GuillotineBafSlas" [.ref 507] [.ref 830, .ref 507, .ref 488, .ref 401, O] 829 [] (.ref 814) 1241 1249
noncomputable def t26 (P):=puts (t25 P) [(3, nz P w668 25 34), (12, xz 75), (507, kl "GuillotineBaf" [.ref 488] [.ref 507, .ref 488, .ref 401, O] 506 [.ref 792, .ref 811, .ref 830] (.ref 491) 799 807), (814, o829), (815, bp), (816, o875 P), (817, tu []), (818, o877), (819, o878), (820, o879), (821, tu []), (822, x3 []), (823, o882), (824, tu []), (825, o884), (826, o885), (827, o886), (828, tu []), (829, o888 P), (830, o889), (831, su 830), (832, bs 830)]
noncomputable def o897 (P):=di [e P "__module__" 1274 w668, e P "__qualname__" 1276 (v "GuillotineBafLlas" 1275), e P "__firstlineno__" 1278 (.int 399 1277), r P "_split" 1288 846, r P "__static_attributes__" 1289 847] 5
noncomputable def o899:=fi [.int 401 0, .int 4 0, .ref 845]
noncomputable def o900:=cg "GuillotineBafLlas" 1269 "GuillotineBafLlas" 1270 1271 [.int 399 0, .int 0 0, .int 0 0, .int 0 0, .int 0 0, .ref 836, .bool false, .int 181 0, .ref 837, .none, .none, .none, .none, .int 1272 0, .int 399 0] 1273
noncomputable def o901:=fr 838 835 w668
noncomputable def o904:=tu [v "self" 1282, v "section" 1283, v "width" 1284, v "height" 1285]
noncomputable def o906:=f0 (me 28 0) "GuillotineBafLlas._split"
noncomputable def o907:=co "_split" "GuillotineBafLlas._split" 1279 401 4 0 3 840 1286
noncomputable def o908:=f1 (me 28 0) "GuillotineBafLlas._split" w668 845
noncomputable def o910 (P):=di [e P "__module__" 1274 w668, e P "__firstlineno__" 1278 (.int 399 1277), r P "_split" 1288 846, r P "__static_attributes__" 1289 847, e P "__doc__" 1290 .none] 2
noncomputable def o911:=kl "GuillotineBafLlas" [.ref 507] [.ref 849, .ref 507, .ref 488, .ref 401, O] 848 [] (.ref 833) 1267 1275
noncomputable def t27 (P):=puts (t26 P) [(3, nz P w668 26 35), (12, xz 78), (507, kl "GuillotineBaf" [.ref 488] [.ref 507, .ref 488, .ref 401, O] 506 [.ref 792, .ref 811, .ref 830, .ref 849] (.ref 491) 799 807), (833, o829), (834, bp), (835, o897 P), (836, tu []), (837, o899), (838, o900), (839, o901), (840, tu []), (841, x3 []), (842, o904), (843, tu []), (844, o906), (845, o907), (846, o908), (847, tu []), (848, o910 P), (849, o911), (850, su 849), (851, bs 849)]
noncomputable def o919 (P):=di [e P "__module__" 1300 w668, e P "__qualname__" 1302 (v "GuillotineBafMaxas" 1301), e P "__firstlineno__" 1304 (.int 406 1303), r P "_split" 1314 865, r P "__static_attributes__" 1315 866] 5
noncomputable def o921:=fi [.int 408 0, .int 4 0, .ref 864]
noncomputable def o922:=cg "GuillotineBafMaxas" 1295 "GuillotineBafMaxas" 1296 1297 [.int 406 0, .int 0 0, .int 0 0, .int 0 0, .int 0 0, .ref 855, .bool false, .int 181 0, .ref 856, .none, .none, .none, .none, .int 1298 0, .int 406 0] 1299
noncomputable def o923:=fr 857 854 w668
noncomputable def o926:=tu [v "self" 1308, v "section" 1309, v "width" 1310, v "height" 1311]
noncomputable def o928:=f0 (me 29 0) "GuillotineBafMaxas._split"
noncomputable def o929:=co "_split" "GuillotineBafMaxas._split" 1305 408 4 0 3 859 1312
noncomputable def o930:=f1 (me 29 0) "GuillotineBafMaxas._split" w668 864
noncomputable def o932 (P):=di [e P "__module__" 1300 w668, e P "__firstlineno__" 1304 (.int 406 1303), r P "_split" 1314 865, r P "__static_attributes__" 1315 866, e P "__doc__" 1316 .none] 2
noncomputable def o933:=kl "GuillotineBafMaxas" [.ref 507] [.ref 868, .ref 507, .ref 488, .ref 401, O] 867 [] (.ref 852) 1293 1301
noncomputable def t28 (P):=puts (t27 P) [(3, nz P w668 27 36), (12, xz 81), (507, kl "GuillotineBaf" [.ref 488] [.ref 507, .ref 488, .ref 401, O] 506 [.ref 792, .ref 811, .ref 830, .ref 849, .ref 868] (.ref 491) 799 807), (852, o829), (853, bp), (854, o919 P), (855, tu []), (856, o921), (857, o922), (858, o923), (859, tu []), (860, x3 []), (861, o926), (862, tu []), (863, o928), (864, o929), (865, o930), (866, tu []), (867, o932 P), (868, o933), (869, su 868), (870, bs 868)]
noncomputable def o938:=kl "GuillotineBaf" [.ref 488] [.ref 507, .ref 488, .ref 401, O] 506 [.ref 792, .ref 811, .ref 830, .ref 849, .ref 868, .ref 887] (.ref 491) 799 807
noncomputable def o941 (P):=di [e P "__module__" 1326 w668, e P "__qualname__" 1328 w1327, e P "__firstlineno__" 1330 (.int 413 1329), r P "_split" 1340 884, r P "__static_attributes__" 1341 885] 5
noncomputable def o943:=fi [.int 415 0, .int 4 0, .ref 883]
noncomputable def o944:=cg "GuillotineBafMinas" 1321 "GuillotineBafMinas" 1322 1323 [.int 413 0, .int 0 0, .int 0 0, .int 0 0, .int 0 0, .ref 874, .bool false, .int 181 0, .ref 875, .none, .none, .none, .none, .int 1324 0, .int 413 0] 1325
noncomputable def o945:=fr 876 873 w668
noncomputable def o948:=tu [v "self" 1334, v "section" 1335, v "width" 1336, v "height" 1337]
noncomputable def o950:=f0 (me 30 0) "GuillotineBafMinas._split"
noncomputable def o951:=co "_split" "GuillotineBafMinas._split" 1331 415 4 0 3 878 1338
noncomputable def o952:=f1 (me 30 0) "GuillotineBafMinas._split" w668 883
noncomputable def o954 (P):=di [e P "__module__" 1326 w668, e P "__firstlineno__" 1330 (.int 413 1329), r P "_split" 1340 884, r P "__static_attributes__" 1341 885, e P "__doc__" 1342 .none] 2
noncomputable def o960:=tu [v "one" 1350]
noncomputable def o962:=f0 (st 32) "first_item"
noncomputable def o963:=co "first_item" "first_item" 1347 421 1 0 3 890 1351
noncomputable def o964:=f1 (st 32) "first_item" w1345 895
noncomputable def t29 (P):=puts (t28 P) [(3, nz P w1345 29 38), (12, xz 87), (507, o938), (871, o829), (872, bp), (873, o941 P), (874, tu []), (875, o943), (876, o944), (877, o945), (878, tu []), (879, x3 []), (880, o948), (881, tu []), (882, o950), (883, o951), (884, o952), (885, tu []), (886, o954 P), (887, kl "GuillotineBafMinas" [.ref 507] [.ref 887, .ref 507, .ref 488, .ref 401, O] 886 [] (.ref 871) 1319 1327), (888, su 887), (889, bs 887), (890, tu []), (891, x3 []), (892, o960), (893, tu []), (894, o962), (895, o963), (896, o964)]
noncomputable def o970 (P):=di [e P "__module__" 1361 w1345, e P "__qualname__" 1363 w1362, e P "__firstlineno__" 1365 (.int 423 1364), r P "__init__" 1378 913, r P "_rect_fitness" 1388 920, r P "_select_position" 1405 927, r P "_generate_splits" 1415 934, r P "_split" 1425 941, r P "_remove_duplicates" 1431 946, r P "fitness" 1442 953, r P "add_rect" 1454 961, r P "reset" 1462 969, r P "__static_attributes__" 1464 970, r P "__classcell__" 1465 900] 14
noncomputable def o973:=fi [.int 425 0, .int 4 0, .ref 912, .int 428 0, .int 4 0, .ref 919, .int 434 0, .int 4 0, .ref 926, .int 448 0, .int 4 0, .ref 933, .int 460 0, .int 4 0, .ref 940, .int 469 0, .int 4 0, .ref 945, .int 478 0, .int 4 0, .ref 952, .int 485 0, .int 4 0, .ref 960, .int 496 0, .int 4 0, .ref 968]
noncomputable def o974:=cg "MaxRects" 1356 "MaxRects" 1357 1358 [.int 423 0, .int 0 0, .int 0 0, .int 0 0, .int 0 0, .ref 901, .bool false, .int 181 0, .ref 902, .none, .none, .none, .none, .int 1359 0, .int 423 0] 1360
noncomputable def o975:=fr 903 899 w1345
noncomputable def o976:=tu [.bool true]
noncomputable def o977:=tu [.ref 900]
noncomputable def o978:=tu [v "__class__" 1369]
noncomputable def o980:=tu [v "self" 1370, v "width" 1371, v "height" 1372, v "rot" 1373, v "args" 1374, v "kwargs" 1375]
noncomputable def o982:=f0 (me 33 0) "MaxRects.__init__"
noncomputable def o983:=co "__init__" "MaxRects.__init__" 1366 425 4 0 15 907 1376
noncomputable def o984:=f3 (me 33 0) "MaxRects.__init__" [(s "__class__", 900)] (.ref 905) w1345 912 (.ref 906)
noncomputable def o987:=tu [v "self" 1382, v "max_rect" 1383, v "width" 1384, v "height" 1385]
noncomputable def o989:=f0 (me 33 1) "MaxRects._rect_fitness"
noncomputable def o990:=co "_rect_fitness" "MaxRects._rect_fitness" 1379 428 4 0 3 914 1386
noncomputable def o991:=f1 (me 33 1) "MaxRects._rect_fitness" w1345 919
noncomputable def o994:=tu [v "self" 1392, v "w" 1393, v "h" 1394, v "fitn" 1395, v "fitr" 1396, v "fit" 1397, v "_" 1398, v "m" 1399]
noncomputable def o995:=tu [v "self" 1400, v "w" 1401, v "h" 1402]
noncomputable def o996:=f0 (me 33 2) "MaxRects._select_position"
noncomputable def o997:=co "_select_position" "MaxRects._select_position" 1389 434 3 0 3 921 1403
noncomputable def o998:=f1 (me 33 2) "MaxRects._select_position" w1345 926
noncomputable def o1001:=tu [v "self" 1409, v "m" 1410, v "r" 1411, v "new_rects" 1412]
noncomputable def o1003:=f0 (me 33 3) "MaxRects._generate_splits"
noncomputable def o1004:=co "_generate_splits" "MaxRects._generate_splits" 1406 448 3 0 3 928 1413
noncomputable def o1005:=f1 (me 33 3) "MaxRects._generate_splits" w1345 933
noncomputable def o1008:=tu [v "self" 1419, v "rect" 1420, v "max_rects" 1421, v "r" 1422]
noncomputable def o1010:=f0 (me 33 4) "MaxRects._split"
noncomputable def o1011:=co "_split" "MaxRects._split" 1416 460 2 0 3 935 1423
noncomputable def o1012:=f1 (me 33 4) "MaxRects._split" w1345 940
noncomputable def o1015:=f0 (me 33 5) "MaxRects._remove_duplicates"
noncomputable def o1016:=cg "_remove_duplicates" 1426 "MaxRects._remove_duplicates" 1427 1428 [.int 469 0, .int 1 0, .int 0 0, .int 0 0, .int 3 0, .ref 942, .bool true, .int 181 0, .ref 943, .none, .none, .none, .ref 944, .int 1429 0, .int 469 0] 1430
noncomputable def o1017:=f1 (me 33 5) "MaxRects._remove_duplicates" w1345 945
noncomputable def o1020:=tu [v "self" 1435, v "width" 1436, v "height" 1437, v "rect" 1438, v "max_rect" 1439]
noncomputable def o1022:=f0 (me 33 6) "MaxRects.fitness"
noncomputable def o1023:=co "fitness" "MaxRects.fitness" 1432 478 3 0 3 947 1440
noncomputable def o1024:=f1 (me 33 6) "MaxRects.fitness" w1345 952
noncomputable def o1028:=tu [v "self" 1446, v "width" 1447, v "height" 1448, v "rid" 1449, v "rect" 1450, v "_" 1451]
noncomputable def o1030:=f0 (me 33 7) "MaxRects.add_rect"
noncomputable def o1031:=co "add_rect" "MaxRects.add_rect" 1443 485 4 0 3 955 1452
noncomputable def o1032:=f2 (me 33 7) "MaxRects.add_rect" (.ref 954) w1345 960
noncomputable def o1034:=tu [v "__class__" 1458]
noncomputable def o1036:=tu [v "self" 1459]
noncomputable def o1038:=f0 (me 33 8) "MaxRects.reset"
noncomputable def o1039:=co "reset" "MaxRects.reset" 1455 496 1 0 3 963 1460
noncomputable def o1040:=f3 (me 33 8) "MaxRects.reset" [(s "__class__", 900)] .none w1345 968 (.ref 962)
noncomputable def o1041:=tu [v "_max_rects" 1463]
noncomputable def o1042 (P):=di [e P "__module__" 1361 w1345, e P "__firstlineno__" 1365 (.int 423 1364), r P "__init__" 1378 913, r P "_rect_fitness" 1388 920, r P "_select_position" 1405 927, r P "_generate_splits" 1415 934, r P "_split" 1425 941, r P "_remove_duplicates" 1431 946, r P "fitness" 1442 953, r P "add_rect" 1454 961, r P "reset" 1462 969, r P "__static_attributes__" 1464 970, e P "__doc__" 1466 .none] 3
noncomputable def t30 (P):=puts (t29 P) [(3, nz P w1345 30 39), (12, xz 90), (401, kl "PackingAlgorithm" [O] [.ref 401, O] 400 [.ref 488, .ref 972] (.ref 305) 540 548), (897, o411), (898, bp), (899, o970 P), (900, ce 972), (901, tu []), (902, o973), (903, o974), (904, o975), (905, o976), (906, o977), (907, o978), (908, x3 []), (909, o980), (910, tu []), (911, o982), (912, o983), (913, o984), (914, tu []), (915, x3 []), (916, o987), (917, tu []), (918, o989), (919, o990), (920, o991), (921, tu []), (922, x3 []), (923, o994), (924, o995), (925, o996), (926, o997), (927, o998), (928, tu []), (929, x3 []), (930, o1001), (931, tu []), (932, o1003), (933, o1004), (934, o1005), (935, tu []), (936, x3 []), (937, o1008), (938, tu []), (939, o1010), (940, o1011), (941, o1012), (942, tu []), (943, x3 []), (944, o1015), (945, o1016), (946, o1017), (947, tu []), (948, x3 []), (949, o1020), (950, tu []), (951, o1022), (952, o1023), (953, o1024), (954, o159), (955, tu []), (956, x3 []), (957, o1028), (958, tu []), (959, o1030), (960, o1031), (961, o1032), (962, o977), (963, o1034), (964, x3 []), (965, o1036), (966, tu []), (967, o1038), (968, o1039), (969, o1040), (970, o1041), (971, o1042 P), (972, kl "MaxRects" [.ref 401] [.ref 972, .ref 401, O] 971 [] (.ref 897) 1354 1362), (973, su 972), (974, bs 972)]
noncomputable def o1049:=tu [.ref 972]
noncomputable def o1051 (P):=di [e P "__module__" 1476 w1345, e P "__qualname__" 1478 (v "MaxRectsBl" 1477), e P "__firstlineno__" 1480 (.int 499 1479), r P "_select_position" 1497 988, r P "__static_attributes__" 1498 989] 5
noncomputable def o1053:=fi [.int 501 0, .int 4 0, .ref 987]
noncomputable def o1054:=cg "MaxRectsBl" 1471 "MaxRectsBl" 1472 1473 [.int 499 0, .int 0 0, .int 0 0, .int 0 0, .int 0 0, .ref 978, .bool false, .int 181 0, .ref 979, .none, .none, .none, .none, .int 1474 0, .int 499 0] 1475
noncomputable def o1055:=fr 980 977 w1345
noncomputable def o1058:=tu [v "self" 1484, v "w" 1485, v "h" 1486, v "fitn" 1487, v "fitr" 1488, v "fit" 1489, v "_" 1490, v "m" 1491]
noncomputable def o1059:=tu [v "self" 1492, v "w" 1493, v "h" 1494]
noncomputable def o1060:=f0 (me 34 0) "MaxRectsBl._select_position"
noncomputable def o1061:=co "_select_position" "MaxRectsBl._select_position" 1481 501 3 0 3 982 1495
noncomputable def o1062:=f1 (me 34 0) "MaxRectsBl._select_position" w1345 987
noncomputable def o1064 (P):=di [e P "__module__" 1476 w1345, e P "__firstlineno__" 1480 (.int 499 1479), r P "_select_position" 1497 988, r P "__static_attributes__" 1498 989, e P "__doc__" 1499 .none] 2
noncomputable def o1065:=kl "MaxRectsBl" [.ref 972] [.ref 991, .ref 972, .ref 401, O] 990 [] (.ref 975) 1469 1477
noncomputable def t31 (P):=puts (t30 P) [(3, nz P w1345 31 40), (12, xz 93), (972, kl "MaxRects" [.ref 401] [.ref 972, .ref 401, O] 971 [.ref 991] (.ref 897) 1354 1362), (975, o1049), (976, bp), (977, o1051 P), (978, tu []), (979, o1053), (980, o1054), (981, o1055), (982, tu []), (983, x3 []), (984, o1058), (985, o1059), (986, o1060), (987, o1061), (988, o1062), (989, tu []), (990, o1064 P), (991, o1065), (992, su 991), (993, bs 991)]
noncomputable def o1073 (P):=di [e P "__module__" 1509 w1345, e P "__qualname__" 1511 (v "MaxRectsBssf" 1510), e P "__firstlineno__" 1513 (.int 512 1512), r P "_rect_fitness" 1523 1007, r P "__static_attributes__" 1524 1008] 5
noncomputable def o1075:=fi [.int 514 0, .int 4 0, .ref 1006]
noncomputable def o1076:=cg "MaxRectsBssf" 1504 "MaxRectsBssf" 1505 1506 [.int 512 0, .int 0 0, .int 0 0, .int 0 0, .int 0 0, .ref 997, .bool false, .int 181 0, .ref 998, .none, .none, .none, .none, .int 1507 0, .int 512 0] 1508
noncomputable def o1077:=fr 999 996 w1345
noncomputable def o1080:=tu [v "self" 1517, v "max_rect" 1518, v "width" 1519, v "height" 1520]
noncomputable def o1082:=f0 (me 35 0) "MaxRectsBssf._rect_fitness"
noncomputable def o1083:=co "_rect_fitness" "MaxRectsBssf._rect_fitness" 1514 514 4 0 3 1001 1521
noncomputable def o1084:=f1 (me 35 0) "MaxRectsBssf._rect_fitness" w1345 1006
noncomputable def o1086 (P):=di [e P "__module__" 1509 w1345, e P "__firstlineno__" 1513 (.int 512 1512), r P "_rect_fitness" 1523 1007, r P "__static_attributes__" 1524 1008, e P "__doc__" 1525 .none] 2
noncomputable def o1087:=kl "MaxRectsBssf" [.ref 972] [.ref 1010, .ref 972, .ref 401, O] 1009 [] (.ref 994) 1502 1510
noncomputable def t32 (P):=puts (t31 P) [(3, nz P w1345 32 41), (12, xz 96), (972, kl "MaxRects" [.ref 401] [.ref 972, .ref 401, O] 971 [.ref 991, .ref 1010] (.ref 897) 1354 1362), (994, o1049), (995, bp), (996, o1073 P), (997, tu []), (998, o1075), (999, o1076), (1000, o1077), (1001, tu []), (1002, x3 []), (1003, o1080), (1004, tu []), (1005, o1082), (1006, o1083), (1007, o1084), (1008, tu []), (1009, o1086 P), (1010, o1087), (1011, su 1010), (1012, bs 1010)]
noncomputable def o1095 (P):=di [e P "__module__" 1535 w1345, e P "__qualname__" 1537 (v "MaxRectsBaf" 1536), e P "__firstlineno__" 1539 (.int 518 1538), r P "_rect_fitness" 1549 1026, r P "__static_attributes__" 1550 1027] 5
noncomputable def o1097:=fi [.int 520 0, .int 4 0, .ref 1025]
noncomputable def o1098:=cg "MaxRectsBaf" 1530 "MaxRectsBaf" 1531 1532 [.int 518 0, .int 0 0, .int 0 0, .int 0 0, .int 0 0, .ref 1016, .bool false, .int 181 0, .ref 1017, .none, .none, .none, .none, .int 1533 0, .int 518 0] 1534
noncomputable def o1099:=fr 1018 1015 w1345
noncomputable def o1102:=tu [v "self" 1543, v "max_rect" 1544, v "width" 1545, v "height" 1546]
noncomputable def o1104:=f0 (me 36 0) "MaxRectsBaf._rect_fitness"
noncomputable def o1105:=co "_rect_fitness" "MaxRectsBaf._rect_fitness" 1540 520 4 0 3 1020 1547
noncomputable def o1106:=f1 (me 36 0) "MaxRectsBaf._rect_fitness" w1345 1025
noncomputable def o1108 (P):=di [e P "__module__" 1535 w1345, e P "__firstlineno__" 1539 (.int 518 1538), r P "_rect_fitness" 1549 1026, r P "__static_attributes__" 1550 1027, e P "__doc__" 1551 .none] 2
noncomputable def o1109:=kl "MaxRectsBaf" [.ref 972] [.ref 1029, .ref 972, .ref 401, O] 1028 [] (.ref 1013) 1528 1536
noncomputable def t33 (P):=puts (t32 P) [(3, nz P w1345 33 42), (12, xz 99), (972, kl "MaxRects" [.ref 401] [.ref 972, .ref 401, O] 971 [.ref 991, .ref 1010, .ref 1029] (.ref 897) 1354 1362), (1013, o1049), (1014, bp), (1015, o1095 P), (1016, tu []), (1017, o1097), (1018, o1098), (1019, o1099), (1020, tu []), (1021, x3 []), (1022, o1102), (1023, tu []), (1024, o1104), (1025, o1105), (1026, o1106), (1027, tu []), (1028, o1108 P), (1029, o1109), (1030, su 1029), (1031, bs 1029)]
noncomputable def o1114:=kl "MaxRects" [.ref 401] [.ref 972, .ref 401, O] 971 [.ref 991, .ref 1010, .ref 1029, .ref 1048] (.ref 897) 1354 1362
noncomputable def o1117 (P):=di [e P "__module__" 1561 w1345, e P "__qualname__" 1563 (v "MaxRectsBlsf" 1562), e P "__firstlineno__" 1565 (.int 524 1564), r P "_rect_fitness" 1575 1045, r P "__static_attributes__" 1576 1046] 5
noncomputable def o1119:=fi [.int 526 0, .int 4 0, .ref 1044]
noncomputable def o1120:=cg "MaxRectsBlsf" 1556 "MaxRectsBlsf" 1557 1558 [.int 524 0, .int 0 0, .int 0 0, .int 0 0, .int 0 0, .ref 1035, .bool false, .int 181 0, .ref 1036, .none, .none, .none, .none, .int 1559 0, .int 524 0] 1560
noncomputable def o1121:=fr 1037 1034 w1345
noncomputable def o1124:=tu [v "self" 1569, v "max_rect" 1570, v "width" 1571, v "height" 1572]
noncomputable def o1126:=f0 (me 37 0) "MaxRectsBlsf._rect_fitness"
noncomputable def o1127:=co "_rect_fitness" "MaxRectsBlsf._rect_fitness" 1566 526 4 0 3 1039 1573
noncomputable def o1128:=f1 (me 37 0) "MaxRectsBlsf._rect_fitness" w1345 1044
noncomputable def o1130 (P):=di [e P "__module__" 1561 w1345, e P "__firstlineno__" 1565 (.int 524 1564), r P "_rect_fitness" 1575 1045, r P "__static_attributes__" 1576 1046, e P "__doc__" 1577 .none] 2
noncomputable def o1131:=kl "MaxRectsBlsf" [.ref 972] [.ref 1048, .ref 972, .ref 401, O] 1047 [] (.ref 1032) 1554 1562
noncomputable def t34 (P):=puts (t33 P) [(3, nz P w1580 34 43), (12, xz 102), (972, o1114), (1032, o1049), (1033, bp), (1034, o1117 P), (1035, tu []), (1036, o1119), (1037, o1120), (1038, o1121), (1039, tu []), (1040, x3 []), (1041, o1124), (1042, tu []), (1043, o1126), (1044, o1127), (1045, o1128), (1046, tu []), (1047, o1130 P), (1048, o1131), (1049, su 1048), (1050, bs 1048)]
noncomputable def o1136:=kl "GuillotineBafMinas" [.ref 507] [.ref 887, .ref 507, .ref 488, .ref 401, O] 886 [.ref 1099] (.ref 871) 1319 1327
noncomputable def o1137:=tu [.ref 887]
noncomputable def o1139 (P):=di [e P "__module__" 1589 w1580, e P "__qualname__" 1591 (v "WasteManager" 1590), e P "__firstlineno__" 1593 (.int 531 1592), r P "__init__" 1605 1067, r P "add_waste" 1616 1074, r P "_fits_surface" 1625 1081, r P "validate_packing" 1632 1088, r P "reset" 1640 1096, r P "__static_attributes__" 1642 1097, r P "__classcell__" 1643 1054] 10
noncomputable def o1142:=fi [.int 533 0, .int 4 0, .ref 1066, .int 536 0, .int 4 0, .ref 1073, .int 539 0, .int 4 0, .ref 1080, .int 542 0, .int 4 0, .ref 1087, .int 545 0, .int 4 0, .ref 1095]
noncomputable def o1143:=cg "WasteManager" 1584 "WasteManager" 1585 1586 [.int 531 0, .int 0 0, .int 0 0, .int 0 0, .int 0 0, .ref 1055, .bool false, .int 181 0, .ref 1056, .none, .none, .none, .none, .int 1587 0, .int 531 0] 1588
noncomputable def o1144:=fr 1057 1053 w1580
noncomputable def o1146:=tu [.ref 1054]
noncomputable def o1147:=tu [v "__class__" 1597]
noncomputable def o1149:=tu [v "self" 1598, v "rot" 1599, v "merge" 1600, v "args" 1601, v "kwargs" 1602]
noncomputable def o1151:=f0 (me 39 0) "WasteManager.__init__"
noncomputable def o1152:=co "__init__" "WasteManager.__init__" 1594 533 3 0 15 1061 1603
noncomputable def o1153:=f3 (me 39 0) "WasteManager.__init__" [(s "__class__", 1054)] (.ref 1059) w1580 1066 (.ref 1060)
noncomputable def o1156:=tu [v "self" 1609, v "x" 1610, v "y" 1611, v "width" 1612, v "height" 1613]
noncomputable def o1158:=f0 (me 39 1) "WasteManager.add_waste"
noncomputable def o1159:=co "add_waste" "WasteManager.add_waste" 1606 536 5 0 3 1068 1614
noncomputable def o1160:=f1 (me 39 1) "WasteManager.add_waste" w1580 1073
noncomputable def o1163:=tu [v "self" 1620, v "width" 1621, v "height" 1622]
noncomputable def o1165:=f0 (me 39 2) "WasteManager._fits_surface"
noncomputable def o1166:=co "_fits_surface" "WasteManager._fits_surface" 1617 539 3 0 3 1075 1623
noncomputable def o1167:=f1 (me 39 2) "WasteManager._fits_surface" w1580 1080
noncomputable def o1170:=tu [v "self" 1629]
noncomputable def o1172:=f0 (me 39 3) "WasteManager.validate_packing"
noncomputable def o1173:=co "validate_packing" "WasteManager.validate_packing" 1626 542 1 0 3 1082 1630
noncomputable def o1174:=f1 (me 39 3) "WasteManager.validate_packing" w1580 1087
noncomputable def o1176:=tu [v "__class__" 1636]
noncomputable def o1178:=tu [v "self" 1637]
noncomputable def o1180:=f0 (me 39 4) "WasteManager.reset"
noncomputable def o1181:=co "reset" "WasteManager.reset" 1633 545 1 0 3 1090 1638
noncomputable def o1182:=f3 (me 39 4) "WasteManager.reset" [(s "__class__", 1054)] .none w1580 1095 (.ref 1089)
noncomputable def o1183:=tu [v "_sections" 1641]
noncomputable def o1184 (P):=di [e P "__module__" 1589 w1580, e P "__firstlineno__" 1593 (.int 531 1592), r P "__init__" 1605 1067, r P "add_waste" 1616 1074, r P "_fits_surface" 1625 1081, r P "validate_packing" 1632 1088, r P "reset" 1640 1096, r P "__static_attributes__" 1642 1097, e P "__doc__" 1644 .none] 3
noncomputable def o1185:=kl "WasteManager" [.ref 887] [.ref 1099, .ref 887, .ref 507, .ref 488, .ref 401, O] 1098 [] (.ref 1051) 1582 1590
noncomputable def t35 (P):=puts (t34 P) [(3, nz P w1580 35 44), (12, xz 105), (887, o1136), (1051, o1137), (1052, bp), (1053, o1139 P), (1054, ce 1099), (1055, tu []), (1056, o1142), (1057, o1143), (1058, o1144), (1059, o419), (1060, o1146), (1061, o1147), (1062, x3 []), (1063, o1149), (1064, tu []), (1065, o1151), (1066, o1152), (1067, o1153), (1068, tu []), (1069, x3 []), (1070, o1156), (1071, tu []), (1072, o1158), (1073, o1159), (1074, o1160), (1075, tu []), (1076, x3 []), (1077, o1163), (1078, tu []), (1079, o1165), (1080, o1166), (1081, o1167), (1082, tu []), (1083, x3 []), (1084, o1170), (1085, tu []), (1086, o1172), (1087, o1173), (1088, o1174), (1089, o1146), (1090, o1176), (1091, x3 []), (1092, o1178), (1093, tu []), (1094, o1180), (1095, o1181), (1096, o1182), (1097, o1183), (1098, o1184 P), (1099, o1185), (1100, su 1099), (1101, bs 1099)]
noncomputable def t36 (P):=puts (t35 P) [(3, nz P w1647 35 44)]
noncomputable def o1191:=kl "PackingAlgorithm" [O] [.ref 401, O] 400 [.ref 488, .ref 972, .ref 1186] (.ref 305) 540 548
noncomputable def o1194 (P):=di [e P "__module__" 1656 w1647, e P "__qualname__" 1658 w1657, e P "__firstlineno__" 1660 (.int 549 1659), r P "__init__" 1673 1118, r P "_placement_points_generator" 1687 1125, r P "_generate_placements" 1705 1132, r P "_merge_skyline" 1715 1139, r P "_add_skyline" 1725 1146, r P "_rect_fitness" 1735 1153, r P "_select_position" 1746 1160, r P "fitness" 1757 1167, r P "add_rect" 1769 1175, r P "reset" 1777 1183, r P "__static_attributes__" 1781 1184, r P "__classcell__" 1782 1105] 15
noncomputable def o1197:=fi [.int 551 0, .int 4 0, .ref 1117, .int 556 0, .int 4 0, .ref 1124, .int 563 0, .int 4 0, .ref 1131, .int 591 0, .int 4 0, .ref 1138, .int 601 0, .int 4 0, .ref 1145, .int 623 0, .int 4 0, .ref 1152, .int 626 0, .int 4 0, .ref 1159, .int 634 0, .int 4 0, .ref 1166, .int 644 0, .int 4 0, .ref 1174, .int 661 0, .int 4 0, .ref 1182]
noncomputable def o1198:=cg "Skyline" 1651 "Skyline" 1652 1653 [.int 549 0, .int 0 0, .int 0 0, .int 0 0, .int 0 0, .ref 1106, .bool false, .int 181 0, .ref 1107, .none, .none, .none, .none, .int 1654 0, .int 549 0] 1655
noncomputable def o1199:=fr 1108 1104 w1647
noncomputable def o1201:=tu [.ref 1105]
noncomputable def o1202:=tu [v "__class__" 1664]
noncomputable def o1204:=tu [v "self" 1665, v "width" 1666, v "height" 1667, v "rot" 1668, v "args" 1669, v "kwargs" 1670]
noncomputable def o1206:=f0 (me 41 0) "Skyline.__init__"
noncomputable def o1207:=co "__init__" "Skyline.__init__" 1661 551 4 0 15 1112 1671
noncomputable def o1208:=f3 (me 41 0) "Skyline.__init__" [(s "__class__", 1105)] (.ref 1110) w1647 1117 (.ref 1111)
noncomputable def o1211:=tu [v "self" 1677, v "skyline" 1678, v "width" 1679, v "ppointsl" 1680, v "ppointsr" 1681]
noncomputable def o1212:=tu [v "width" 1682, v "skyline_l" 1683, v "skyline_r" 1684]
noncomputable def o1213:=f0 (me 41 1) "Skyline._placement_points_generator"
noncomputable def o1214:=co "_placement_points_generator" "Skyline._placement_points_generator" 1674 556 3 0 3 1119 1685
noncomputable def o1215:=f1 (me 41 1) "Skyline._placement_points_generator" w1647 1124
noncomputable def o1218:=tu [v "self" 1691, v "width" 1692, v "height" 1693, v "skyline" 1694, v "points" 1695, v "left_index" 1696, v "right_index" 1697, v "support_height" 1698, v "support_index" 1699, v "placements" 1700, v "p" 1701, v "i" 1702]
noncomputable def o1220:=f0 (me 41 2) "Skyline._generate_placements"
noncomputable def o1221:=co "_generate_placements" "Skyline._generate_placements" 1688 563 3 0 3 1126 1703
noncomputable def o1222:=f1 (me 41 2) "Skyline._generate_placements" w1647 1131
noncomputable def o1225:=tu [v "self" 1709, v "skylineq" 1710, v "segment" 1711, v "s" 1712]
noncomputable def o1227:=f0 (me 41 3) "Skyline._merge_skyline"
noncomputable def o1228:=co "_merge_skyline" "Skyline._merge_skyline" 1706 591 3 0 3 1133 1713
noncomputable def o1229:=f1 (me 41 3) "Skyline._merge_skyline" w1647 1138
noncomputable def o1232:=tu [v "self" 1719, v "rect" 1720, v "skylineq" 1721, v "sky" 1722]
noncomputable def o1234:=f0 (me 41 4) "Skyline._add_skyline"
noncomputable def o1235:=co "_add_skyline" "Skyline._add_skyline" 1716 601 2 0 3 1140 1723
noncomputable def o1236:=f1 (me 41 4) "Skyline._add_skyline" w1647 1145
noncomputable def o1239:=tu [v "self" 1729, v "rect" 1730, v "left_index" 1731, v "right_index" 1732]
noncomputable def o1241:=f0 (me 41 5) "Skyline._rect_fitness"
noncomputable def o1242:=co "_rect_fitness" "Skyline._rect_fitness" 1726 623 4 0 3 1147 1733
noncomputable def o1243:=f1 (me 41 5) "Skyline._rect_fitness" w1647 1152
noncomputable def o1246:=tu [v "self" 1739, v "width" 1740, v "height" 1741, v "positions" 1742]
noncomputable def o1247:=tu [v "self" 1743]
noncomputable def o1248:=f0 (me 41 6) "Skyline._select_position"
noncomputable def o1249:=co "_select_position" "Skyline._select_position" 1736 626 3 0 3 1154 1744
noncomputable def o1250:=f1 (me 41 6) "Skyline._select_position" w1647 1159
noncomputable def o1253:=tu [v "self" 1750, v "width" 1751, v "height" 1752, v "rect" 1753, v "fitness" 1754]
noncomputable def o1255:=f0 (me 41 7) "Skyline.fitness"
noncomputable def o1256:=co "fitness" "Skyline.fitness" 1747 634 3 0 3 1161 1755
noncomputable def o1257:=f1 (me 41 7) "Skyline.fitness" w1647 1166
noncomputable def o1261:=tu [v "self" 1761, v "width" 1762, v "height" 1763, v "rid" 1764, v "rect" 1765, v "_" 1766]
noncomputable def o1263:=f0 (me 41 8) "Skyline.add_rect"
noncomputable def o1264:=co "add_rect" "Skyline.add_rect" 1758 644 4 0 3 1169 1767
noncomputable def o1265:=f2 (me 41 8) "Skyline.add_rect" (.ref 1168) w1647 1174
noncomputable def o1267:=tu [v "__class__" 1773]
noncomputable def o1269:=tu [v "self" 1774]
noncomputable def o1271:=f0 (me 41 9) "Skyline.reset"
noncomputable def o1272:=co "reset" "Skyline.reset" 1770 661 1 0 3 1177 1775
noncomputable def o1273:=f3 (me 41 9) "Skyline.reset" [(s "__class__", 1105)] .none w1647 1182 (.ref 1176)
noncomputable def o1274:=tu [v "_skyline" 1778, v "_waste" 1779, v "_waste_management" 1780]
noncomputable def o1275 (P):=di [e P "__module__" 1656 w1647, e P "__firstlineno__" 1660 (.int 549 1659), r P "__init__" 1673 1118, r P "_placement_points_generator" 1687 1125, r P "_generate_placements" 1705 1132, r P "_merge_skyline" 1715 1139, r P "_add_skyline" 1725 1146, r P "_rect_fitness" 1735 1153, r P "_select_position" 1746 1160, r P "fitness" 1757 1167, r P "add_rect" 1769 1175, r P "reset" 1777 1183, r P "__static_attributes__" 1781 1184, e P "__doc__" 1783 .none] 3
noncomputable def t37 (P):=puts (t36 P) [(3, nz P w1647 36 45), (12, xz 108), (401, o1191), (1102, o411), (1103, bp), (1104, o1194 P), (1105, ce 1186), (1106, tu []), (1107, o1197), (1108, o1198), (1109, o1199), (1110, o976), (1111, o1201), (1112, o1202), (1113, x3 []), (1114, o1204), (1115, tu []), (1116, o1206), (1117, o1207), (1118, o1208), (1119, tu []), (1120, x3 []), (1121, o1211), (1122, o1212), (1123, o1213), (1124, o1214), (1125, o1215), (1126, tu []), (1127, x3 []), (1128, o1218), (1129, tu []), (1130, o1220), (1131, o1221), (1132, o1222), (1133, tu []), (1134, x3 []), (1135, o1225), (1136, tu []), (1137, o1227), (1138, o1228), (1139, o1229), (1140, tu []), (1141, x3 []), (1142, o1232), (1143, tu []), (1144, o1234), (1145, o1235), (1146, o1236), (1147, tu []), (1148, x3 []), (1149, o1239), (1150, tu []), (1151, o1241), (1152, o1242), (1153, o1243), (1154, tu []), (1155, x3 []), (1156, o1246), (1157, o1247), (1158, o1248), (1159, o1249), (1160, o1250), (1161, tu []), (1162, x3 []), (1163, o1253), (1164, tu []), (1165, o1255), (1166, o1256), (1167, o1257), (1168, o159), (1169, tu []), (1170, x3 []), (1171, o1261), (1172, tu []), (1173, o1263), (1174, o1264), (1175, o1265), (1176, o1201), (1177, o1267), (1178, x3 []), (1179, o1269), (1180, tu []), (1181, o1271), (1182, o1272), (1183, o1273), (1184, o1274), (1185, o1275 P), (1186, kl "Skyline" [.ref 401] [.ref 1186, .ref 401, O] 1185 [] (.ref 1102) 1649 1657), (1187, su 1186), (1188, bs 1186)]
noncomputable def o1282:=tu [.ref 1186]
noncomputable def o1284 (P):=di [e P "__module__" 1793 w1647, e P "__qualname__" 1795 w1794, e P "__firstlineno__" 1797 (.int 665 1796), r P "_rect_fitness" 1809 1202, r P "_rect_fitnes2s" 1819 1209, r P "__static_attributes__" 1820 1210] 6
noncomputable def o1286:=fi [.int 667 0, .int 4 0, .ref 1201, .int 673 0, .int 4 0, .ref 1208]
noncomputable def o1287:=cg "SkylineMwf" 1788 "SkylineMwf" 1789 1790 [.int 665 0, .int 0 0, .int 0 0, .int 0 0, .int 0 0, .ref 1192, .bool false, .int 181 0, .ref 1193, .none, .none, .none, .none, .int 1791 0, .int 665 0] 1792
noncomputable def o1288:=fr 1194 1191 w1647
noncomputable def o1291:=tu [v "self" 1801, v "rect" 1802, v "left_index" 1803, v "right_index" 1804, v "waste" 1805, v "seg" 1806]
noncomputable def o1293:=f0 (me 42 0) "SkylineMwf._rect_fitness"
noncomputable def o1294:=co "_rect_fitness" "SkylineMwf._rect_fitness" 1798 667 4 0 3 1196 1807
noncomputable def o1295:=f1 (me 42 0) "SkylineMwf._rect_fitness" w1647 1201
noncomputable def o1298:=tu [v "self" 1813, v "rect" 1814, v "left_index" 1815, v "right_index" 1816]
noncomputable def o1300:=f0 (me 42 1) "SkylineMwf._rect_fitnes2s"
noncomputable def o1301:=co "_rect_fitnes2s" "SkylineMwf._rect_fitnes2s" 1810 673 4 0 3 1203 1817
noncomputable def o1302:=f1 (me 42 1) "SkylineMwf._rect_fitnes2s" w1647 1208
noncomputable def o1304 (P):=di [e P "__module__" 1793 w1647, e P "__firstlineno__" 1797 (.int 665 1796), r P "_rect_fitness" 1809 1202, r P "_rect_fitnes2s" 1819 1209, r P "__static_attributes__" 1820 1210, e P "__doc__" 1821 .none] 2
noncomputable def t38 (P):=puts (t37 P) [(3, nz P w1647 37 46), (12, xz 111), (1186, kl "Skyline" [.ref 401] [.ref 1186, .ref 401, O] 1185 [.ref 1212] (.ref 1102) 1649 1657), (1189, o1282), (1190, bp), (1191, o1284 P), (1192, tu []), (1193, o1286), (1194, o1287), (1195, o1288), (1196, tu []), (1197, x3 []), (1198, o1291), (1199, tu []), (1200, o1293), (1201, o1294), (1202, o1295), (1203, tu []), (1204, x3 []), (1205, o1298), (1206, tu []), (1207, o1300), (1208, o1301), (1209, o1302), (1210, tu []), (1211, o1304 P), (1212, kl "SkylineMwf" [.ref 1186] [.ref 1212, .ref 1186, .ref 401, O] 1211 [] (.ref 1189) 1786 1794), (1213, su 1212), (1214, bs 1212)]
noncomputable def o1313 (P):=di [e P "__module__" 1831 w1647, e P "__qualname__" 1833 w1832, e P "__firstlineno__" 1835 (.int 675 1834), r P "_rect_fitness" 1847 1228, r P "__static_attributes__" 1848 1229] 5
noncomputable def o1315:=fi [.int 677 0, .int 4 0, .ref 1227]
noncomputable def o1316:=cg "SkylineMwfl" 1826 "SkylineMwfl" 1827 1828 [.int 675 0, .int 0 0, .int 0 0, .int 0 0, .int 0 0, .ref 1218, .bool false, .int 181 0, .ref 1219, .none, .none, .none, .none, .int 1829 0, .int 675 0] 1830
noncomputable def o1317:=fr 1220 1217 w1647
noncomputable def o1320:=tu [v "self" 1839, v "rect" 1840, v "left_index" 1841, v "right_index" 1842, v "waste" 1843, v "seg" 1844]
noncomputable def o1322:=f0 (me 43 0) "SkylineMwfl._rect_fitness"
noncomputable def o1323:=co "_rect_fitness" "SkylineMwfl._rect_fitness" 1836 677 4 0 3 1222 1845
noncomputable def o1324:=f1 (me 43 0) "SkylineMwfl._rect_fitness" w1647 1227
noncomputable def o1326 (P):=di [e P "__module__" 1831 w1647, e P "__firstlineno__" 1835 (.int 675 1834), r P "_rect_fitness" 1847 1228, r P "__static_attributes__" 1848 1229, e P "__doc__" 1849 .none] 2
noncomputable def t39 (P):=puts (t38 P) [(3, nz P w1647 38 47), (12, xz 114), (1186, kl "Skyline" [.ref 401] [.ref 1186, .ref 401, O] 1185 [.ref 1212, .ref 1231] (.ref 1102) 1649 1657), (1215, o1282), (1216, bp), (1217, o1313 P), (1218, tu []), (1219, o1315), (1220, o1316), (1221, o1317), (1222, tu []), (1223, x3 []), (1224, o1320), (1225, tu []), (1226, o1322), (1227, o1323), (1228, o1324), (1229, tu []), (1230, o1326 P), (1231, kl "SkylineMwfl" [.ref 1186] [.ref 1231, .ref 1186, .ref 401, O] 1230 [] (.ref 1215) 1824 1832), (1232, su 1231), (1233, bs 1231)]
noncomputable def o1332:=kl "Skyline" [.ref 401] [.ref 1186, .ref 401, O] 1185 [.ref 1212, .ref 1231, .ref 1250] (.ref 1102) 1649 1657
noncomputable def o1335 (P):=di [e P "__module__" 1859 w1647, e P "__qualname__" 1861 w1860, e P "__firstlineno__" 1863 (.int 682 1862), r P "_rect_fitness" 1873 1247, r P "__static_attributes__" 1874 1248] 5
noncomputable def o1337:=fi [.int 684 0, .int 4 0, .ref 1246]
noncomputable def o1338:=cg "SkylineBl" 1854 "SkylineBl" 1855 1856 [.int 682 0, .int 0 0, .int 0 0, .int 0 0, .int 0 0, .ref 1237, .bool false, .int 181 0, .ref 1238, .none, .none, .none, .none, .int 1857 0, .int 682 0] 1858
noncomputable def o1339:=fr 1239 1236 w1647
noncomputable def o1342:=tu [v "self" 1867, v "rect" 1868, v "left_index" 1869, v "right_index" 1870]
noncomputable def o1344:=f0 (me 44 0) "SkylineBl._rect_fitness"
noncomputable def o1345:=co "_rect_fitness" "SkylineBl._rect_fitness" 1864 684 4 0 3 1241 1871
noncomputable def o1346:=f1 (me 44 0) "SkylineBl._rect_fitness" w1647 1246
noncomputable def o1348 (P):=di [e P "__module__" 1859 w1647, e P "__firstlineno__" 1863 (.int 682 1862), r P "_rect_fitness" 1873 1247, r P "__static_attributes__" 1874 1248, e P "__doc__" 1875 .none] 2
noncomputable def t40 (P):=puts (t39 P) [(3, nz P w1647 39 48), (12, xz 117), (1186, o1332), (1234, o1282), (1235, bp), (1236, o1335 P), (1237, tu []), (1238, o1337), (1239, o1338), (1240, o1339), (1241, tu []), (1242, x3 []), (1243, o1342), (1244, tu []), (1245, o1344), (1246, o1345), (1247, o1346), (1248, tu []), (1249, o1348 P), (1250, kl "SkylineBl" [.ref 1186] [.ref 1250, .ref 1186, .ref 401, O] 1249 [] (.ref 1234) 1852 1860), (1251, su 1250), (1252, bs 1250)]
noncomputable def o1354:=kl "SkylineBl" [.ref 1186] [.ref 1250, .ref 1186, .ref 401, O] 1249 [.ref 1271] (.ref 1234) 1852 1860
noncomputable def o1355:=tu [.ref 1250]
noncomputable def o1357 (P):=di [e P "__module__" 1885 w1647, e P "__qualname__" 1887 (v "SkylineBlWm" 1886), e P "__firstlineno__" 1889 (.int 686 1888), r P "__init__" 1901 1268, r P "__static_attributes__" 1903 1269, r P "__classcell__" 1904 1256] 6
noncomputable def o1360:=fi [.int 688 0, .int 4 0, .ref 1267]
noncomputable def o1361:=cg "SkylineBlWm" 1880 "SkylineBlWm" 1881 1882 [.int 686 0, .int 0 0, .int 0 0, .int 0 0, .int 0 0, .ref 1257, .bool false, .int 181 0, .ref 1258, .none, .none, .none, .none, .int 1883 0, .int 686 0] 1884
noncomputable def o1362:=fr 1259 1255 w1647
noncomputable def o1363:=tu [.ref 1256]
noncomputable def o1364:=tu [v "__class__" 1893]
noncomputable def o1366:=tu [v "self" 1894, v "width" 1895, v "height" 1896, v "args" 1897, v "kwargs" 1898]
noncomputable def o1368:=f0 (me 45 0) "SkylineBlWm.__init__"
noncomputable def o1369:=co "__init__" "SkylineBlWm.__init__" 1890 688 3 0 15 1262 1899
noncomputable def o1370:=f3 (me 45 0) "SkylineBlWm.__init__" [(s "__class__", 1256)] .none w1647 1267 (.ref 1261)
noncomputable def o1371:=tu [v "_waste_management" 1902]
noncomputable def o1372 (P):=di [e P "__module__" 1885 w1647, e P "__firstlineno__" 1889 (.int 686 1888), r P "__init__" 1901 1268, r P "__static_attributes__" 1903 1269, e P "__doc__" 1905 .none] 3
noncomputable def o1373:=kl "SkylineBlWm" [.ref 1250] [.ref 1271, .ref 1250, .ref 1186, .ref 401, O] 1270 [] (.ref 1253) 1878 1886
noncomputable def t41 (P):=puts (t40 P) [(3, nz P w1647 40 49), (12, xz 120), (1250, o1354), (1253, o1355), (1254, bp), (1255, o1357 P), (1256, ce 1271), (1257, tu []), (1258, o1360), (1259, o1361), (1260, o1362), (1261, o1363), (1262, o1364), (1263, x3 []), (1264, o1366), (1265, tu []), (1266, o1368), (1267, o1369), (1268, o1370), (1269, o1371), (1270, o1372 P), (1271, o1373), (1272, su 1271), (1273, bs 1271)]
noncomputable def o1378:=kl "SkylineMwf" [.ref 1186] [.ref 1212, .ref 1186, .ref 401, O] 1211 [.ref 1292] (.ref 1189) 1786 1794
noncomputable def o1379:=tu [.ref 1212]
noncomputable def o1381 (P):=di [e P "__module__" 1915 w1647, e P "__qualname__" 1917 (v "SkylineMwfWm" 1916), e P "__firstlineno__" 1919 (.int 691 1918), r P "__init__" 1931 1289, r P "__static_attributes__" 1933 1290, r P "__classcell__" 1934 1277] 6
noncomputable def o1384:=fi [.int 693 0, .int 4 0, .ref 1288]
noncomputable def o1385:=cg "SkylineMwfWm" 1910 "SkylineMwfWm" 1911 1912 [.int 691 0, .int 0 0, .int 0 0, .int 0 0, .int 0 0, .ref 1278, .bool false, .int 181 0, .ref 1279, .none, .none, .none, .none, .int 1913 0, .int 691 0] 1914
noncomputable def o1386:=fr 1280 1276 w1647
noncomputable def o1387:=tu [.ref 1277]
noncomputable def o1388:=tu [v "__class__" 1923]
noncomputable def o1390:=tu [v "self" 1924, v "width" 1925, v "height" 1926, v "args" 1927, v "kwargs" 1928]
noncomputable def o1392:=f0 (me 46 0) "SkylineMwfWm.__init__"
noncomputable def o1393:=co "__init__" "SkylineMwfWm.__init__" 1920 693 3 0 15 1283 1929
noncomputable def o1394:=f3 (me 46 0) "SkylineMwfWm.__init__" [(s "__class__", 1277)] .none w1647 1288 (.ref 1282)
noncomputable def o1395:=tu [v "_waste_management" 1932]
noncomputable def o1396 (P):=di [e P "__module__" 1915 w1647, e P "__firstlineno__" 1919 (.int 691 1918), r P "__init__" 1931 1289, r P "__static_attributes__" 1933 1290, e P "__doc__" 1935 .none] 3
noncomputable def o1397:=kl "SkylineMwfWm" [.ref 1212] [.ref 1292, .ref 1212, .ref 1186, .ref 401, O] 1291 [] (.ref 1274) 1908 1916
noncomputable def t42 (P):=puts (t41 P) [(3, nz P w1647 41 50), (12, xz 123), (1212, o1378), (1274, o1379), (1275, bp), (1276, o1381 P), (1277, ce 1292), (1278, tu []), (1279, o1384), (1280, o1385), (1281, o1386), (1282, o1387), (1283, o1388), (1284, x3 []), (1285, o1390), (1286, tu []), (1287, o1392), (1288, o1393), (1289, o1394), (1290, o1395), (1291, o1396 P), (1292, o1397), (1293, su 1292), (1294, bs 1292)]
noncomputable def o1402:=kl "SkylineMwfl" [.ref 1186] [.ref 1231, .ref 1186, .ref 401, O] 1230 [.ref 1313] (.ref 1215) 1824 1832
noncomputable def o1403:=tu [.ref 1231]
noncomputable def o1405 (P):=di [e P "__module__" 1945 w1647, e P "__qualname__" 1947 (v "SkylineMwflWm" 1946), e P "__firstlineno__" 1949 (.int 696 1948), r P "__init__" 1961 1310, r P "__static_attributes__" 1963 1311, r P "__classcell__" 1964 1298] 6
noncomputable def o1408:=fi [.int 698 0, .int 4 0, .ref 1309]
noncomputable def o1409:=cg "SkylineMwflWm" 1940 "SkylineMwflWm" 1941 1942 [.int 696 0, .int 0 0, .int 0 0, .int 0 0, .int 0 0, .ref 1299, .bool false, .int 181 0, .ref 1300, .none, .none, .none, .none, .int 1943 0, .int 696 0] 1944
noncomputable def o1410:=fr 1301 1297 w1647
noncomputable def o1411:=tu [.ref 1298]
noncomputable def o1412:=tu [v "__class__" 1953]
noncomputable def o1414:=tu [v "self" 1954, v "width" 1955, v "height" 1956, v "args" 1957, v "kwargs" 1958]
noncomputable def o1416:=f0 (me 47 0) "SkylineMwflWm.__init__"
noncomputable def o1417:=co "__init__" "SkylineMwflWm.__init__" 1950 698 3 0 15 1304 1959
noncomputable def o1418:=f3 (me 47 0) "SkylineMwflWm.__init__" [(s "__class__", 1298)] .none w1647 1309 (.ref 1303)
noncomputable def o1419:=tu [v "_waste_management" 1962]
noncomputable def o1420 (P):=di [e P "__module__" 1945 w1647, e P "__firstlineno__" 1949 (.int 696 1948), r P "__init__" 1961 1310, r P "__static_attributes__" 1963 1311, e P "__doc__" 1965 .none] 3
noncomputable def o1421:=kl "SkylineMwflWm" [.ref 1231] [.ref 1313, .ref 1231, .ref 1186, .ref 401, O] 1312 [] (.ref 1295) 1938 1946
noncomputable def o1426:=tu [v "pack_algo" 1973, v "width" 1974, v "height" 1975, v "args" 1976, v "kwargs" 1977]
noncomputable def o1428:=f0 (st 49) "_new_packing"
noncomputable def o1429:=co "_new_packing" "_new_packing" 1970 702 3 0 15 1316 1978
noncomputable def o1430:=f1 (st 49) "_new_packing" w1968 1321
noncomputable def t43 (P):=puts (t42 P) [(3, nz P w1968 43 52), (12, xz 129), (1231, o1402), (1295, o1403), (1296, bp), (1297, o1405 P), (1298, ce 1313), (1299, tu []), (1300, o1408), (1301, o1409), (1302, o1410), (1303, o1411), (1304, o1412), (1305, x3 []), (1306, o1414), (1307, tu []), (1308, o1416), (1309, o1417), (1310, o1418), (1311, o1419), (1312, o1420 P), (1313, o1421), (1314, su 1313), (1315, bs 1313), (1316, tu []), (1317, x3 []), (1318, o1426), (1319, tu []), (1320, o1428), (1321, o1429), (1322, o1430)]
noncomputable def o1435 (P):=di [e P "__module__" 1988 w1968, e P "__qualname__" 1990 (v "BinFactory" 1989), e P "__firstlineno__" 1992 (.int 760 1991), r P "__init__" 2005 1336, r P "_create_bin" 2012 1343, r P "is_empty" 2019 1350, r P "fitness" 2028 1357, r P "fits_inside" 2037 1364, r P "new_bin" 2044 1371, r P "__eq__" 2052 1378, r P "__lt__" 2060 1385, r P "__static_attributes__" 2069 1386] 12
noncomputable def o1437:=fi [.int 762 0, .int 4 0, .ref 1335, .int 772 0, .int 4 0, .ref 1342, .int 775 0, .int 4 0, .ref 1349, .int 778 0, .int 4 0, .ref 1356, .int 783 0, .int 4 0, .ref 1363, .int 786 0, .int 4 0, .ref 1370, .int 793 0, .int 4 0, .ref 1377, .int 796 0, .int 4 0, .ref 1384]
noncomputable def o1438:=cg "BinFactory" 1983 "BinFactory" 1984 1985 [.int 760 0, .int 0 0, .int 0 0, .int 0 0, .int 0 0, .ref 1326, .bool false, .int 181 0, .ref 1327, .none, .none, .none, .none, .int 1986 0, .int 760 0] 1987
noncomputable def o1439:=fr 1328 1325 w1968
noncomputable def o1442:=tu [v "self" 1996, v "width" 1997, v "height" 1998, v "count" 1999, v "pack_algo" 2000, v "args" 2001, v "kwargs" 2002]
noncomputable def o1444:=f0 (me 50 0) "BinFactory.__init__"
noncomputable def o1445:=co "__init__" "BinFactory.__init__" 1993 762 5 0 15 1330 2003
noncomputable def o1446:=f1 (me 50 0) "BinFactory.__init__" w1968 1335
noncomputable def o1449:=tu [v "self" 2009]
noncomputable def o1451:=f0 (me 50 1) "BinFactory._create_bin"
noncomputable def o1452:=co "_create_bin" "BinFactory._create_bin" 2006 772 1 0 3 1337 2010
noncomputable def o1453:=f1 (me 50 1) "BinFactory._create_bin" w1968 1342
noncomputable def o1456:=tu [v "self" 2016]
noncomputable def o1458:=f0 (me 50 2) "BinFactory.is_empty"
noncomputable def o1459:=co "is_empty" "BinFactory.is_empty" 2013 775 1 0 3 1344 2017
noncomputable def o1460:=f1 (me 50 2) "BinFactory.is_empty" w1968 1349
noncomputable def o1463:=tu [v "self" 2023, v "width" 2024, v "height" 2025]
noncomputable def o1465:=f0 (me 50 3) "BinFactory.fitness"
noncomputable def o1466:=co "fitness" "BinFactory.fitness" 2020 778 3 0 3 1351 2026
noncomputable def o1467:=f1 (me 50 3) "BinFactory.fitness" w1968 1356
noncomputable def o1470:=tu [v "self" 2032, v "width" 2033, v "height" 2034]
noncomputable def o1472:=f0 (me 50 4) "BinFactory.fits_inside"
noncomputable def o1473:=co "fits_inside" "BinFactory.fits_inside" 2029 783 3 0 3 1358 2035
noncomputable def o1474:=f1 (me 50 4) "BinFactory.fits_inside" w1968 1363
noncomputable def o1477:=tu [v "self" 2041]
noncomputable def o1479:=f0 (me 50 5) "BinFactory.new_bin"
noncomputable def o1480:=co "new_bin" "BinFactory.new_bin" 2038 786 1 0 3 1365 2042
noncomputable def o1481:=f1 (me 50 5) "BinFactory.new_bin" w1968 1370
noncomputable def o1484:=tu [v "self" 2048, v "other" 2049]
noncomputable def o1486:=f0 (me 50 6) "BinFactory.__eq__"
noncomputable def o1487:=co "__eq__" "BinFactory.__eq__" 2045 793 2 0 3 1372 2050
noncomputable def o1488:=f1 (me 50 6) "BinFactory.__eq__" w1968 1377
noncomputable def o1491:=tu [v "self" 2056, v "other" 2057]
noncomputable def o1493:=f0 (me 50 7) "BinFactory.__lt__"
noncomputable def o1494:=co "__lt__" "BinFactory.__lt__" 2053 796 2 0 3 1379 2058
noncomputable def o1495:=f1 (me 50 7) "BinFactory.__lt__" w1968 1384
noncomputable def o1496:=tu [v "_algo_args" 2061, v "_algo_kwargs" 2062, v "_bid" 2063, v "_count" 2064, v "_height" 2065, v "_pack_algo" 2066, v "_ref_bin" 2067, v "_width" 2068]
noncomputable def o1497 (P):=di [e P "__module__" 1988 w1968, e P "__firstlineno__" 1992 (.int 760 1991), r P "__init__" 2005 1336, r P "_create_bin" 2012 1343, r P "is_empty" 2019 1350, r P "fitness" 2028 1357, r P "fits_inside" 2037 1364, r P "new_bin" 2044 1371, r P "__eq__" 2052 1378, r P "__lt__" 2060 1385, r P "__static_attributes__" 2069 1386, r P "__dict__" 2071 1389, r P "__weakref__" 2073 1390, e P "__doc__" 2074 .none, e P "__hash__" 2075 .none] 5
noncomputable def o1498:=kl "BinFactory" [O] [.ref 1388, O] 1387 [] (.ref 1323) 1981 1989
noncomputable def o1499:=ff "getset_descriptor" [v "__dict__" 2070, .ref 1388, .builtin "function.__dict__", .builtin "function.__dict__#set"]
noncomputable def o1500:=ff "getset_descriptor" [v "__weakref__" 2072, .ref 1388, .builtin "ExceptionGroup.__weakref__", .none]
noncomputable def t44 (P):=puts (t43 P) [(3, nz P w1968 44 53), (12, xz 132), (1323, o13), (1324, bp), (1325, o1435 P), (1326, tu []), (1327, o1437), (1328, o1438), (1329, o1439), (1330, tu []), (1331, x3 []), (1332, o1442), (1333, tu []), (1334, o1444), (1335, o1445), (1336, o1446), (1337, tu []), (1338, x3 []), (1339, o1449), (1340, tu []), (1341, o1451), (1342, o1452), (1343, o1453), (1344, tu []), (1345, x3 []), (1346, o1456), (1347, tu []), (1348, o1458), (1349, o1459), (1350, o1460), (1351, tu []), (1352, x3 []), (1353, o1463), (1354, tu []), (1355, o1465), (1356, o1466), (1357, o1467), (1358, tu []), (1359, x3 []), (1360, o1470), (1361, tu []), (1362, o1472), (1363, o1473), (1364, o1474), (1365, tu []), (1366, x3 []), (1367, o1477), (1368, tu []), (1369, o1479), (1370, o1480), (1371, o1481), (1372, tu []), (1373, x3 []), (1374, o1484), (1375, tu []), (1376, o1486), (1377, o1487), (1378, o1488), (1379, tu []), (1380, x3 []), (1381, o1491), (1382, tu []), (1383, o1493), (1384, o1494), (1385, o1495), (1386, o1496), (1387, o1497 P), (1388, o1498), (1389, o1499), (1390, o1500), (1391, su 1388), (1392, bs 1388)]
noncomputable def o1503 (P):=nz P w2078 51 60
noncomputable def o1509:=f0 (st 52) "_law_ways"
noncomputable def o1510:=co "_law_ways" "_law_ways" 2080 799 0 0 3 1393 2083
noncomputable def o1511:=f1 (st 52) "_law_ways" w2078 1398
noncomputable def o1514:=tu [v "script" 2089, v "k" 2090, v "other" 2091]
noncomputable def o1516:=f0 (st 53) "_law_at"
noncomputable def o1517:=co "_law_at" "_law_at" 2086 801 3 0 3 1400 2092
noncomputable def o1518:=f1 (st 53) "_law_at" w2078 1405
noncomputable def o1521:=tu [v "number" 2098, v "most" 2099, v "n" 2100]
noncomputable def o1523:=f0 (st 54) "_law_side"
noncomputable def o1524:=co "_law_side" "_law_side" 2095 803 2 0 3 1407 2101
noncomputable def o1525:=f1 (st 54) "_law_side" w2078 1412
noncomputable def o1528:=f0 (st 55) "_law_cut"
noncomputable def o1529:=cg "_law_cut" 2104 "_law_cut" 2105 2106 [.int 806 0, .int 4 0, .int 0 0, .int 0 0, .int 3 0, .ref 1414, .bool true, .int 181 0, .ref 1415, .none, .none, .none, .ref 1416, .int 2107 0, .int 806 0] 2108
noncomputable def o1530:=f1 (st 55) "_law_cut" w2078 1417
noncomputable def o1533:=tu [v "one" 2113, v "part" 2114]
noncomputable def o1535:=f0 (st 56) "_law_within"
noncomputable def o1536:=co "_law_within" "_law_within" 2110 814 2 0 3 1419 2115
noncomputable def o1537:=f1 (st 56) "_law_within" w2078 1424
noncomputable def o1540:=f0 (st 57) "_law_rests"
noncomputable def o1541:=cg "_law_rests" 2118 "_law_rests" 2119 2120 [.int 816 0, .int 3 0, .int 0 0, .int 0 0, .int 3 0, .ref 1426, .bool true, .int 181 0, .ref 1427, .none, .none, .none, .ref 1428, .int 2121 0, .int 816 0] 2122
noncomputable def o1542:=f1 (st 57) "_law_rests" w2078 1429
noncomputable def o1545:=f0 (st 58) "law"
noncomputable def o1546:=cg "law" 2124 "law" 2125 2126 [.int 832 0, .int 1 0, .int 0 0, .int 0 0, .int 3 0, .ref 1431, .bool true, .int 181 0, .ref 1432, .none, .none, .none, .ref 1433, .int 2127 0, .int 832 0] 2128
noncomputable def o1547:=f1 (st 58) "law" w2078 1434
noncomputable def t45 (P):=puts (t44 P) [(3, o1503 P), (12, xz 153), (1393, tu []), (1394, x3 []), (1395, tu []), (1396, tu []), (1397, o1509), (1398, o1510), (1399, o1511), (1400, tu []), (1401, x3 []), (1402, o1514), (1403, tu []), (1404, o1516), (1405, o1517), (1406, o1518), (1407, tu []), (1408, x3 []), (1409, o1521), (1410, tu []), (1411, o1523), (1412, o1524), (1413, o1525), (1414, tu []), (1415, x3 []), (1416, o1528), (1417, o1529), (1418, o1530), (1419, tu []), (1420, x3 []), (1421, o1533), (1422, tu []), (1423, o1535), (1424, o1536), (1425, o1537), (1426, tu []), (1427, x3 []), (1428, o1540), (1429, o1541), (1430, o1542), (1431, tu []), (1432, x3 []), (1433, o1545), (1434, o1546), (1435, o1547)]
-- fin changed 0
noncomputable def hF (P : Params) : Heap := ⟨⟨[boot_o_0 P, boot_o_1 P, boot_o_2 P, o1503 P, boot_o_4 P, boot_o_5 P, boot_o_6 P, boot_o_7 P, boot_o_8 P, boot_o_9 P, boot_o_10 P, tu [], xz 153, o2, o3, tu [], x3 [], o8, tu [], o10, o11, o12, o13, bp, o15 P, tu [], o17, o18, o19, tu [], x3 [], o22, tu [], o24, o25, o26, tu [], x3 [], o29, tu [], o31, o32, o33, tu [], x3 [], o36, tu [], o38, o39, o40, o41, o42 P, o43, o44, o45, su 52, bs 52, o13, bp, o52 P, tu [], o54, o55, o56, tu [], x3 [], o59, tu [], o61, o62, o63, tu [], x3 [], o66, tu [], o68, o69, o70, tu [], x3 [], o73, tu [], o75, o76, o77, o78, tu [], x3 [], o81, tu [], o83, o84, o85, o86, tu [], x3 [], o89, tu [], o91, o92, o93, o94, tu [], x3 [], o97, tu [], o99, o100, o101, o102, tu [], x3 [], o105, tu [], o107, o108, o109, o110, o111, o112 P, o120, o114, o115, su 120, bs 120, o121, bp, o123 P, ce 151, tu [], o126, o127, o128, o129, o130, x3 [], o132, tu [], o134, o135, o136, tu [], x3 [], o139, tu [], o141, o142, o143, o144, tu [], o146 P, o147, su 151, bs 151, o13, bp, o154 P, tu [], o156, o157, o158, o159, tu [], x3 [], o162, tu [], o164, o165, o166, tu [], x3 [], o169, tu [], o171, o172, o173, o174, tu [], x3 [], o177, tu [], o179, o180, o181, o182, tu [], x3 [], o185, tu [], o187, o188, o189, o190, tu [], x3 [], o193, tu [], o195, o196, o197, o198, tu [], x3 [], o201, tu [], o203, o204, o205, o206, tu [], x3 [], o209, tu [], o211, o212, o213, o214, tu [], x3 [], o217, tu [], o219, o220, o221, o222, tu [], x3 [], o225, tu [], o227, o228, o229, o230, tu [], x3 [], o233, tu [], o235, o236, o237, tu [], x3 [], o240, tu [], o242, o243, o244, tu [], x3 [], o247, tu [], o249, o250, o251, tu [], x3 [], o254, tu [], o256, o257, o258, tu [], x3 [], o261, tu [], o263, o264, o265, tu [], x3 [], o268, tu [], o270, o271, o272, o273, tu [], x3 [], o276, tu [], o278, o279, o280, o273, tu [], x3 [], o284, tu [], o286, o287, o288, tu [], x3 [], o291, tu [], o293, o294, o295, o296, o297 P, o298, o299, o300, su 300, bs 300, o13, bp, o308 P, tu [], o310, o311, o312, o313, tu [], x3 [], o316, tu [], o318, o319, o320, tu [], x3 [], o323, tu [], o325, o326, o327, tu [], x3 [], o330, tu [], o332, o333, o334, tu [], x3 [], o337, tu [], o339, o340, o341, tu [], x3 [], o344, tu [], o346, o347, o348, tu [], x3 [], o351, tu [], o353, o354, o355, o273, tu [], x3 [], o359, tu [], o361, o362, o363, o159, tu [], x3 [], o367, tu [], o369, o370, o371, tu [], x3 [], o374, tu [], o376, o377, o378, tu [], x3 [], o381, tu [], o383, o384, o385, tu [], x3 [], o388, tu [], o390, o391, o392, tu [], x3 [], o395, tu [], o397, o398, o399, o400, o401 P, o1191, o403, o404, su 401, bs 401, o411, bp, o413 P, ce 488, tu [], o416, o417, o418, o419, o420, o421, x3 [], o423, tu [], o425, o426, o427, tu [], x3 [], o430, o431, o432, tu [], x3 [], o435, tu [], o437, o438, o439, tu [], x3 [], o442, tu [], o444, o445, o446, tu [], x3 [], o449, tu [], o451, o452, o453, tu [], x3 [], o456, tu [], o458, o459, o460, tu [], x3 [], o463, o464, o465, o466, o467, o159, tu [], x3 [], o471, tu [], o473, o474, o475, tu [], x3 [], o478, tu [], o480, o481, o482, o420, o484, x3 [], o486, tu [], o488, o489, o490, o491, o492 P, o542, su 488, bs 488, o499, bp, o501 P, tu [], o503, o504, o505, tu [], x3 [], o508, tu [], o510, o511, o512, tu [], o514 P, o938, su 507, bs 507, o499, bp, o523 P, tu [], o525, o526, o527, tu [], x3 [], o530, tu [], o532, o533, o534, tu [], o536 P, o806, su 526, bs 526, o499, bp, o545 P, tu [], o547, o548, o549, tu [], x3 [], o552, tu [], o554, o555, o556, tu [], o558 P, o674, su 545, bs 545, o565, bp, o567 P, tu [], o569, o570, o571, tu [], x3 [], o574, tu [], o576, o577, o578, tu [], o580 P, o581, su 564, bs 564, o565, bp, o589 P, tu [], o591, o592, o593, tu [], x3 [], o596, tu [], o598, o599, o600, tu [], o602 P, o603, su 583, bs 583, o565, bp, o611 P, tu [], o613, o614, o615, tu [], x3 [], o618, tu [], o620, o621, o622, tu [], o624 P, o625, su 602, bs 602, o565, bp, o633 P, tu [], o635, o636, o637, tu [], x3 [], o640, tu [], o642, o643, o644, tu [], o646 P, o647, su 621, bs 621, o565, bp, o655 P, tu [], o657, o658, o659, tu [], x3 [], o662, tu [], o664, o665, o666, tu [], o668 P, o669, su 640, bs 640, o565, bp, o677 P, tu [], o679, o680, o681, tu [], x3 [], o684, tu [], o686, o687, o688, tu [], o690 P, o691, su 659, bs 659, o697, bp, o699 P, tu [], o701, o702, o703, tu [], x3 [], o706, tu [], o708, o709, o710, tu [], o712 P, o713, su 678, bs 678, o697, bp, o721 P, tu [], o723, o724, o725, tu [], x3 [], o728, tu [], o730, o731, o732, tu [], o734 P, o735, su 697, bs 697, o697, bp, o743 P, tu [], o745, o746, o747, tu [], x3 [], o750, tu [], o752, o753, o754, tu [], o756 P, o757, su 716, bs 716, o697, bp, o765 P, tu [], o767, o768, o769, tu [], x3 [], o772, tu [], o774, o775, o776, tu [], o778 P, o779, su 735, bs 735, o697, bp, o787 P, tu [], o789, o790, o791, tu [], x3 [], o794, tu [], o796, o797, o798, tu [], o800 P, o801, su 754, bs 754, o697, bp, o809 P, tu [], o811, o812, o813, tu [], x3 [], o816, tu [], o818, o819, o820, tu [], o822 P, o823, su 773, bs 773, o829, bp, o831 P, tu [], o833, o834, o835, tu [], x3 [], o838, tu [], o840, o841, o842, tu [], o844 P, o845, su 792, bs 792, o829, bp, o853 P, tu [], o855, o856, o857, tu [], x3 [], o860, tu [], o862, o863, o864, tu [], o866 P, o867, su 811, bs 811, o829, bp, o875 P, tu [], o877, o878, o879, tu [], x3 [], o882, tu [], o884, o885, o886, tu [], o888 P, o889, su 830, bs 830, o829, bp, o897 P, tu [], o899, o900, o901, tu [], x3 [], o904, tu [], o906, o907, o908, tu [], o910 P, o911, su 849, bs 849, o829, bp, o919 P, tu [], o921, o922, o923, tu [], x3 [], o926, tu [], o928, o929, o930, tu [], o932 P, o933, su 868, bs 868, o829, bp, o941 P, tu [], o943, o944, o945, tu [], x3 [], o948, tu [], o950, o951, o952, tu [], o954 P, o1136, su 887, bs 887, tu [], x3 [], o960, tu [], o962, o963, o964, o411, bp, o970 P, ce 972, tu [], o973, o974, o975, o976, o977, o978, x3 [], o980, tu [], o982, o983, o984, tu [], x3 [], o987, tu [], o989, o990, o991, tu [], x3 [], o994, o995, o996, o997, o998, tu [], x3 [], o1001, tu [], o1003, o1004, o1005, tu [], x3 [], o1008, tu [], o1010, o1011, o1012, tu [], x3 [], o1015, o1016, o1017, tu [], x3 [], o1020, tu [], o1022, o1023, o1024, o159, tu [], x3 [], o1028, tu [], o1030, o1031, o1032, o977, o1034, x3 [], o1036, tu [], o1038, o1039, o1040, o1041, o1042 P, o1114, su 972, bs 972, o1049, bp, o1051 P, tu [], o1053, o1054, o1055, tu [], x3 [], o1058, o1059, o1060, o1061, o1062, tu [], o1064 P, o1065, su 991, bs 991, o1049, bp, o1073 P, tu [], o1075, o1076, o1077, tu [], x3 [], o1080, tu [], o1082, o1083, o1084, tu [], o1086 P, o1087, su 1010, bs 1010, o1049, bp, o1095 P, tu [], o1097, o1098, o1099, tu [], x3 [], o1102, tu [], o1104, o1105, o1106, tu [], o1108 P, o1109, su 1029, bs 1029, o1049, bp, o1117 P, tu [], o1119, o1120, o1121, tu [], x3 [], o1124, tu [], o1126, o1127, o1128, tu [], o1130 P, o1131, su 1048, bs 1048, o1137, bp, o1139 P, ce 1099, tu [], o1142, o1143, o1144, o419, o1146, o1147, x3 [], o1149, tu [], o1151, o1152, o1153, tu [], x3 [], o1156, tu [], o1158, o1159, o1160, tu [], x3 [], o1163, tu [], o1165, o1166, o1167, tu [], x3 [], o1170, tu [], o1172, o1173, o1174, o1146, o1176, x3 [], o1178, tu [], o1180, o1181, o1182, o1183, o1184 P, o1185, su 1099, bs 1099, o411, bp, o1194 P, ce 1186, tu [], o1197, o1198, o1199, o976, o1201, o1202, x3 [], o1204, tu [], o1206, o1207, o1208, tu [], x3 [], o1211, o1212, o1213, o1214, o1215, tu [], x3 [], o1218, tu [], o1220, o1221, o1222, tu [], x3 [], o1225, tu [], o1227, o1228, o1229, tu [], x3 [], o1232, tu [], o1234, o1235, o1236, tu [], x3 [], o1239, tu [], o1241, o1242, o1243, tu [], x3 [], o1246, o1247, o1248, o1249, o1250, tu [], x3 [], o1253, tu [], o1255, o1256, o1257, o159, tu [], x3 [], o1261, tu [], o1263, o1264, o1265, o1201, o1267, x3 [], o1269, tu [], o1271, o1272, o1273, o1274, o1275 P, o1332, su 1186, bs 1186, o1282, bp, o1284 P, tu [], o1286, o1287, o1288, tu [], x3 [], o1291, tu [], o1293, o1294, o1295, tu [], x3 [], o1298, tu [], o1300, o1301, o1302, tu [], o1304 P, o1378, su 1212, bs 1212, o1282, bp, o1313 P, tu [], o1315, o1316, o1317, tu [], x3 [], o1320, tu [], o1322, o1323, o1324, tu [], o1326 P, o1402, su 1231, bs 1231, o1282, bp, o1335 P, tu [], o1337, o1338, o1339, tu [], x3 [], o1342, tu [], o1344, o1345, o1346, tu [], o1348 P, o1354, su 1250, bs 1250, o1355, bp, o1357 P, ce 1271, tu [], o1360, o1361, o1362, o1363, o1364, x3 [], o1366, tu [], o1368, o1369, o1370, o1371, o1372 P, o1373, su 1271, bs 1271, o1379, bp, o1381 P, ce 1292, tu [], o1384, o1385, o1386, o1387, o1388, x3 [], o1390, tu [], o1392, o1393, o1394, o1395, o1396 P, o1397, su 1292, bs 1292, o1403, bp, o1405 P, ce 1313, tu [], o1408, o1409, o1410, o1411, o1412, x3 [], o1414, tu [], o1416, o1417, o1418, o1419, o1420 P, o1421, su 1313, bs 1313, tu [], x3 [], o1426, tu [], o1428, o1429, o1430, o13, bp, o1435 P, tu [], o1437, o1438, o1439, tu [], x3 [], o1442, tu [], o1444, o1445, o1446, tu [], x3 [], o1449, tu [], o1451, o1452, o1453, tu [], x3 [], o1456, tu [], o1458, o1459, o1460, tu [], x3 [], o1463, tu [], o1465, o1466, o1467, tu [], x3 [], o1470, tu [], o1472, o1473, o1474, tu [], x3 [], o1477, tu [], o1479, o1480, o1481, tu [], x3 [], o1484, tu [], o1486, o1487, o1488, tu [], x3 [], o1491, tu [], o1493, o1494, o1495, o1496, o1497 P, o1498, o1499, o1500, su 1388, bs 1388, tu [], x3 [], tu [], tu [], o1509, o1510, o1511, tu [], x3 [], o1514, tu [], o1516, o1517, o1518, tu [], x3 [], o1521, tu [], o1523, o1524, o1525, tu [], x3 [], o1528, o1529, o1530, tu [], x3 [], o1533, tu [], o1535, o1536, o1537, tu [], x3 [], o1540, o1541, o1542, tu [], x3 [], o1545, o1546, o1547]⟩, {}⟩
theorem g0 : PcT 0 3 337 t0 15 187 ⟨0, 0, 0, 0⟩ t1 57 244 ⟨5, 0, 15, 16⟩ := fun w => kern fun ψ => by k_slotset
theorem g1 : PcT 3 1 712 t1 57 244 ⟨5, 0, 15, 16⟩ t2 125 324 ⟨16, 0, 46, 44⟩ := fun w => kern fun ψ => by k_slotset
theorem g2 : PcT 4 1 351 t2 125 324 ⟨16, 0, 46, 44⟩ t3 154 359 ⟨47, 0, 55, 40⟩ := fun w => kern fun ψ => by k_slotset
theorem g3 : PcT 5 1 1249 t3 154 359 ⟨47, 0, 55, 40⟩ t4 305 538 ⟨56, 0, 155, 20⟩ := fun w => kern fun ψ => by k_slotset
theorem g4 : PcT 6 1 10 t4 305 538 ⟨56, 0, 155, 20⟩ t5 305 540 ⟨156, 0, 156, 8⟩ := fun w => kern fun ψ => by k_slotset
theorem g5 : PcT 7 1 593 t5 305 540 ⟨156, 0, 156, 8⟩ t6 406 668 ⟨157, 0, 203, 28⟩ := fun w => kern fun ψ => by k_slotset
theorem g6 : PcT 8 1 10 t6 406 668 ⟨157, 0, 203, 28⟩ t7 406 670 ⟨204, 0, 204, 8⟩ := fun w => kern fun ψ => by k_slotset
theorem g7 : PcT 9 1 581 t7 406 670 ⟨204, 0, 204, 8⟩ t8 491 799 ⟨205, 0, 275, 67⟩ := fun w => kern fun ψ => by k_slotset
theorem g8 : PcT 10 1 261 t8 491 799 ⟨205, 0, 275, 67⟩ t9 510 825 ⟨276, 0, 281, 46⟩ := fun w => kern fun ψ => by k_slotset
theorem g9 : PcT 11 1 261 t9 510 825 ⟨276, 0, 281, 46⟩ t10 529 851 ⟨282, 0, 287, 66⟩ := fun w => kern fun ψ => by k_slotset
theorem g10 : PcT 12 1 261 t10 529 851 ⟨282, 0, 287, 66⟩ t11 548 877 ⟨288, 0, 293, 66⟩ := fun w => kern fun ψ => by k_slotset
theorem g11 : PcT 13 1 275 t11 548 877 ⟨288, 0, 293, 66⟩ t12 567 903 ⟨294, 0, 300, 63⟩ := fun w => kern fun ψ => by k_slotset
theorem g12 : PcT 14 1 275 t12 567 903 ⟨294, 0, 300, 63⟩ t13 586 929 ⟨301, 0, 307, 63⟩ := fun w => kern fun ψ => by k_slotset
theorem g13 : PcT 15 1 275 t13 586 929 ⟨301, 0, 307, 63⟩ t14 605 955 ⟨308, 0, 314, 63⟩ := fun w => kern fun ψ => by k_slotset
theorem g14 : PcT 16 1 275 t14 605 955 ⟨308, 0, 314, 63⟩ t15 624 981 ⟨315, 0, 321, 63⟩ := fun w => kern fun ψ => by k_slotset
theorem g15 : PcT 17 1 275 t15 624 981 ⟨315, 0, 321, 63⟩ t16 643 1007 ⟨322, 0, 328, 63⟩ := fun w => kern fun ψ => by k_slotset
theorem g16 : PcT 18 1 275 t16 643 1007 ⟨322, 0, 328, 63⟩ t17 662 1033 ⟨329, 0, 335, 63⟩ := fun w => kern fun ψ => by k_slotset
theorem g17 : PcT 19 1 275 t17 662 1033 ⟨329, 0, 335, 63⟩ t18 681 1059 ⟨336, 0, 342, 63⟩ := fun w => kern fun ψ => by k_slotset
theorem g18 : PcT 20 1 275 t18 681 1059 ⟨336, 0, 342, 63⟩ t19 700 1085 ⟨343, 0, 349, 63⟩ := fun w => kern fun ψ => by k_slotset
theorem g19 : PcT 21 1 275 t19 700 1085 ⟨343, 0, 349, 63⟩ t20 719 1111 ⟨350, 0, 356, 63⟩ := fun w => kern fun ψ => by k_slotset
theorem g20 : PcT 22 1 275 t20 719 1111 ⟨350, 0, 356, 63⟩ t21 738 1137 ⟨357, 0, 363, 63⟩ := fun w => kern fun ψ => by k_slotset
theorem g21 : PcT 23 1 275 t21 738 1137 ⟨357, 0, 363, 63⟩ t22 757 1163 ⟨364, 0, 370, 63⟩ := fun w => kern fun ψ => by k_slotset
theorem g22 : PcT 24 1 275 t22 757 1163 ⟨364, 0, 370, 63⟩ t23 776 1189 ⟨371, 0, 377, 63⟩ := fun w => kern fun ψ => by k_slotset
theorem g23 : PcT 25 1 275 t23 776 1189 ⟨371, 0, 377, 63⟩ t24 795 1215 ⟨378, 0, 384, 63⟩ := fun w => kern fun ψ => by k_slotset
theorem g24 : PcT 26 1 275 t24 795 1215 ⟨378, 0, 384, 63⟩ t25 814 1241 ⟨385, 0, 391, 63⟩ := fun w => kern fun ψ => by k_slotset
theorem g25 : PcT 27 1 275 t25 814 1241 ⟨385, 0, 391, 63⟩ t26 833 1267 ⟨392, 0, 398, 63⟩ := fun w => kern fun ψ => by k_slotset
theorem g26 : PcT 28 1 275 t26 833 1267 ⟨392, 0, 398, 63⟩ t27 852 1293 ⟨399, 0, 405, 63⟩ := fun w => kern fun ψ => by k_slotset
theorem g27 : PcT 29 1 275 t27 852 1293 ⟨399, 0, 405, 63⟩ t28 871 1319 ⟨406, 0, 412, 63⟩ := fun w => kern fun ψ => by k_slotset
theorem g28 : PcT 30 3 313 t28 871 1319 ⟨406, 0, 412, 63⟩ t29 897 1354 ⟨421, 0, 422, 17⟩ := fun w => kern fun ψ => by k_slotset
theorem g29 : PcT 33 1 543 t29 897 1354 ⟨421, 0, 422, 17⟩ t30 975 1469 ⟨423, 0, 498, 68⟩ := fun w => kern fun ψ => by k_slotset
theorem g30 : PcT 34 1 268 t30 975 1469 ⟨423, 0, 498, 68⟩ t31 994 1502 ⟨499, 0, 511, 45⟩ := fun w => kern fun ψ => by k_slotset
theorem g31 : PcT 35 1 261 t31 994 1502 ⟨499, 0, 511, 45⟩ t32 1013 1528 ⟨512, 0, 517, 68⟩ := fun w => kern fun ψ => by k_slotset
theorem g32 : PcT 36 1 261 t32 1013 1528 ⟨512, 0, 517, 68⟩ t33 1032 1554 ⟨518, 0, 523, 64⟩ := fun w => kern fun ψ => by k_slotset
theorem g33 : PcT 37 2 270 t33 1032 1554 ⟨518, 0, 523, 64⟩ t34 1051 1582 ⟨530, 0, 530, 8⟩ := fun w => kern fun ψ => by k_slotset
theorem g34 : PcT 39 1 440 t34 1051 1582 ⟨530, 0, 530, 8⟩ t35 1102 1647 ⟨531, 0, 547, 27⟩ := fun w => kern fun ψ => by k_slotset
theorem g35 : PcT 40 1 10 t35 1102 1647 ⟨531, 0, 547, 27⟩ t36 1102 1649 ⟨548, 0, 548, 8⟩ := fun w => kern fun ψ => by k_slotset
theorem g36 : PcT 41 1 591 t36 1102 1649 ⟨548, 0, 548, 8⟩ t37 1189 1786 ⟨549, 0, 664, 27⟩ := fun w => kern fun ψ => by k_slotset
theorem g37 : PcT 42 1 297 t37 1189 1786 ⟨549, 0, 664, 27⟩ t38 1215 1824 ⟨665, 0, 674, 16⟩ := fun w => kern fun ψ => by k_slotset
theorem g38 : PcT 43 1 263 t38 1215 1824 ⟨665, 0, 674, 16⟩ t39 1234 1852 ⟨675, 0, 681, 58⟩ := fun w => kern fun ψ => by k_slotset
theorem g39 : PcT 44 1 261 t39 1234 1852 ⟨675, 0, 681, 58⟩ t40 1253 1878 ⟨682, 0, 685, 23⟩ := fun w => kern fun ψ => by k_slotset
theorem g40 : PcT 45 1 293 t40 1253 1878 ⟨682, 0, 685, 23⟩ t41 1274 1908 ⟨686, 0, 690, 37⟩ := fun w => kern fun ψ => by k_slotset
theorem g41 : PcT 46 1 293 t41 1274 1908 ⟨686, 0, 690, 37⟩ t42 1295 1938 ⟨691, 0, 695, 37⟩ := fun w => kern fun ψ => by k_slotset
theorem g42 : PcT 47 3 335 t42 1295 1938 ⟨691, 0, 695, 37⟩ t43 1323 1981 ⟨702, 0, 759, 57⟩ := fun w => kern fun ψ => by k_slotset
theorem g43 : PcT 50 1 468 t43 1323 1981 ⟨702, 0, 759, 57⟩ t44 1393 2078 ⟨760, 0, 797, 72⟩ := fun w => kern fun ψ => by k_slotset
theorem g44 : PcT 51 8 208 t44 1393 2078 ⟨760, 0, 797, 72⟩ t45 1436 2130 ⟨832, 0, 866, 73⟩ := fun w => kern fun ψ => by k_slotset
end Rh
namespace Rh
open PySem PySem.W PySem.Calls PyProof.Rows
noncomputable def q : Program := view p [58]
noncomputable def loose : List Str := p.boundNames.filter fun n => n != ("law" : Str)
abbrev an : Option Value := some (.ref 6)
noncomputable abbrev F0 : List Frame := [topFrame z0]
theorem PcT.go {a m k : Nat} {t : Params → BT} {n tk : Nat} {q : Pos} {t' : Params → BT} {n' tk' : Nat} {q' : Pos} (h : PcT a m k t n tk q t' n' tk' q') {w : World} {os : OsState} {N : Nat} {r : Shared}
    (kk : topRun treeTable p w 11 an N (S (t' w.params) n' tk' os).abs (restOf (B.drop (a + m)) env cE q' F0) = some r) : topRun treeTable p w 11 an (k + N) (S (t w.params) n tk os).abs (restOf (B.drop a) env cE q F0) = some r := by
  have h1 := congrFun (h w) os
  rw [← PySem.W.Fast.te10110043849684766642, ← PySem.W.Fast.te14364793385576792824] at h1
  have h2 := piece_app (rest := (B.drop a).drop m) (segRun_of h1) (N := N) (r := r) (by rw [List.drop_drop]; exact kk)
  rw [List.take_append_drop] at h2
  exact h2
theorem pre (w : World) : (fun os => topGo treeTable p w 11 an 12 ⟨boot_heap w.params, Array.mk [], boot_drawn, boot_toks, os⟩ (topStub p)) = fun os => some (⟨hA w.params, ⟨[]⟩, {}, 187, os⟩, ⟨denote treeTable cE, cE, z0, F0⟩) := kern fun ψ => by k_slotset
theorem block (w : World) : (fun os => segRun treeTable p w 11 an 1 1 ⟨hA w.params, ⟨[]⟩, {}, 187, os⟩ (blockOf B env cE z0 F0)) = fun os => some (Flow.next, (S (t0 w.params) 15 187 os).abs, cE, z0) := kern fun ψ => by k_slotset
theorem fin (w : World) : (fun os => topRun treeTable p w 11 an 2 (S (t45 w.params) 1436 2130 os).abs ⟨doneF .next, cE, ⟨832, 0, 866, 73⟩, F0⟩) = fun os => some ⟨hF w.params, ⟨[]⟩, {}, 2130, os⟩ := kern fun ψ => by k_slotset
theorem size (w : World) : ((boot_heap w.params).isNs mainGlobals && (Array.mk [] : Array GenState).size == 0, (boot_heap w.params).objs.size, (boot_heap w.params).nsMap mainGlobals "__annotations__") = (true, 11, an) := kern fun ψ => by k_slotset
end Rh
namespace Rh
open PySem PySem.W PySem.Calls PyProof.Rows
abbrev im : List Str := importedModules p.main.body
noncomputable abbrev sF (w : World) (os : OsState) : Shared := ⟨hF w.params, ⟨[]⟩, {}, 2130, os⟩
noncomputable abbrev Hk : Hook := Rw.hk02
theorem k1 (w : World) : (fun os => staticsOk im (boot_heap w.params) (hF w.params) && namesBound p (hF w.params) && gensDone (sF w os) && laidKept (boot_heap w.params) (hF w.params)) = fun _ => true := kern fun ψ => by k_slotset
theorem k2 (w : World) : (fun os => seen ((recsOf q).map (·.name)) (ownsOf q) [] { sF w os with gens := #[] }) = fun _ => expectedOf q := kern fun ψ => by k_slotset
theorem k3 (w : World) : (fun os => (sF w os).heap.bltView) = fun _ => bltViewBooted := kern fun ψ => by k_slotset
theorem k4 (w : World) : (fun os => (sF w os).heap.keysOk (looseW q loose) ((recsOf q).map (·.name)) ((litsOf q).map (·.1)) ((clssOf q (looseW q loose)).map (·.name)) && (sF w os).heap.accountedOkI im && (sF w os).heap.isNs mainGlobals && (sF w os).heap.isNs builtinsNs && tablesOk q (sF w os).heap && true && (if true then (sF w os).gens.size == 0 else !leftWithCleanup (sF w os).gens)) = fun _ => true := kern fun ψ => by k_slotset
theorem k5 (w : World) : (fun os => tabsOk q (sF w os)) = fun _ => true := kern fun ψ => by k_slotset
theorem k6 (w : World) : (fun os => pinSeenD q (drecsOf q) (sF w os)) = fun _ => pinGoodD (drecsOf q) := kern fun ψ => by k_slotset
theorem k7 (w : World) : (fun os => plainSeenE q (looseW q loose) (sF w os)) = fun _ => plainGoodE q (looseW q loose) := kern fun ψ => by k_slotset
theorem k8 (w : World) : (fun os => plainSeenD q loose (sF w os)) = fun _ => plainGoodD q loose := kern fun ψ => by k_slotset
theorem k9 (w : World) : (fun os => wideSeen q (sF w os)) = fun _ => wideGood q := kern fun ψ => by k_slotset
theorem k10 (w : World) : (fun os => clsSeenW q loose (sF w os)) = fun _ => clsGoodW q loose := kern fun ψ => by k_slotset
theorem k11 (w : World) : (fun os => Hk.obs (sF w os)) = fun _ => Hk.val w := kern fun ψ => by k_slotset
end Rh
namespace Rh
open PySem PySem.W PySem.Calls PyProof.Rows
theorem endB : B.drop (51 + 8) = [] := kern fun ψ => by k_slotset
theorem chain (w : World) (os : OsState) : topRun treeTable p w 11 an (12 + (1 + (337 + (712 + (351 + (1249 + (10 + (593 + (10 + (581 + (261 + (261 + (261 + (275 + (275 + (275 + (275 + (275 + (275 + (275 + (275 + (275 + (275 + (275 + (275 + (275 + (275 + (275 + (275 + (275 + (313 + (543 + (268 + (261 + (261 + (270 + (440 + (10 + (591 + (297 + (263 + (261 + (293 + (293 + (335 + (468 + (208 + 2))))))))))))))))))))))))))))))))))))))))))))))) ⟨boot_heap w.params, Array.mk [], boot_drawn, boot_toks, os⟩ (topStub p) = some (sF w os) :=
  go_top (congrFun (pre w) os) (piece_block (congrFun (block w) os) (PcT.go g0 (PcT.go g1 (PcT.go g2 (PcT.go g3 (PcT.go g4 (PcT.go g5 (PcT.go g6 (PcT.go g7 (PcT.go g8 (PcT.go g9 (PcT.go g10 (PcT.go g11 (PcT.go g12 (PcT.go g13 (PcT.go g14 (PcT.go g15 (PcT.go g16 (PcT.go g17 (PcT.go g18 (PcT.go g19 (PcT.go g20 (PcT.go g21 (PcT.go g22 (PcT.go g23 (PcT.go g24 (PcT.go g25 (PcT.go g26 (PcT.go g27 (PcT.go g28 (PcT.go g29 (PcT.go g30 (PcT.go g31 (PcT.go g32 (PcT.go g33 (PcT.go g34 (PcT.go g35 (PcT.go g36 (PcT.go g37 (PcT.go g38 (PcT.go g39 (PcT.go g40 (PcT.go g41 (PcT.go g42 (PcT.go g43 (PcT.go g44 (by rw [endB]; exact piece_nil (congrFun (fin w) os))))))))))))))))))))))))))))))))))))))))))))))))
theorem op1 : opening p = plainProg p.main.scope.names := kern fun ψ => by k_slotset
theorem op2 (s : Shared) : fenceModules? p s = some s := kern fun ψ => by k_slotset
theorem left : LeftO p q loose (fun _ => true) Hk.obs Hk.val 30000 :=
  LeftO.of_pieces (m₀ := 11) (ann := an) (boot_open op1 (by decide +kernel) op2) size chain (by decide +kernel) fun w => by
    funext os
    have h1 := congrFun (k1 w) os
    have h2 := congrFun (k2 w) os
    have h3 := congrFun (k3 w) os
    have h4 := congrFun (k4 w) os
    have h5 := congrFun (k5 w) os
    have h6 := congrFun (k6 w) os
    have h7 := congrFun (k7 w) os
    have h8 := congrFun (k8 w) os
    have h9 := congrFun (k9 w) os
    have h10 := congrFun (k10 w) os
    have h11 := congrFun (k11 w) os
    exact looks_pair h1 (looks_pair (looks_pair h2 (looks_pair h3 (looks_pair h4 (looks_pair h5 (looks_pair h6 (looks_pair h7 (looks_pair h8 (looks_pair h9 h10)))))))) h11)
theorem df0 : (defOf q L.row.name).isSome = true := by decide +kernel
noncomputable def dr := (defOf q L.row.name).get df0
theorem df : defOf q L.row.name = some (dr.1, dr.2) := (Option.some_get df0).symm
theorem df1 : p.theDef L.row.name = some (dr.1.params, dr.1.body, dr.1.scope) := kern fun ψ => by k_slotset
theorem df2 : kwWritten? dr.1.params.kwonlyargs dr.1.params.kw_defaults = some dr.2 := kern fun ψ => by k_slotset
theorem df3 : dr.1.name = ("law" : Str) := kern fun ψ => by k_slotset
theorem ok1 : (chainsOk q && opensWell L.row.prog && (frees L.row.toRowW && L.row.within.isEmpty)) = true := by decide +kernel
theorem wit : L.row.toRowW.promised := by w_witness2
theorem said : L.wellSaid = true := by
  unfold OpenLaw.wellSaid OpenRow.wellSaid OpenRow.partSaid looksOpen
  repeat' (with_reducible apply look_both)
  all_goals decide +kernel
theorem top (call : WalkO q loose (fun _ _ => True) Hk.says L.row.toRowW dr.1 dr.2 fun f vs => PySem.call f vs) : L.Holds :=
  holds_law said fun sd => holds_open (q := q) (loose := loose) (Xt := fun _ => true) (XP := fun _ _ => True) (Yf := Hk.obs) (Ya := Hk.val) (YP := Hk.says) (N := 30000) left Hk.of Hk.keeps (fun _ _ => trivial) (fun _ _ _ _ _ => trivial) df df1 df2
    (fun s _ => recFacts_of (R := []) rfl) rfl sd ok1 ⟨rfl, rfl, rfl, rfl, rfl, by decide +kernel⟩ wit call
end Rh
theorem PySem.Challenge.cw_ay0036_05_holds : PySem.Challenge.rw_ay0036_05.Holds :=
  Rh.top (Rw.walk _ _ _ _ _ Rh.df3)
