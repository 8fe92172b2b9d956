import PyProof.Rows.All
import Wide.All
import Open.Line
import OpenK.AllK
import Wide.FinOn
import Lean
import PySem.Challenge.RW_qv0004_08
set_option Elab.async false
set_option tactic.hygienic false
set_option linter.all false
set_option bootstrap.genMatcherCode false
section
set_option tactic.hygienic false
set_option backward.match.sparseCases false
set_option genInjectivity false
set_option genSizeOf false
namespace Mine
open PySem PySem.W PySem.Calls PyProof.Rows

abbrev PH := Addr → Option Obj

inductive PV where
  | none
  | bool (b : Bool)
  | int (i : Int)
  | str (s : List Nat)
  | tup (vs : List PV)
  | lst (vs : List PV)
  | node (c : Addr) (fs : List PV)
  | dct (ks : List (List Nat)) (vs : List PV)
  | ref (a : Addr)

abbrev sOf (s : List Nat) : Str := ⟨s.toArray⟩
def sok (s : List Nat) : Prop := (∀ c ∈ s, c < 1114112) ∧ s.length ≤ 16777216

noncomputable def assocL (k : Str) : List (List Nat) → List Value → Option Value
  | [], _ => Option.none
  | a :: ks, vs => vs.casesOn Option.none fun v vs => if sOf a = k then some v else assocL k ks vs

def PMapOf (prog : Program) (w : World) (z : PH) (a : Addr) (f : Str → Option Value) : Prop :=
  ∃ o es ep, z a = some o ∧ o.ExactDict ∧ o.data = .dict es ep ∧ KeysOf (strKind prog w) es ∧ (∀ k, findBy (strKind prog w).is es k = f k) ∧ es.size ≤ 1000

structure Base where
  prog : Program
  w : World
  heap : Heap
  os : OsState
  mg : Str → Option Value
  mb : Str → Option Value
  tabs : List (Addr × Addr × Array Value)

mutual
def Rep (B : Base) (z : PH) : PV → Value → Prop
  | .none, v => v = .none
  | .bool b, v => v = .bool b
  | .int i, v => ∃ t, v = .int i t
  | .str s, v => sok s ∧ ∃ t, v = .str (sOf s) t
  | .tup vs, v => ∃ a n xs, v = .ref a ∧ z a = some { cls := .type "tuple", data := .seq xs n } ∧ RepL B z vs xs.toList ∧ xs.size ≤ sizeLine
  | .lst vs, v => ∃ a n xs, v = .ref a ∧ z a = some { cls := .type "list", data := .seq xs n } ∧ RepL B z vs xs.toList ∧ xs.size ≤ sizeLine
  | .node c fs, v => ∃ a d sl xs, v = .ref a ∧ z a = some ⟨.ref c, some d, .plain, sl⟩ ∧ z d = some emptyDict ∧ sl.toList = xs.map some ∧ RepL B z fs xs
  | .dct ks vs, v => ∃ a xs, v = .ref a ∧ (a == sysModules) = false ∧ ks.length = vs.length ∧ RepL B z vs xs ∧ PMapOf B.prog B.w z a (fun k => assocL k ks xs)
  | .ref a, v => v = .ref a
def RepL (B : Base) (z : PH) : List PV → List Value → Prop
  | [], xs => xs = []
  | p :: ps, xs => ∃ v vs, xs = v :: vs ∧ Rep B z p v ∧ RepL B z ps vs
end

def zle (z z' : PH) : Prop := ∀ a o, z a = some o → z' a = some o
theorem zle.refl (z : PH) : zle z z := fun xx xx h => h
theorem zle.trans {z₁ z₂ z₃ : PH} (a : zle z₁ z₂) (b : zle z₂ z₃) : zle z₁ z₃ := fun x o h => b x o (a x o h)

theorem PMapOf.mono {prog w z z' a f} (h : zle z z') (m : PMapOf prog w z a f) : PMapOf prog w z' a f :=
  by obtain ⟨o, es, ep, h1, h2⟩ := m; exact ⟨o, es, ep, h _ _ h1, h2⟩

mutual
theorem Rep.mono {B : Base} {z z' : PH} (h : zle z z') : ∀ {p : PV} {v : Value}, Rep B z p v → Rep B z' p v
  | .none, _, r => r
  | .bool _, _, r => r
  | .int _, _, r => r
  | .str _, _, r => r
  | .tup _, _, r => by obtain ⟨a, n, xs, h1, h2, h3, h4⟩ := r; exact ⟨a, n, xs, h1, h _ _ h2, RepL.mono h h3, h4⟩
  | .lst _, _, r => by obtain ⟨a, n, xs, h1, h2, h3, h4⟩ := r; exact ⟨a, n, xs, h1, h _ _ h2, RepL.mono h h3, h4⟩
  | .node _ _, _, r => by obtain ⟨a, d, sl, xs, h1, h2, h5, h3, h4⟩ := r; exact ⟨a, d, sl, xs, h1, h _ _ h2, h _ _ h5, h3, RepL.mono h h4⟩
  | .dct _ _, _, r => by obtain ⟨a, xs, h1, h2, h3, h4, h5⟩ := r; exact ⟨a, xs, h1, h2, h3, RepL.mono h h4, h5.mono h⟩
  | .ref _, _, r => r
theorem RepL.mono {B : Base} {z z' : PH} (h : zle z z') : ∀ {ps : List PV} {vs : List Value}, RepL B z ps vs → RepL B z' ps vs
  | [], _, r => r
  | _ :: _, _, r => by obtain ⟨v, vs, h1, h2, h3⟩ := r; exact ⟨v, vs, h1, Rep.mono h h2, RepL.mono h h3⟩
end

theorem RepL.length {B : Base} {z : PH} : ∀ {ps : List PV} {vs : List Value}, RepL B z ps vs → vs.length = ps.length
  | [], _, r => by cases r; rfl
  | _ :: _, _, r => by obtain ⟨v, vs, h1, h2, h3⟩ := r; subst h1; exact congrArg Nat.succ (RepL.length h3)
theorem RepL.get {B : Base} {z : PH} : ∀ {ps : List PV} {vs : List Value}, RepL B z ps vs → ∀ {i : Nat} {p : PV}, ps[i]? = some p → ∃ v, vs[i]? = some v ∧ Rep B z p v
  | [], _, r, i, p, h => nomatch h
  | q :: ps, _, r, i, p, h => by
    obtain ⟨v, vs, h1, h2, h3⟩ := r
    subst h1
    cases i with
    | zero => cases h; exact ⟨v, rfl, h2⟩
    | succ i => exact RepL.get h3 (i := i) h
theorem RepL.append {B : Base} {z : PH} : ∀ {ps qs : List PV} {vs us : List Value}, RepL B z ps vs → RepL B z qs us → RepL B z (ps ++ qs) (vs ++ us)
  | [], _, _, _, r, r' => by cases r; exact r'
  | _ :: _, _, _, _, r, r' => by obtain ⟨v, vs, h1, h2, h3⟩ := r; subst h1; exact ⟨v, _, rfl, h2, RepL.append h3 r'⟩
theorem RepL.single {B : Base} {z : PH} {p : PV} {v : Value} (h : Rep B z p v) : RepL B z [p] [v] := ⟨v, [], rfl, h, rfl⟩
theorem RepL.take {B : Base} {z : PH} : ∀ {ps : List PV} {vs : List Value}, RepL B z ps vs → ∀ n, RepL B z (ps.take n) (vs.take n)
  | [], _, r, n => by cases r; cases n <;> rfl
  | _ :: _, _, r, n => by
    obtain ⟨v, vs, h1, h2, h3⟩ := r
    subst h1
    cases n with
    | zero => rfl
    | succ n => exact ⟨v, _, rfl, h2, RepL.take h3 n⟩
theorem RepL.drop {B : Base} {z : PH} : ∀ {ps : List PV} {vs : List Value}, RepL B z ps vs → ∀ n, RepL B z (ps.drop n) (vs.drop n)
  | [], _, r, n => by cases r; cases n <;> rfl
  | _ :: _, _, r, n => by
    cases n with
    | zero => exact r
    | succ n =>
      obtain ⟨v, vs, h1, h2, h3⟩ := r
      subst h1
      exact RepL.drop h3 n

set_option genCtorIdx false in
inductive AO where
  | list (vs : List PV)
  | dict (ks : List (List Nat)) (vs : List PV)
  | inst (c : Addr) (fs : List (Option PV))
  | tbl (c p : Addr) (ps : Array Value)
abbrev AH := Addr → Option AO
noncomputable def AH.upd (H : AH) (a : Addr) (o : AO) : AH := fun b => if b = a then some o else H b
noncomputable def AH.del (H : AH) (a : Addr) : AH := fun b => if b = a then none else H b

def NoTbl : Option AO → Prop
  | .none => True
  | some x => AO.rec (fun _ => True) (fun _ _ => True) (fun _ _ => True) (fun _ _ _ => False) x
def TabIn (B : Base) (H : AH) : Prop := ∀ t ∈ B.tabs, H t.2.1 = some (.tbl t.1 t.2.1 t.2.2)
theorem TabIn.del {B : Base} {H : AH} {a : Addr} (T : TabIn B H) (h : NoTbl (H a)) : TabIn B (H.del a) := by
  intro t ht
  unfold AH.del
  split
  · rename_i q
    have := T t ht
    rw [q] at this; rw [this] at h; exact h.elim
  · exact T t ht
theorem TabIn.upd {B : Base} {H : AH} {a : Addr} {x : AO} (T : TabIn B H) (h : NoTbl (H a)) : TabIn B (H.upd a x) := by
  intro t ht
  unfold AH.upd
  split
  · rename_i q
    have := T t ht
    rw [q] at this; rw [this] at h; exact h.elim
  · exact T t ht
structure CodeHead (B : Base) (c p : Addr) : Prop where
  ne : c ≠ p
  it : ∃ o vs file tf flags tg inF text tt, B.heap.get? c = some o ∧ o.cls = .type "code" ∧ o.data = .fields vs ∧ vs[11]? = some (.ref p) ∧ vs.getD 11 .none = .ref p ∧ vs.getD 18 .none = .str file tf ∧
    vs.getD 7 .none = .int flags tg ∧ vs.getD 9 .none = .bool inF ∧ vs.getD 10 .none = .int text tt

def RepO (B : Base) (z : PH) : Option PV → Option Value → Prop
  | none, v => v = none
  | some p, v => ∃ x, v = some x ∧ Rep B z p x
def RepOL (B : Base) (z : PH) : List (Option PV) → List (Option Value) → Prop
  | [], xs => xs = []
  | p :: ps, xs => ∃ v vs, xs = v :: vs ∧ RepO B z p v ∧ RepOL B z ps vs

def ORep (B : Base) (z : PH) (o : Obj) : AO → Prop
  | .list vs => ∃ n xs, o = { cls := .type "list", data := .seq xs n } ∧ RepL B z vs xs.toList ∧ xs.size ≤ sizeLine
  | .dict ks vs => ∃ es ep xs, o.ExactDict ∧ o.data = .dict es ep ∧ KeysOf (strKind B.prog B.w) es ∧ ks.length = vs.length ∧ RepL B z vs xs ∧ (∀ k, findBy (strKind B.prog B.w).is es k = assocL k ks xs) ∧ es.size ≤ 1000
  | .inst c fs => ∃ d sl, o = ⟨.ref c, some d, .plain, sl⟩ ∧ z d = some emptyDict ∧ RepOL B z fs sl.toList
  | .tbl c p ps => CodeHead B c p ∧ ∃ more, o = { cls := .none, data := .fields (ps ++ more) } ∧ TriplesOk (ps ++ more).toList

theorem RepO.mono {B : Base} {z z' : PH} (h : zle z z') : ∀ {p v}, RepO B z p v → RepO B z' p v
  | none, _, r => r
  | some _, _, ⟨x, a, b⟩ => ⟨x, a, b.mono h⟩
theorem RepOL.mono {B : Base} {z z' : PH} (h : zle z z') : ∀ {ps vs}, RepOL B z ps vs → RepOL B z' ps vs
  | [], _, r => r
  | _ :: _, _, r => by obtain ⟨v, vs, a, b, c⟩ := r; exact ⟨v, vs, a, b.mono h, RepOL.mono h c⟩
theorem ORep.mono {B : Base} {z z' : PH} (h : zle z z') {o : Obj} : ∀ {x : AO}, ORep B z o x → ORep B z' o x
  | .list _, r => by obtain ⟨n, xs, a, b, c⟩ := r; exact ⟨n, xs, a, b.mono h, c⟩
  | .dict _ _, r => by obtain ⟨es, ep, xs, a, b, c, d, e, f, g⟩ := r; exact ⟨es, ep, xs, a, b, c, d, e.mono h, f, g⟩
  | .inst _ _, r => by obtain ⟨d, sl, a, e, b⟩ := r; exact ⟨d, sl, a, h _ _ e, RepOL.mono h b⟩
  | .tbl _ _ _, r => r

structure StC (B : Base) (z P : PH) (H : AH) (s : Shared) : Prop where
  base : ∀ a o, B.heap.get? a = some o → z a = some o
  zin : ∀ a o, z a = some o → s.heap.get? a = some o
  pin : ∀ a o, P a = some o → s.heap.get? a = some o ∧ z a = none ∧ H a = none
  hin : ∀ a x, H a = some x → z a = none ∧ ∃ o, s.heap.get? a = some o ∧ ORep B z o x
  os : s.os = B.os
  gens : AllBare s.gens
  tk : 0 < s.toks ∧ TabIn B H

def LocRep (B : Base) (z : PH) (vars : List Str) (ρ : List (Option PV)) (m : Str → Option Value) : Prop :=
  ∀ (i : Nat) (x : Str) (p : PV), vars[i]? = some x → ρ[i]? = some (some p) → ∃ v, m x = some v ∧ Rep B z p v

structure St (B : Base) (z P : PH) (vars : List Str) (L : Addr) (ρ : List (Option PV)) (H : AH) (s : Shared) : Prop where
  c : StC B z P H s
  lz : z L = none
  lp : P L = none
  lh : H L = none
  loc : ∃ m, s.heap.Ns L m ∧ LocRep B z vars ρ m

theorem LocRep.mono {B : Base} {z z' : PH} (h : zle z z') {vars ρ m} (l : LocRep B z vars ρ m) : LocRep B z' vars ρ m :=
  fun i x p a b => by obtain ⟨v, c, d⟩ := l i x p a b; exact ⟨v, c, d.mono h⟩

section
variable {B : Base} {z P : PH} {vars : List Str} {L : Addr} {ρ : List (Option PV)} {H : AH} {s s' : Shared}

theorem StC.ofHeap (S : StC B z P H s) (h : s'.heap = s.heap) (ho : s'.os = s.os) (hg : AllBare s'.gens) (ht : s.toks ≤ s'.toks) : StC B z P H s' :=
  ⟨S.base, fun a o e => by rw [h]; exact S.zin a o e, fun a o e => by rw [h]; exact S.pin a o e, fun a x e => by rw [h]; exact S.hin a x e, ho.trans S.os, hg, ⟨Nat.lt_of_lt_of_le S.tk.1 ht, S.tk.2⟩⟩
theorem St.ofHeap (S : St B z P vars L ρ H s) (h : s'.heap = s.heap) (ho : s'.os = s.os) (hg : AllBare s'.gens) (ht : s.toks ≤ s'.toks) : St B z P vars L ρ H s' :=
  ⟨S.c.ofHeap h ho hg ht, S.lz, S.lp, S.lh, by rw [h]; exact S.loc⟩
theorem StC.toks (S : StC B z P H s) {t : Nat} (ht : s.toks ≤ t) : StC B z P H { s with toks := t } := S.ofHeap rfl rfl S.gens ht
theorem St.toks (S : St B z P vars L ρ H s) {t : Nat} (ht : s.toks ≤ t) : St B z P vars L ρ H { s with toks := t } := S.ofHeap rfl rfl S.c.gens ht

theorem StC.zlt (S : StC B z P H s) {a o} (h : z a = some o) : a < s.heap.objs.size := Heap.lt_size (S.zin a o h)
theorem StC.zfresh (S : StC B z P H s) : z s.heap.objs.size = none := by
  cases h : z s.heap.objs.size with
  | none => rfl
  | some o => exact absurd (S.zlt h) (Nat.lt_irrefl _)
theorem StC.pfresh (S : StC B z P H s) : P s.heap.objs.size = none := by
  cases h : P s.heap.objs.size with
  | none => rfl
  | some o => exact absurd (Heap.lt_size (S.pin _ o h).1) (Nat.lt_irrefl _)
theorem StC.hfresh (S : StC B z P H s) : H s.heap.objs.size = none := by
  cases h : H s.heap.objs.size with
  | none => rfl
  | some o => obtain ⟨_, o, h, _⟩ := S.hin _ _ h; exact absurd (Heap.lt_size h) (Nat.lt_irrefl _)
theorem St.llt (S : St B z P vars L ρ H s) : L < s.heap.objs.size := by obtain ⟨_, n, _⟩ := S.loc; exact n.lt

theorem StC.keeps (S : StC B z P H s) {h' : Heap} {t : Nat} (ht : s.toks ≤ t) (k : ∀ b o, s.heap.get? b = some o → h'.get? b = some o) : StC B z P H { s with heap := h', toks := t } :=
  ⟨S.base, fun a o e => k _ _ (S.zin a o e), fun a o e => ⟨k _ _ (S.pin a o e).1, (S.pin a o e).2⟩, fun a x e => by obtain ⟨a1, o, a2, a3⟩ := S.hin a x e; exact ⟨a1, o, k _ _ a2, a3⟩, S.os, S.gens, ⟨Nat.lt_of_lt_of_le S.tk.1 ht, S.tk.2⟩⟩
theorem St.keeps (S : St B z P vars L ρ H s) {h' : Heap} {t : Nat} (ht : s.toks ≤ t) (k : ∀ b o, s.heap.get? b = some o → h'.get? b = some o) : St B z P vars L ρ H { s with heap := h', toks := t } :=
  ⟨S.c.keeps ht k, S.lz, S.lp, S.lh, by obtain ⟨m, a, b⟩ := S.loc; exact ⟨m, a.keeps k, b⟩⟩

noncomputable def zadd (z : PH) (a : Addr) (o : Obj) : PH := fun b => if b = a then some o else z b
theorem zadd_le {z : PH} {a : Addr} {o : Obj} (h : z a = none) : zle z (zadd z a o) := fun b o' e => by
  unfold zadd; split
  · rename_i q; subst q; rw [h] at e; cases e
  · exact e
theorem zadd_self (z : PH) (a : Addr) (o : Obj) : zadd z a o a = some o := by simp [zadd]

theorem StC.freeze (S : StC B z P H s) {a : Addr} {o : Obj} (ho : s.heap.get? a = some o) (hz : z a = none) (hp : P a = none) (hh : H a = none) : StC B (zadd z a o) P H s := by
  have le := zadd_le (o := o) hz
  refine ⟨fun b x e => le _ _ (S.base b x e), fun b x e => ?_, fun b x e => ?_, fun b x e => ?_, S.os, S.gens, S.tk⟩
  · unfold zadd at e; split at e
    · rename_i q; subst q; cases e; exact ho
    · exact S.zin _ _ e
  · obtain ⟨a1, a2, a3⟩ := S.pin b x e
    refine ⟨a1, ?_, a3⟩
    unfold zadd; split
    · rename_i q; subst q; rw [hp] at e; cases e
    · exact a2
  · obtain ⟨a1, o', a2, a3⟩ := S.hin b x e
    refine ⟨?_, o', a2, a3.mono le⟩
    unfold zadd; split
    · rename_i q; subst q; rw [hh] at e; cases e
    · exact a1
theorem St.freeze (S : St B z P vars L ρ H s) {a : Addr} {o : Obj} (ho : s.heap.get? a = some o) (hz : z a = none) (hp : P a = none) (hh : H a = none) (hl : a ≠ L) : St B (zadd z a o) P vars L ρ H s :=
  ⟨S.c.freeze ho hz hp hh, by unfold zadd; rw [if_neg (Ne.symm hl)]; exact S.lz, S.lp, S.lh, by obtain ⟨m, a, b⟩ := S.loc; exact ⟨m, a, b.mono (zadd_le hz)⟩⟩

theorem StC.drop (S : StC B z P H s) (a : Addr) (hn : NoTbl (H a)) : StC B z P (H.del a) s :=
  ⟨S.base, S.zin, fun b o e => by obtain ⟨a1, a2, a3⟩ := S.pin b o e; exact ⟨a1, a2, by unfold AH.del; split; rfl; exact a3⟩,
   fun b x e => by unfold AH.del at e; split at e; cases e; exact S.hin b x e, S.os, S.gens, S.tk.1, S.tk.2.del hn⟩
theorem St.drop (S : St B z P vars L ρ H s) (a : Addr) (hn : NoTbl (H a)) : St B z P vars L ρ (H.del a) s :=
  ⟨S.c.drop a hn, S.lz, S.lp, by unfold AH.del; split; rfl; exact S.lh, S.loc⟩

theorem St.pushFrozen (S : St B z P vars L ρ H s) {o : Obj} (hf : o.isFreed = false) : St B (zadd z s.heap.objs.size o) P vars L ρ H { s with heap := s.heap.push o } :=
  (S.keeps (Nat.le_refl s.toks) fun xx xx e => Heap.get?_push_of_some o e).freeze (Heap.get?_push_size _ hf) S.c.zfresh S.c.pfresh S.c.hfresh (Nat.ne_of_gt S.llt)
theorem StC.pushFrozen (S : StC B z P H s) {o : Obj} (hf : o.isFreed = false) : StC B (zadd z s.heap.objs.size o) P H { s with heap := s.heap.push o } :=
  (S.keeps (Nat.le_refl s.toks) fun xx xx e => Heap.get?_push_of_some o e).freeze (Heap.get?_push_size _ hf) S.zfresh S.pfresh S.hfresh

theorem StC.own (S : StC B z P H s) {a : Addr} {o : Obj} {x : AO} (hn : NoTbl (H a)) (ho : s.heap.get? a = some o) (hz : z a = none) (hp : P a = none) (hr : ORep B z o x) : StC B z P (H.upd a x) s := by
  refine ⟨S.base, S.zin, fun b o' e => ?_, fun b x' e => ?_, S.os, S.gens, S.tk.1, S.tk.2.upd hn⟩
  · obtain ⟨a1, a2, a3⟩ := S.pin b o' e
    refine ⟨a1, a2, ?_⟩
    unfold AH.upd; split
    · rename_i q; subst q; rw [hp] at e; cases e
    · exact a3
  · unfold AH.upd at e; split at e
    · rename_i q; subst q; cases e; exact ⟨hz, o, ho, hr⟩
    · exact S.hin b x' e
theorem St.own (S : St B z P vars L ρ H s) {a : Addr} {o : Obj} {x : AO} (hn : NoTbl (H a)) (ho : s.heap.get? a = some o) (hz : z a = none) (hp : P a = none) (hr : ORep B z o x) (hl : a ≠ L) : St B z P vars L ρ (H.upd a x) s :=
  ⟨S.c.own hn ho hz hp hr, S.lz, S.lp, by unfold AH.upd; rw [if_neg (Ne.symm hl)]; exact S.lh, S.loc⟩
theorem St.pushOwn (S : St B z P vars L ρ H s) {o : Obj} {x : AO} (hf : o.isFreed = false) (hr : ORep B z o x) : St B z P vars L ρ (H.upd s.heap.objs.size x) { s with heap := s.heap.push o } :=
  (S.keeps (Nat.le_refl s.toks) fun xx xx e => Heap.get?_push_of_some o e).own (by rw [S.c.hfresh]; exact trivial) (Heap.get?_push_size _ hf) S.c.zfresh S.c.pfresh hr (Nat.ne_of_gt S.llt)
theorem StC.pushOwn (S : StC B z P H s) {o : Obj} {x : AO} (hf : o.isFreed = false) (hr : ORep B z o x) : StC B z P (H.upd s.heap.objs.size x) { s with heap := s.heap.push o } :=
  (S.keeps (Nat.le_refl s.toks) fun xx xx e => Heap.get?_push_of_some o e).own (by rw [S.hfresh]; exact trivial) (Heap.get?_push_size _ hf) S.zfresh S.pfresh hr

theorem StC.change (S : StC B z P H s) {a : Addr} {h' : Heap} {t : Nat} (hn : NoTbl (H a)) (ht : s.toks ≤ t) (hs : Heap.ExtBut a s.heap h') (hz : z a = none) (hp : P a = none) : StC B z P (H.del a) { s with heap := h', toks := t } := by
  refine ⟨S.base, fun b o e => ?_, fun b o e => ?_, fun b x e => ?_, S.os, S.gens, Nat.lt_of_lt_of_le S.tk.1 ht, S.tk.2.del hn⟩
  · exact hs b o (by rintro rfl; rw [hz] at e; cases e) (S.zin b o e)
  · obtain ⟨a1, a2, a3⟩ := S.pin b o e
    exact ⟨hs b o (by rintro rfl; rw [hp] at e; cases e) a1, a2, by unfold AH.del; split; rfl; exact a3⟩
  · unfold AH.del at e; split at e
    · cases e
    · rename_i q
      obtain ⟨a1, o, a2, a3⟩ := S.hin b x e
      exact ⟨a1, o, hs b _ q a2, a3⟩
theorem StC.changeOwn (S : StC B z P H s) {a : Addr} {h' : Heap} {t : Nat} {o : Obj} {x y : AO} (ht : s.toks ≤ t) (hs : Heap.ExtBut a s.heap h') (hx : H a = some y) (ho : h'.get? a = some o) (hr : ORep B z o x) (hy : NoTbl (some y)) :
    StC B z P (H.upd a x) { s with heap := h', toks := t } := by
  have hz := (S.hin a y hx).1
  have hp : P a = none := by
    cases h : P a with
    | none => rfl
    | some o => have := (S.pin a o h).2.2; rw [hx] at this; cases this
  have S1 := (S.change (by rw [hx]; exact hy) ht hs hz hp).own (by show NoTbl (if a = a then none else H a); rw [if_pos rfl]; trivial) (s := { s with heap := h', toks := t }) (o := o) (x := x) ho hz hp hr
  have : (H.del a).upd a x = H.upd a x := by funext b; unfold AH.upd AH.del; split <;> simp [*]
  rw [this] at S1; exact S1
theorem St.changeOwn (S : St B z P vars L ρ H s) {a : Addr} {h' : Heap} {t : Nat} {o : Obj} {x y : AO} (ht : s.toks ≤ t) (hs : Heap.ExtBut a s.heap h') (hx : H a = some y) (ho : h'.get? a = some o) (hr : ORep B z o x) (hy : NoTbl (some y)) :
    St B z P vars L ρ (H.upd a x) { s with heap := h', toks := t } := by
  have hl : L ≠ a := by rintro rfl; rw [S.lh] at hx; cases hx
  refine ⟨S.c.changeOwn ht hs hx ho hr hy, S.lz, S.lp, by unfold AH.upd; rw [if_neg hl]; exact S.lh, ?_⟩
  obtain ⟨m, a1, a2⟩ := S.loc
  exact ⟨m, a1.extBut hs hl, a2⟩

theorem St.setLoc (S : St B z P vars L ρ H s) {h' : Heap} {t : Nat} (ht : s.toks ≤ t) {x : Str} {v : Value} {p : PV} {i : Nat} (hn : vars.Nodup) (hi : vars[i]? = some x)
    (m : Str → Option Value) (hm : LocRep B z vars ρ m) (hns : h'.Ns L (fun y => if y = x then some v else m y)) (hs : Heap.SameBut L s.heap h') (hr : Rep B z p v) :
    St B z P vars L (ρ.set i (some p)) H { s with heap := h', toks := t } := by
  have e : H.del L = H := by
    funext b; unfold AH.del; split
    · rename_i q; subst q; exact S.lh.symm
    · rfl
  have := S.c.change (by rw [S.lh]; exact trivial) ht hs.extBut S.lz S.lp
  rw [e] at this
  refine ⟨this, S.lz, S.lp, S.lh, _, hns, fun j y q hy hq => ?_⟩
  by_cases hij : j = i
  · subst hij
    rw [hi] at hy; cases hy
    simp only [if_true]
    rw [List.getElem?_set] at hq
    split at hq
    · split at hq
      · cases hq; exact ⟨v, rfl, hr⟩
      · cases hq
    · rename_i h; exact absurd rfl h
  · have hne : y ≠ x := by
      rintro rfl
      exact hij ((List.getElem?_inj (List.getElem?_eq_some_iff.mp hy).1 hn).mp (hy.trans hi.symm))
    rw [List.getElem?_set_ne (Ne.symm hij)] at hq
    obtain ⟨u, a1, a2⟩ := hm j y q hy hq
    exact ⟨u, by simp only [hne, if_false]; exact a1, a2⟩
end

structure Room (d : Nat) (A : Around) : Prop where
  h : A.handled = none
  dep : A.depth + 3 * d + 20 ≤ 1000
  un : A.units + 20 * d + 1000 ≤ 9900

end Mine
end

section
set_option tactic.hygienic false
set_option backward.match.sparseCases false
set_option genInjectivity false
set_option genSizeOf false
namespace Mine
open PySem PySem.W PySem.Calls PyProof.Rows

noncomputable def onInt (x : PV) (k : Int → Prop) : Prop := match x with
  | .int i => k i
  | _ => False
noncomputable def onNat (x : PV) (k : Nat → Prop) : Prop := match x with
  | .int i => (match i with | .ofNat n => k n | .negSucc _ => False)
  | _ => False
noncomputable def onStr (x : PV) (k : List Nat → Prop) : Prop := match x with
  | .str i => k i
  | _ => False
noncomputable def onTup (x : PV) (k : List PV → Prop) : Prop := match x with
  | .tup i => k i
  | _ => False
noncomputable def onLst (x : PV) (k : List PV → Prop) : Prop := match x with
  | .lst i => k i
  | _ => False
noncomputable def onRef (x : PV) (k : Addr → Prop) : Prop := match x with
  | .ref i => k i
  | _ => False
noncomputable def onNode (x : PV) (k : Addr → List PV → Prop) : Prop := match x with
  | .node c fs => k c fs
  | _ => False
theorem onInt_inv {x : PV} {k : Int → Prop} (h : onInt x k) : ∃ i, x = .int i ∧ k i := by cases x <;> first | exact ⟨_, rfl, h⟩ | exact h.elim
theorem onNat_inv {x : PV} {k : Nat → Prop} (h : onNat x k) : ∃ i : Nat, x = .int i ∧ k i := by
  cases x with
  | int i => cases i with
    | ofNat n => exact ⟨n, rfl, h⟩
    | negSucc _ => exact h.elim
  | _ => exact h.elim
theorem onStr_inv {x : PV} {k : List Nat → Prop} (h : onStr x k) : ∃ i, x = .str i ∧ k i := by cases x <;> first | exact ⟨_, rfl, h⟩ | exact h.elim
theorem onTup_inv {x : PV} {k : List PV → Prop} (h : onTup x k) : ∃ i, x = .tup i ∧ k i := by cases x <;> first | exact ⟨_, rfl, h⟩ | exact h.elim
theorem onLst_inv {x : PV} {k : List PV → Prop} (h : onLst x k) : ∃ i, x = .lst i ∧ k i := by cases x <;> first | exact ⟨_, rfl, h⟩ | exact h.elim
theorem onRef_inv {x : PV} {k : Addr → Prop} (h : onRef x k) : ∃ i, x = .ref i ∧ k i := by cases x <;> first | exact ⟨_, rfl, h⟩ | exact h.elim
theorem onNode_inv {x : PV} {k : Addr → List PV → Prop} (h : onNode x k) : ∃ c fs, x = .node c fs ∧ k c fs := by cases x <;> first | exact ⟨_, _, rfl, h⟩ | exact h.elim

structure DP where
  p : Prop
  i : Decidable p
noncomputable def DP.dec (c : DP) : Bool := @decide c.p c.i
noncomputable def DP.not (c : DP) : DP := ⟨¬ c.p, @instDecidableNot c.p c.i⟩
noncomputable def dT : DP := ⟨True, inferInstance⟩
noncomputable def dF : DP := ⟨False, inferInstance⟩
noncomputable def dB (b : Bool) : DP := ⟨b = true, inferInstance⟩
@[irreducible] noncomputable def tst (c : DP) (A B : Prop) : Prop := (c.p → A) ∧ (¬ c.p → B)
theorem tst_pos {p : Prop} {i : Decidable p} {A B : Prop} (h : p) (a : A) : tst ⟨p, i⟩ A B := by unfold tst; exact ⟨fun xx => a, fun n => (n h).elim⟩
theorem tst_neg {p : Prop} {i : Decidable p} {A B : Prop} (h : ¬ p) (b : B) : tst ⟨p, i⟩ A B := by unfold tst; exact ⟨fun x => (h x).elim, fun xx => b⟩
theorem tst_both {p : Prop} {i : Decidable p} {A B : Prop} (a : p → A) (b : ¬ p → B) : tst ⟨p, i⟩ A B := by unfold tst; exact ⟨a, b⟩
theorem tst_t {A B : Prop} (a : A) : tst (dB true) A B := tst_pos rfl a
theorem tst_f {A B : Prop} (b : B) : tst (dB false) A B := tst_neg Bool.false_ne_true b
theorem tst_true {c : DP} {A B : Prop} (h : tst c A B) (x : c.p) : A := by unfold tst at h; exact h.1 x
theorem tst_false {c : DP} {A B : Prop} (h : tst c A B) (x : ¬ c.p) : B := by unfold tst at h; exact h.2 x

noncomputable def isN : PV → Bool
  | .none => true
  | _ => false
noncomputable def tdK (x : PV) (k : DP → Prop) : Prop := match x with
  | .none => k dF
  | .bool b => k (dB b)
  | .int i => k ⟨i ≠ 0, inferInstance⟩
  | .str s => k ⟨s.isEmpty = false, inferInstance⟩
  | _ => False
noncomputable def pvStr : PV → Option (List Nat)
  | .str s => some s
  | _ => none
noncomputable def allStr : List PV → Option (List (List Nat))
  | [] => some []
  | p :: r => (pvStr p).bind fun s => (allStr r).map (s :: ·)

mutual
noncomputable def toPD : PV → Option PyData
  | .none => some .none
  | .bool b => some (.bool b)
  | .int i => some (.int i)
  | .str s => some (.str (sOf s))
  | .tup vs => (toPDs vs).map .tuple
  | .lst vs => (toPDs vs).map .list
  | _ => none
noncomputable def toPDs : List PV → Option (List PyData)
  | [] => some []
  | a :: as => (toPD a).bind fun x => (toPDs as).bind fun y => some (x :: y)
end
noncomputable def eqPD (a b : PV) : Option Bool := (toPD a).bind fun x => (toPD b).bind fun y => if x.depth ≤ 60 ∧ y.depth ≤ 60 then some (PyData.eqv x y) else none
noncomputable def small (i : Int) : Bool := decide (i.natAbs < 4611686018427387904)
noncomputable def assocP (k : List Nat) : List (List Nat) → List PV → Option PV
  | [], _ => none
  | a :: ks, vs => vs.casesOn none fun v vs => if a = k then some v else assocP k ks vs

noncomputable def startsAt (s p : List Nat) (i : Nat) : Bool := (s.drop i).take p.length == p && decide (i + p.length ≤ s.length)

noncomputable def rfindL (c : Nat) (s : List Nat) (a b : Nat) : Option Nat := Builtin.Str.lastOccurrence (sOf s) (sOf [c]) a (min b s.length)
noncomputable def countL (c : Nat) (s : List Nat) (a b : Nat) : Nat := (Builtin.Str.occurrences (sOf s) (sOf [c]) a (min b s.length) (s.length + 1)).length
noncomputable def replL (p : List Nat) (q : Nat) (s : List Nat) : List Nat :=
  if (Builtin.Str.occurrences (sOf s) (sOf p) 0 s.length (s.length + 1)).isEmpty then s
  else (Builtin.Str.glued (sOf [q]) (Builtin.Str.partsBetween (sOf s) (Builtin.Str.occurrences (sOf s) (sOf p) 0 s.length (s.length + 1)) p.length)).cps.toList

noncomputable def hexV (c : Nat) : Option Nat := if 48 ≤ c ∧ c ≤ 57 then some (c - 48) else if 97 ≤ c ∧ c ≤ 102 then some (c - 87) else if 65 ≤ c ∧ c ≤ 70 then some (c - 55) else none
noncomputable def hexNum (s : List Nat) : Nat := s.foldl (fun a c => a * 16 + (hexV c).getD 0) 0
noncomputable def isHex (c : Nat) : Bool := (hexV c).isSome


noncomputable def onStrs (vs : List PV) (k : List (List Nat) → Prop) : Prop := match allStr vs with
  | some l => k l
  | none => False
theorem onStrs_inv {vs : List PV} {k : List (List Nat) → Prop} (h : onStrs vs k) : ∃ l, allStr vs = some l ∧ k l := by
  unfold onStrs at h
  cases q : allStr vs with
  | none => rw [q] at h; exact h.elim
  | some l => rw [q] at h; exact ⟨l, rfl, h⟩
theorem onStrs_mk {vs : List PV} {l : List (List Nat)} {k : List (List Nat) → Prop} (e : allStr vs = some l) (h : k l) : onStrs vs k := by unfold onStrs; rw [e]; exact h

noncomputable def on1 (vs : List PV) (k : PV → Prop) : Prop := match vs with
  | [] => False
  | x :: r => (match r with | [] => k x | _ :: _ => False)
theorem on1_inv {vs : List PV} {k : PV → Prop} (h : on1 vs k) : ∃ x, vs = [x] ∧ k x := by
  cases vs with
  | nil => exact h.elim
  | cons x r => cases r with
    | nil => exact ⟨x, rfl, h⟩
    | cons _ _ => exact h.elim
noncomputable def on2 (vs : List PV) (k : PV → PV → Prop) : Prop := match vs with
  | [] => False
  | x :: r => on1 r (k x)
theorem on2_inv {vs : List PV} {k : PV → PV → Prop} (h : on2 vs k) : ∃ x y, vs = [x, y] ∧ k x y := by
  cases vs with
  | nil => exact h.elim
  | cons x r => obtain ⟨y, rfl, h⟩ := on1_inv h; exact ⟨x, y, rfl, h⟩
noncomputable def on3 (vs : List PV) (k : PV → PV → PV → Prop) : Prop := match vs with
  | [] => False
  | x :: r => on2 r (k x)
theorem on3_inv {vs : List PV} {k : PV → PV → PV → Prop} (h : on3 vs k) : ∃ x y u, vs = [x, y, u] ∧ k x y u := by
  cases vs with
  | nil => exact h.elim
  | cons x r => obtain ⟨y, u, rfl, h⟩ := on2_inv h; exact ⟨x, y, u, rfl, h⟩
noncomputable def onChr (s : List Nat) (k : Nat → Prop) : Prop := match s with
  | [] => False
  | c :: r => (match r with | [] => k c | _ :: _ => False)
theorem onChr_inv {s : List Nat} {k : Nat → Prop} (h : onChr s k) : ∃ c, s = [c] ∧ k c := by
  cases s with
  | nil => exact h.elim
  | cons x r => cases r with
    | nil => exact ⟨x, rfl, h⟩
    | cons _ _ => exact h.elim

noncomputable def addK (x y : PV) (Q : PV → Prop) : Prop := match x with
  | .int a => onInt y fun b => Q (.int (a + b))
  | .str a => onStr y fun b => a.length + b.length ≤ 16777216 ∧ Q (.str (a ++ b))
  | _ => False
noncomputable def modI (a b : Int) : Int := match a with
  | .ofNat m => (match b with | .ofNat n => .ofNat (m % n) | .negSucc _ => a.fmod b)
  | .negSucc _ => a.fmod b
noncomputable def divI (a b : Int) : Int := match a with
  | .ofNat m => (match b with | .ofNat n => .ofNat (m / n) | .negSucc _ => a.fdiv b)
  | .negSucc _ => a.fdiv b
theorem modI_is (a b : Int) : modI a b = a.fmod b := by
  cases a with
  | ofNat m => cases b with
    | ofNat n => exact Int.ofNat_fmod m n
    | negSucc _ => rfl
  | negSucc _ => rfl
theorem divI_is (a b : Int) : divI a b = a.fdiv b := by
  cases a with
  | ofNat m => cases b with
    | ofNat n => exact Int.ofNat_fdiv m n
    | negSucc _ => rfl
  | negSucc _ => rfl
noncomputable def binK (op : Operator) (x y : PV) (Q : PV → Prop) : Prop := match op with
  | .Add => addK x y Q
  | .Sub => onInt x fun a => onInt y fun b => Q (.int (a - b))
  | .Mult => onInt x fun a => onInt y fun b => (small a || small b) = true ∧ Q (.int (a * b))
  | .FloorDiv => onInt x fun a => onInt y fun b => (b.natAbs < 1073741824 ∧ b ≠ 0) ∧ Q (.int (divI a b))
  | .Mod => onInt x fun a => onInt y fun b => b ≠ 0 ∧ Q (.int (modI a b))
  | _ => False
noncomputable def eqK (x y : PV) (k : DP → Prop) : Prop := match x with
  | .str a => (match y with | .str b => k ⟨a = b, inferInstance⟩ | .none => k dF | _ => False)
  | .int a => (match y with | .int b => k ⟨a = b, inferInstance⟩ | .none => k dF | _ => False)
  | .bool a => (match y with | .bool b => k ⟨a = b, inferInstance⟩ | _ => False)
  | .none => (match y with | .none => k dT | .str _ => k dF | .int _ => k dF | _ => False)
  | .tup _ => ∃ b, eqPD x y = some b ∧ k (dB b)
  | .lst _ => ∃ b, eqPD x y = some b ∧ k (dB b)
  | _ => False
noncomputable def neK (x y : PV) (k : DP → Prop) : Prop := match x with
  | .str a => onStr y fun b => k ⟨a ≠ b, inferInstance⟩
  | .int a => onInt y fun b => k ⟨a ≠ b, inferInstance⟩
  | _ => False
noncomputable def leK (x y : PV) (k : DP → Prop) : Prop := match x with
  | .int a => onInt y fun b => k ⟨a ≤ b, inferInstance⟩
  | .str a => (match a with | [a] => onStr y fun b => (match b with | [b] => k ⟨a ≤ b, inferInstance⟩ | _ => False) | _ => False)
  | _ => False
noncomputable def gtK (x y : PV) (k : DP → Prop) : Prop := match x with
  | .int a => onInt y fun b => k ⟨b < a, inferInstance⟩
  | .str a => (match a with | [a] => onStr y fun b => (match b with | [b] => k ⟨b < a, inferInstance⟩ | _ => False) | _ => False)
  | _ => False
noncomputable def inSK (a : List Nat) (y : PV) (k : DP → Prop) : Prop := match y with
  | .tup vs => onStrs vs fun l => k ⟨a ∈ l, inferInstance⟩
  | .lst vs => onStrs vs fun l => k ⟨a ∈ l, inferInstance⟩
  | .dct ks _ => k ⟨a ∈ ks, inferInstance⟩
  | .str b => (match a with | [c] => k ⟨c ∈ b, inferInstance⟩ | _ => False)
  | _ => False
@[irreducible] noncomputable def inLK (x y : PV) (k : DP → Prop) : Prop := match y with
  | .lst vs => ∃ d xs, toPD x = some d ∧ toPDs vs = some xs ∧ d.depth ≤ 60 ∧ k (dB (xs.any fun y => PyData.eqv y d))
  | _ => False
noncomputable def inK (x y : PV) (k : DP → Prop) : Prop := match x with
  | .str a => inSK a y k
  | .lst _ => inLK x y k
  | _ => False
noncomputable def cmpK (op : CmpOp) (x y : PV) (k : DP → Prop) : Prop := match op with
  | .Eq => eqK x y k
  | .NotEq => neK x y k
  | .Lt => onInt x fun a => onInt y fun b => k ⟨a < b, inferInstance⟩
  | .LtE => leK x y k
  | .Gt => gtK x y k
  | .GtE => onInt x fun a => onInt y fun b => k ⟨b ≤ a, inferInstance⟩
  | .Is => (match y with | .none => k (dB (isN x)) | _ => False)
  | .IsNot => (match y with | .none => k ⟨isN x = false, inferInstance⟩ | _ => False)
  | .In => inK x y k
  | .NotIn => (match y with
    | .tup _ => onStr x fun a => inSK a y fun c => k c.not
    | .str _ => onStr x fun a => inSK a y fun c => k c.not
    | _ => False)
noncomputable def idxK (x y : PV) (Q : PV → Prop) : Prop := match x with
  | .str s => onNat y fun i => ∃ c, s[i]? = some c ∧ Q (.str [c])
  | .tup vs => onNat y fun i => ∃ p, vs[i]? = some p ∧ Q p
  | .lst vs => onNat y fun i => ∃ p, vs[i]? = some p ∧ Q p
  | .dct ks vs => onStr y fun k => ∃ p, assocP k ks vs = some p ∧ Q p
  | _ => False
noncomputable def loK (x : PV) (k : Nat → Prop) : Prop := match x with
  | .none => k 0
  | .int i => (match i with | .ofNat n => k n | .negSucc _ => False)
  | _ => False
noncomputable def hiK (n : Nat) (x : PV) (k : Nat → Prop) : Prop := match x with
  | .none => k n
  | .int i => (match i with | .ofNat n => k n | .negSucc m => k (n - (m + 1)))
  | _ => False
noncomputable def slcK (x lo hi : PV) (Q : PV → Prop) : Prop := match x with
  | .str s => loK lo fun a => hiK s.length hi fun b => Q (.str ((s.drop a).take (b - a)))
  | .lst s => loK lo fun a => hiK s.length hi fun b => Q (.lst ((s.drop a).take (b - a)))
  | _ => False
inductive Bi where
  | len | ord | chr | int
  deriving DecidableEq
noncomputable def Bi.name : Bi → Str
  | .len => "len" | .ord => "ord" | .chr => "chr" | .int => "int"
noncomputable def Bi.val : Bi → Value
  | .len => .builtin "len" | .ord => .builtin "ord" | .chr => .builtin "chr" | .int => .type "int"

noncomputable def biK (f : Bi) (vs : List PV) (Q : PV → Prop) : Prop := match f with
  | .len => (match vs with
    | [x] => (match x with | .str s => Q (.int s.length) | .lst s => Q (.int s.length) | _ => False)
    | _ => False)
  | .ord => (match vs with
    | [x] => onStr x fun s => (match s with | [c] => Q (.int c) | _ => False)
    | _ => False)
  | .chr => (match vs with
    | [x] => onNat x fun i => i < 1114112 ∧ Q (.str [i])
    | _ => False)
  | .int => (match vs with
    | [x] => onStr x fun s => s.length ≤ 640 ∧ ∃ i, PySem.intText? (sOf s) = some i ∧ Q (.int i)
    | [x, y] => onStr x fun s => onInt y fun b => (s.length ≤ 640 ∧ s ≠ [] ∧ b = 16 ∧ s.all isHex = true) ∧ Q (.int (hexNum s))
    | _ => False)
inductive Mt where
  | startswith | rfind | count | join | get
  deriving DecidableEq
noncomputable def Mt.name : Mt → Str
  | .startswith => "startswith" | .rfind => "rfind" | .count => "count" | .join => "join" | .get => "get"

noncomputable def methK (f : Mt) (x : PV) (vs : List PV) (Q : PV → Prop) : Prop := match f with
  | .startswith => onStr x fun s => on2 vs fun p i => onNat i fun i => (match p with
      | .str p => Q (.bool (startsAt s p i))
      | .tup ps => onStrs ps fun l => Q (.bool (l.any fun p => startsAt s p i))
      | _ => False)
  | .rfind => onStr x fun s => on3 vs fun p a b => onStr p fun p => onChr p fun c => onNat a fun a => onNat b fun b => Q (.int (match rfindL c s a b with | some i => (i : Int) | none => -1))
  | .count => onStr x fun s => on3 vs fun p a b => onStr p fun p => onChr p fun c => onNat a fun a => onNat b fun b => Q (.int (countL c s a b))
  | .join => onStr x fun s => (match s with
    | [] => on1 vs fun p => onLst p fun ps => ∃ l, allStr ps = some l ∧ l.flatten.length ≤ 16777216 ∧ Q (.str l.flatten)
    | _ :: _ => False)
  | .get => (match x with
    | .dct ks ps => on2 vs fun k dv => onStr k fun k => Q ((assocP k ks ps).getD dv)
    | _ => False)
noncomputable def pItems : PV → Option (List PV)
  | .str s => some (s.map fun c => .str [c])
  | .lst vs => some vs
  | _ => none

set_option genCtorIdx false in
inductive ME where
  | const (v : PV)
  | var (i : Nat)
  | glob (nm : Str) (v : PV)
  | bin (op : Operator) (a b : ME)
  | neg (a : ME)
  | nt (a : ME)
  | bop (op : BoolOp) (es : List ME)
  | cmp (op : CmpOp) (a b : ME)
  | cmp2 (o1 o2 : CmpOp) (a b c : ME)
  | ife (t a b : ME)
  | tup (es : List ME)
  | lst (es : List ME)
  | mlst (es : List ME)
  | dct (ks : List (List Nat)) (vs : List ME)
  | idx (a b : ME)
  | slc (a : ME) (lo hi : Option ME)
  | attr (a : ME) (nm : Str)
  | call (nm : Str) (es : List ME)
  | scall (cls nm : Str) (es : List ME)
  | bi (nm : Bi) (es : List ME)
  | meth (nm : Mt) (a : ME) (es : List ME)
  | repl (a : ME) (p : List Nat) (q : Nat)
  | app (a b : ME)
  | pop (a : ME)
  | frz (a : ME)
  | comp (x : Str) (elt iter : ME)
  | ecomp (x y : Str) (elt iter : ME)
  | genjoin (sep : List Nat) (x : Str) (elt iter : ME)
  | fstr (es : List (Option (List Nat) × Option ME))
  | bad

set_option genCtorIdx false in
inductive MS where
  | asg (i : Nat) (e : ME)
  | asg2 (i j : Nat) (e : ME)
  | asgc (i : Nat) (x : Str) (elt iter : ME)
  | unp (is : List Nat) (e : ME)
  | aug (i : Nat) (op : Operator) (e : ME)
  | setattr (a : ME) (nm : Str) (v : ME)
  | expr (e : ME)
  | ite (t : ME) (a b : List MS)
  | wh (t : ME) (b oe : List MS)
  | for1 (i : Nat) (iter : ME) (b : List MS)
  | ret (e : ME)
  | brk
  | cont
  | pass
  | try1 (b : List MS)
  | asrt (t : ME)
  | bad

inductive MF where
  | next | brk | cont
  | ret (v : PV)

abbrev Loc := List (Option PV)


noncomputable def getL : Loc → Nat → Option PV
  | o :: _, 0 => o
  | _ :: r, n + 1 => getL r n
  | [], _ => none
noncomputable def setL : Loc → Nat → PV → Loc
  | _ :: r, 0, v => some v :: r
  | o :: r, n + 1, v => o :: setL r n v
  | [], _, _ => []
noncomputable def setMany : List Nat → List PV → Loc → Loc
  | i :: is, v :: vs, ρ => setMany is vs (setL ρ i v)
  | _, _, ρ => ρ
noncomputable def mapW (f : PV → (PV → AH → Prop) → AH → Prop) : List PV → (List PV → AH → Prop) → AH → Prop
  | [], Q, H => Q [] H
  | x :: xs, Q, H => f x (fun r H' => mapW f xs (fun rs H'' => Q (r :: rs) H'') H') H
noncomputable def mapI (f : Nat → PV → (PV → AH → Prop) → AH → Prop) : Nat → List PV → (List PV → AH → Prop) → AH → Prop
  | _, [], Q, H => Q [] H
  | i, x :: xs, Q, H => f i x (fun r H' => mapI f (i + 1) xs (fun rs H'' => Q (r :: rs) H'') H') H
end Mine
end

section
set_option tactic.hygienic false
set_option backward.match.sparseCases false
set_option genInjectivity false
set_option genSizeOf false
namespace Mine
open PySem PySem.W PySem.Calls PyProof.Rows

noncomputable def cPV : PV → Const → Bool
  | .none, .none => true
  | .bool a, .bool b => a == b
  | .int a, .int b => a == b
  | .str s, .str x => s == x.cps.toList && s.all (· < 0x110000) && decide (s.length ≤ 1000)
  | _, _ => false
set_option genCtorIdx false in
inductive AttR where
  | slot (i : Nat)
  | val (p : PV)
structure Tab where
  att : Addr → Str → Option AttR
  sat : Addr → Str → Option Nat
  stat : Str → Str → Option Value
def NoExc : Value → Shared → Prop := fun xx xx => False
def BaseIn (B : Base) (s : Shared) : Prop := ∀ a o, B.heap.get? a = some o → s.heap.get? a = some o
def Post (B : Base) (P : PH) (z : PH) (Q : PV → AH → Prop) : Value → Shared → Prop :=
  fun v s' => ∃ z' p H', zle z z' ∧ StC B z' P H' s' ∧ Rep B z' p v ∧ Q p H'
def CallSem (B : Base) (d : Nat) (fv : Value) (vs : List PV) (H : AH) (Q : PV → AH → Prop) : Prop :=
  ∀ z P s A vals, Room d A → StC B z P H s → RepL B z vs vals → wpAny (model B.prog B.w) A (call fv vals) (Post B P z Q) NoExc s
def KeepOk (B : Base) (fv : Value) : Prop :=
  ∀ (A : Around) (s : Shared) (E : Value → Shared → Prop) (Q : Keeper → Shared → Prop), BaseIn B s → (∀ k, (k = .frame ∨ k = .machine) → Q k s) → wpAny (model B.prog B.w) A (keeperOf fv) Q E s
@[irreducible] noncomputable def calB (B : Base) (d : Nat) (nm : Str) (vs : List PV) (Q : PV → AH → Prop) (H : AH) : Prop := ∃ fv, B.mg nm = some fv ∧ KeepOk B fv ∧ CallSem B d fv vs H Q
noncomputable def slotSet (fs : List (Option PV)) (i : Nat) (v : PV) : List (Option PV) := (fs ++ List.replicate (i + 1 - fs.length) none).set i (some v)

noncomputable def asC (m : ME) : Option { v : PV // m = .const v } := match m with
  | .const v => some ⟨v, rfl⟩
  | _ => none
noncomputable def constPVs : List ME → Option (List PV)
  | [] => some []
  | m :: es => (asC m).bind fun q => (constPVs es).map (q.1 :: ·)

section
variable (B : Base) (T : Tab) (d : Nat)
abbrev KE := PV → AH → Prop
abbrev KT := DP → AH → Prop
abbrev KL := List PV → AH → Prop
abbrev KS := MF → Loc → AH → Prop
abbrev VE := KE → Loc → AH → Prop
abbrev VT := KT → Loc → AH → Prop
abbrev VL := KL → Loc → AH → Prop
abbrev VS := KS → Loc → AH → Prop
noncomputable def kv (Q : KE) (H : AH) : PV → Prop := fun r => Q r H
noncomputable def kvb (Q : KE) (H : AH) : DP → Prop := fun c => Q (.bool c.dec) H
noncomputable def kvt (Q : KT) (H : AH) : DP → Prop := fun c => Q c H
noncomputable def kbin2 (op : Operator) (x : PV) (Q : KE) : KE := fun y H => binK op x y (kv Q H)
noncomputable def kbin (op : Operator) (vb : VE) (Q : KE) (ρ : Loc) : KE := fun x H => vb (kbin2 op x Q) ρ H
noncomputable def kneg (Q : KE) : KE := fun x H => onInt x fun i => Q (.int (-i)) H
noncomputable def knot (Q : KE) : KE := fun x H => tdK x fun c => Q (.bool c.not.dec) H
noncomputable def kcmp2 (op : CmpOp) (x : PV) (Q : KE) : KE := fun y H => cmpK op x y (kvb Q H)
noncomputable def kcmp (op : CmpOp) (vb : VE) (Q : KE) (ρ : Loc) : KE := fun x H => vb (kcmp2 op x Q) ρ H
noncomputable def kite (va vb : VE) (Q : KE) (ρ : Loc) : KT := fun c H => tst c (va Q ρ H) (vb Q ρ H)
noncomputable def ktup (Q : KE) : KL := fun vs H => Q (.tup vs) H
noncomputable def klst (Q : KE) : KL := fun vs H => Q (.lst vs) H
noncomputable def kml (Q : KE) : KL := fun vs H => ∀ a, H a = none → Q (.ref a) (H.upd a (.list vs))
noncomputable def kidx2 (x : PV) (Q : KE) : KE := fun y H => idxK x y (kv Q H)
noncomputable def kidx (vb : VE) (Q : KE) (ρ : Loc) : KE := fun x H => vb (kidx2 x Q) ρ H
noncomputable def kslc3 (x l : PV) (Q : KE) : KE := fun u H => slcK x l u (kv Q H)
noncomputable def kslc2 (x : PV) (vu : VE) (Q : KE) (ρ : Loc) : KE := fun l H => vu (kslc3 x l Q) ρ H
noncomputable def kslc (vl vu : VE) (Q : KE) (ρ : Loc) : KE := fun x H => vl (kslc2 x vu Q ρ) ρ H
noncomputable def kattr (nm : Str) (Q : KE) : KE := fun x H => onNode x fun c fs => ∃ r, T.att c nm = some r ∧ match r with
  | .slot i => ∃ p, fs[i]? = some p ∧ Q p H
  | .val p => Q p H
noncomputable def kcal (nm : Str) (Q : KE) : KL := fun vs H => calB B d nm vs Q H
noncomputable def kscal (c nm : Str) (Q : KE) : KL := fun vs H => ∃ fv, T.stat c nm = some fv ∧ CallSem B d fv vs H Q
noncomputable def kbi (f : Bi) (Q : KE) : KL := fun vs H => biK f vs (kv Q H)
noncomputable def kme2 (f : Mt) (x : PV) (Q : KE) : KL := fun vs H => methK f x vs (kv Q H)
noncomputable def onRecv (f : Mt) (x : PV) (P : Prop) : Prop := match f with
  | .get => (match x with | .dct _ _ => P | _ => False)
  | _ => onStr x fun xx => P
noncomputable def kme (f : Mt) (vs : VL) (Q : KE) (ρ : Loc) : KE := fun x H => onRecv f x (vs (kme2 f x Q) ρ H)
noncomputable def krepl (p : List Nat) (q : Nat) (Q : KE) : KE := fun x H => onStr x fun s => (p ≠ [] ∧ p ≠ [q] ∧ 2 * s.length + 1 ≤ 16777216 ∧ sok (replL p q s)) ∧ Q (.str (replL p q s)) H
@[irreducible] noncomputable def appB (l : Addr) (y : PV) (Q : KE) (H : AH) : Prop := ∃ vs, H l = some (.list vs) ∧ vs.length ≤ 1000000 ∧ Q .none (H.upd l (.list (vs ++ [y])))
noncomputable def kapp2 (l : Addr) (Q : KE) : KE := fun y H => appB l y Q H
noncomputable def kapp (vb : VE) (Q : KE) (ρ : Loc) : KE := fun x H => onRef x fun l => (∃ vs, H l = some (.list vs)) ∧ vb (kapp2 l Q) ρ H
noncomputable def kfrz (Q : KE) : KE := fun x H => onRef x fun l => ∃ vs, H l = some (.list vs) ∧ Q (.lst vs) (H.del l)
noncomputable def kcomp (ve : VE) (Q : KE) : KE := fun x H => ∃ xs, pItems x = some xs ∧ xs.length ≤ 1000000 ∧ mapW (fun y Q H => ve Q [some y] H) xs (klst Q) H
noncomputable def kecomp (ve : VE) (Q : KE) : KE := fun x H => onLst x fun xs => xs.length ≤ 1000000 ∧ mapI (fun i y Q H => ve Q [some (.int i), some y] H) 0 xs (klst Q) H
noncomputable def kes2 (x : PV) (Q : KL) : KL := fun xs H => Q (x :: xs) H
noncomputable def kes (vs : VL) (Q : KL) (ρ : Loc) : KE := fun x H => vs (kes2 x Q) ρ H
noncomputable def kand (vs : VE) (Q : KE) (ρ : Loc) : KE := fun x H => tdK x fun c => tst c (vs Q ρ H) (Q x H)
noncomputable def kor (vs : VE) (Q : KE) (ρ : Loc) : KE := fun x H => tdK x fun c => tst c (Q x H) (vs Q ρ H)
noncomputable def ktn (Q : KT) : KT := fun c H => Q c.not H
noncomputable def ktcmp2 (op : CmpOp) (x : PV) (Q : KT) : KE := fun y H => cmpK op x y (kvt Q H)
noncomputable def ktcmp (op : CmpOp) (vb : VE) (Q : KT) (ρ : Loc) : KE := fun x H => vb (ktcmp2 op x Q) ρ H
noncomputable def ktch2 (o1 o2 : CmpOp) (x : PV) (vc : VE) (Q : KT) (ρ : Loc) : KE := fun y H => cmpK o1 x y fun c => tst c (vc (ktcmp2 o2 y Q) ρ H) (Q dF H)
noncomputable def ktch (o1 o2 : CmpOp) (vb vc : VE) (Q : KT) (ρ : Loc) : KE := fun x H => vb (ktch2 o1 o2 x vc Q ρ) ρ H
noncomputable def ktv (Q : KT) : KE := fun x H => tdK x (kvt Q H)
noncomputable def ktand (vs : VT) (Q : KT) (ρ : Loc) : KT := fun c H => tst c (vs Q ρ H) (Q dF H)
noncomputable def ktor (vs : VT) (Q : KT) (ρ : Loc) : KT := fun c H => tst c (Q dT H) (vs Q ρ H)
noncomputable def kf (out : List Nat) (vr : List Nat → VE) (Q : KE) (ρ : Loc) : KE := fun x H => onStr x fun s => out.length + s.length ≤ 16777216 ∧ vr (out ++ s) Q ρ H

mutual
noncomputable def vcE : ME → KE → Loc → AH → Prop
  | .const v => fun Q xx H => Q v H
  | .var i => fun Q ρ H => match getL ρ i with
    | some v => Q v H
    | none => False
  | .glob nm v => fun Q xx H => (∃ x, B.mg nm = some x ∧ Rep B B.heap.get? v x) ∧ Q v H
  | .bin op a b => fun Q ρ H => vcE a (kbin op (vcE b) Q ρ) ρ H
  | .neg a => fun Q ρ H => vcE a (kneg Q) ρ H
  | .nt a => fun Q ρ H => vcE a (knot Q) ρ H
  | .bop op es => fun Q ρ H => vcB op es Q ρ H
  | .cmp op a b => fun Q ρ H => vcE a (kcmp op (vcE b) Q ρ) ρ H
  | .cmp2 .. => fun xx xx xx => False
  | .ife t a b => fun Q ρ H => vcT t (kite (vcE a) (vcE b) Q ρ) ρ H
  | .tup es => fun Q ρ H => vcEs es (ktup Q) ρ H
  | .lst es => fun Q ρ H => vcEs es (klst Q) ρ H
  | .mlst es => fun Q ρ H => vcEs es (kml Q) ρ H
  | .dct ks es => fun Q xx H => ∃ vs, constPVs es = some vs ∧ (17 < ks.length ∧ ks.length ≤ 32) ∧ (ks.map sOf).Nodup ∧ (∀ k ∈ ks, cPV (.str k) (.str (sOf k)) = true) ∧ Q (.dct ks vs) H
  | .idx a b => fun Q ρ H => vcE a (kidx (vcE b) Q ρ) ρ H
  | .slc a lo hi => fun Q ρ H => vcE a (kslc (vcO lo) (vcO hi) Q ρ) ρ H
  | .attr a nm => fun Q ρ H => vcE a (kattr T nm Q) ρ H
  | .call nm es => fun Q ρ H => (∃ fv, B.mg nm = some fv ∧ KeepOk B fv) ∧ vcEs es (kcal B d nm Q) ρ H
  | .scall c nm es => fun Q ρ H => (∃ fv, T.stat c nm = some fv ∧ KeepOk B fv) ∧ vcEs es (kscal B T d c nm Q) ρ H
  | .bi f es => fun Q ρ H => vcEs es (kbi f Q) ρ H
  | .meth f a es => fun Q ρ H => vcE a (kme f (vcEs es) Q ρ) ρ H
  | .repl a p q => fun Q ρ H => vcE a (krepl p q Q) ρ H
  | .app a b => fun Q ρ H => vcE a (kapp (vcE b) Q ρ) ρ H
  | .pop _ => fun xx xx xx => False
  | .frz a => fun Q ρ H => vcE a (kfrz Q) ρ H
  | .comp _ elt iter => fun Q ρ H => vcE iter (kcomp (vcE elt) Q) ρ H
  | .ecomp _ _ elt iter => fun Q ρ H => vcE iter (kecomp (vcE elt) Q) ρ H
  | .genjoin .. => fun xx xx xx => False
  | .fstr es => fun Q ρ H => vcF es [] Q ρ H
  | .bad => fun xx xx xx => False
noncomputable def vcEs : List ME → KL → Loc → AH → Prop
  | [] => fun Q xx H => Q [] H
  | e :: es => fun Q ρ H => vcE e (kes (vcEs es) Q ρ) ρ H
noncomputable def vcO : Option ME → KE → Loc → AH → Prop
  | none => fun Q xx H => Q .none H
  | some e => fun Q ρ H => vcE e Q ρ H
noncomputable def vcB : BoolOp → List ME → KE → Loc → AH → Prop
  | _, [] => fun xx xx xx => False
  | op, e :: es => fun Q ρ H => vcE e (match es with
    | [] => Q
    | _ :: _ => match op with
      | .And => kand (vcB op es) Q ρ
      | .Or => kor (vcB op es) Q ρ) ρ H
noncomputable def vcT : ME → KT → Loc → AH → Prop
  | .nt a => fun Q ρ H => vcT a (ktn Q) ρ H
  | .bop op es => fun Q ρ H => vcTB op es Q ρ H
  | .cmp op a b => fun Q ρ H => vcE a (ktcmp op (vcE b) Q ρ) ρ H
  | .cmp2 o1 o2 a b c => fun Q ρ H => vcE a (ktch o1 o2 (vcE b) (vcE c) Q ρ) ρ H
  | .const v => fun Q xx H => tdK v (kvt Q H)
  | .var i => fun Q ρ H => match getL ρ i with
    | some v => tdK v (kvt Q H)
    | none => False
  | .bin op a b => fun Q ρ H => vcE a (kbin op (vcE b) (ktv Q) ρ) ρ H
  | .call nm es => fun Q ρ H => (∃ fv, B.mg nm = some fv ∧ KeepOk B fv) ∧ vcEs es (kcal B d nm (ktv Q)) ρ H
  | .meth f a es => fun Q ρ H => vcE a (kme f (vcEs es) (ktv Q) ρ) ρ H
  | _ => fun xx xx xx => False
noncomputable def vcTB : BoolOp → List ME → KT → Loc → AH → Prop
  | op, [] => fun Q xx H => Q (match op with | .And => dT | .Or => dF) H
  | op, e :: es => fun Q ρ H => vcT e (match op with | .And => ktand (vcTB op es) Q ρ | .Or => ktor (vcTB op es) Q ρ) ρ H
noncomputable def vcF : List (Option (List Nat) × Option ME) → List Nat → KE → Loc → AH → Prop
  | [], out => fun Q xx H => Q (.str out) H
  | (some s, _) :: r, out => fun Q ρ H => out.length + s.length ≤ 16777216 ∧ vcF r (out ++ s) Q ρ H
  | (none, some e) :: r, out => fun Q ρ H => vcE e (kf out (fun o => vcF r o) Q ρ) ρ H
  | (none, none) :: _, _ => fun xx xx xx => False
end

noncomputable def kseq (vr : VS) (Q : KS) : KS := fun f ρ H => match f with
  | .next => vr Q ρ H
  | .brk => Q .brk ρ H
  | .cont => Q .cont ρ H
  | .ret v => Q (.ret v) ρ H
noncomputable def kasg (i : Nat) (Q : KS) (ρ : Loc) : KE := fun v H => Q .next (setL ρ i v) H
noncomputable def kasg2 (i j : Nat) (Q : KS) (ρ : Loc) : KE := fun v H => Q .next (setL (setL ρ i v) j v) H
noncomputable def kasgl (i : Nat) (Q : KS) (ρ : Loc) : KL := fun vs H => Q .next (setL ρ i (.lst vs)) H
noncomputable def kasgc (i : Nat) (ve : VE) (Q : KS) (ρ : Loc) : KE := fun x H => ∃ xs, pItems x = some xs ∧ xs.length ≤ 1000000 ∧ mapW (fun y Q H => ve Q [some y] H) xs (kasgl i Q ρ) H
noncomputable def kunp (is : List Nat) (Q : KS) (ρ : Loc) : KE := fun v H => onTup v fun vs => vs.length = is.length ∧ Q .next (setMany is vs ρ) H
noncomputable def kaug (i : Nat) (op : Operator) (o : PV) (Q : KS) (ρ : Loc) : KE := fun v H => match op with
  | .Add => addK o v fun r => Q .next (setL ρ i r) H
  | _ => False
@[irreducible] noncomputable def satB (T : Tab) (nm : Str) (l : Addr) (v : PV) (Q : AH → Prop) (H : AH) : Prop := ∃ c fs i, H l = some (.inst c fs) ∧ T.sat c nm = some i ∧ i < 1000 ∧ Q (H.upd l (.inst c (slotSet fs i v)))
noncomputable def ksat2 (nm : Str) (v : PV) (Q : KS) (ρ : Loc) : KE := fun x H => onRef x fun l => satB T nm l v (Q .next ρ) H
noncomputable def ksat (va : VE) (nm : Str) (Q : KS) (ρ : Loc) : KE := fun v H => va (ksat2 T nm v Q ρ) ρ H
noncomputable def kexp (Q : KS) (ρ : Loc) : KE := fun v H => v = .none ∧ Q .next ρ H
noncomputable def kif (va vb : VS) (Q : KS) (ρ : Loc) : KT := fun c H => tst c (va Q ρ H) (vb Q ρ H)
noncomputable def kwhb (I : Nat → Loc → AH → Prop) (n : Nat) (Q : KS) : KS := fun f ρ H => match f with
  | .next => ∃ m, m < n ∧ I m ρ H
  | .cont => ∃ m, m < n ∧ I m ρ H
  | .brk => Q .next ρ H
  | .ret v => Q (.ret v) ρ H
noncomputable def kwh (vb ve : VS) (I : Nat → Loc → AH → Prop) (n : Nat) (Q : KS) (ρ : Loc) : KT := fun c H => tst c (vb (kwhb I n Q) ρ H) (ve Q ρ H)
@[irreducible] noncomputable def whB (vt : VT) (vb ve : VS) (Q : KS) (ρ : Loc) (H : AH) : Prop := ∃ (I : Nat → Loc → AH → Prop) (n : Nat), I n ρ H ∧ ∀ n ρ H, I n ρ H → vt (kwh vb ve I n Q ρ) ρ H
noncomputable def kforb (I : List PV → Loc → AH → Prop) (r : List PV) (Q : KS) : KS := fun f ρ H => match f with
  | .next => I r ρ H
  | .cont => I r ρ H
  | .brk => Q .next ρ H
  | .ret v => Q (.ret v) ρ H
@[irreducible] noncomputable def forB (i : Nat) (xs : List PV) (vb : VS) (Q : KS) (ρ : Loc) (H : AH) : Prop := ∃ I : List PV → Loc → AH → Prop, I xs ρ H ∧ (∀ x r ρ H, I (x :: r) ρ H → vb (kforb I r Q) (setL ρ i x) H) ∧ ∀ ρ H, I [] ρ H → Q .next ρ H
noncomputable def kfor (i : Nat) (vb : VS) (Q : KS) (ρ : Loc) : KE := fun x H => match pItems x with
  | some xs => forB i xs vb Q ρ H
  | none => False
noncomputable def kret (Q : KS) (ρ : Loc) : KE := fun v H => Q (.ret v) ρ H
noncomputable def kasr (Q : KS) (ρ : Loc) : KT := fun c H => c.p ∧ Q .next ρ H
mutual
noncomputable def vcS : MS → KS → Loc → AH → Prop
  | .asg i e => fun Q ρ H => vcE B T d e (kasg i Q ρ) ρ H
  | .asg2 i j e => fun Q ρ H => vcE B T d e (kasg2 i j Q ρ) ρ H
  | .asgc i _ elt iter => fun Q ρ H => vcE B T d iter (kasgc i (vcE B T d elt) Q ρ) ρ H
  | .unp is e => fun Q ρ H => vcE B T d e (kunp is Q ρ) ρ H
  | .aug i op e => fun Q ρ H => match getL ρ i with
    | some o => vcE B T d e (kaug i op o Q ρ) ρ H
    | none => False
  | .setattr a nm e => fun Q ρ H => vcE B T d e (ksat T (vcE B T d a) nm Q ρ) ρ H
  | .expr e => fun Q ρ H => vcE B T d e (kexp Q ρ) ρ H
  | .ite t a b => fun Q ρ H => vcT B T d t (kif (vcSs a) (vcSs b) Q ρ) ρ H
  | .wh t b oe => fun Q ρ H => whB (vcT B T d t) (vcSs b) (vcSs oe) Q ρ H
  | .for1 i iter b => fun Q ρ H => vcE B T d iter (kfor i (vcSs b) Q ρ) ρ H
  | .ret e => fun Q ρ H => vcE B T d e (kret Q ρ) ρ H
  | .brk => fun Q ρ H => Q .brk ρ H
  | .cont => fun Q ρ H => Q .cont ρ H
  | .pass => fun Q ρ H => Q .next ρ H
  | .try1 b => fun Q ρ H => vcSs b Q ρ H
  | .asrt t => fun Q ρ H => vcT B T d t (kasr Q ρ) ρ H
  | .bad => fun xx xx xx => False
noncomputable def vcSs : List MS → KS → Loc → AH → Prop
  | [] => fun Q ρ H => Q .next ρ H
  | st :: r => fun Q ρ H => vcS st (kseq (vcSs r) Q) ρ H
end
end
end Mine
end

section
set_option tactic.hygienic false
set_option backward.match.sparseCases false
set_option genInjectivity false
set_option genSizeOf false
namespace Mine
open PySem PySem.W PySem.Calls PyProof.Rows

theorem any_inv {α : Type} {o : Option α} {f : α → Bool} (h : o.any f = true) : ∃ x, f x = true := by
  cases o with
  | none => cases h
  | some x => exact ⟨x, h⟩
noncomputable def vConst (e : PySem.Expr) : Option {q : Const × Nat × Pos // e = PySem.Expr.Constant q.1 q.2.1 q.2.2} := match e with
  | .Constant a0 a1 a2 => some ⟨(a0, a1, a2), rfl⟩
  | _ => none
noncomputable def vName (e : PySem.Expr) : Option {q : Str × Pos // e = PySem.Expr.Name q.1 q.2} := match e with
  | .Name a0 a1 => some ⟨(a0, a1), rfl⟩
  | _ => none
noncomputable def vBin (e : PySem.Expr) : Option {q : Expr × Operator × Expr × Pos // e = PySem.Expr.BinOp q.1 q.2.1 q.2.2.1 q.2.2.2} := match e with
  | .BinOp a0 a1 a2 a3 => some ⟨(a0, a1, a2, a3), rfl⟩
  | _ => none
noncomputable def vUn (e : PySem.Expr) : Option {q : UnaryOp × Expr × Pos // e = PySem.Expr.UnaryOp q.1 q.2.1 q.2.2} := match e with
  | .UnaryOp a0 a1 a2 => some ⟨(a0, a1, a2), rfl⟩
  | _ => none
noncomputable def vBool (e : PySem.Expr) : Option {q : BoolOp × (List Expr) × Pos // e = PySem.Expr.BoolOp q.1 q.2.1 q.2.2} := match e with
  | .BoolOp a0 a1 a2 => some ⟨(a0, a1, a2), rfl⟩
  | _ => none
noncomputable def vCmp (e : PySem.Expr) : Option {q : Expr × (List CmpOp) × (List Expr) × Pos // e = PySem.Expr.Compare q.1 q.2.1 q.2.2.1 q.2.2.2} := match e with
  | .Compare a0 a1 a2 a3 => some ⟨(a0, a1, a2, a3), rfl⟩
  | _ => none
noncomputable def vIf (e : PySem.Expr) : Option {q : Expr × Expr × Expr × Pos // e = PySem.Expr.IfExp q.1 q.2.1 q.2.2.1 q.2.2.2} := match e with
  | .IfExp a0 a1 a2 a3 => some ⟨(a0, a1, a2, a3), rfl⟩
  | _ => none
noncomputable def vTup (e : PySem.Expr) : Option {q : (List Expr) × Nat × Pos // e = PySem.Expr.Tuple q.1 q.2.1 q.2.2} := match e with
  | .Tuple a0 a1 a2 => some ⟨(a0, a1, a2), rfl⟩
  | _ => none
noncomputable def vList (e : PySem.Expr) : Option {q : (List Expr) × Pos // e = PySem.Expr.List q.1 q.2} := match e with
  | .List a0 a1 => some ⟨(a0, a1), rfl⟩
  | _ => none
noncomputable def vDict (e : PySem.Expr) : Option {q : (List (Option Expr)) × (List Expr) × Pos // e = PySem.Expr.Dict q.1 q.2.1 q.2.2} := match e with
  | .Dict a0 a1 a2 => some ⟨(a0, a1, a2), rfl⟩
  | _ => none
noncomputable def vSub (e : PySem.Expr) : Option {q : Expr × Expr × Pos // e = PySem.Expr.Subscript q.1 q.2.1 q.2.2} := match e with
  | .Subscript a0 a1 a2 => some ⟨(a0, a1, a2), rfl⟩
  | _ => none
noncomputable def vSlc (e : PySem.Expr) : Option {q : (Option Expr) × (Option Expr) × (Option Expr) × Pos // e = PySem.Expr.Slice q.1 q.2.1 q.2.2.1 q.2.2.2} := match e with
  | .Slice a0 a1 a2 a3 => some ⟨(a0, a1, a2, a3), rfl⟩
  | _ => none
noncomputable def vAttr (e : PySem.Expr) : Option {q : Expr × Str × Pos // e = PySem.Expr.Attribute q.1 q.2.1 q.2.2} := match e with
  | .Attribute a0 a1 a2 => some ⟨(a0, a1, a2), rfl⟩
  | _ => none
noncomputable def vCall (e : PySem.Expr) : Option {q : Expr × (List Expr) × (List Keyword) × Pos // e = PySem.Expr.Call q.1 q.2.1 q.2.2.1 q.2.2.2} := match e with
  | .Call a0 a1 a2 a3 => some ⟨(a0, a1, a2, a3), rfl⟩
  | _ => none
noncomputable def vLC (e : PySem.Expr) : Option {q : Expr × (List Comprehension) × Scope × Pos // e = PySem.Expr.ListComp q.1 q.2.1 q.2.2.1 q.2.2.2} := match e with
  | .ListComp a0 a1 a2 a3 => some ⟨(a0, a1, a2, a3), rfl⟩
  | _ => none
noncomputable def vGE (e : PySem.Expr) : Option {q : Expr × (List Comprehension) × Scope × Pos // e = PySem.Expr.GeneratorExp q.1 q.2.1 q.2.2.1 q.2.2.2} := match e with
  | .GeneratorExp a0 a1 a2 a3 => some ⟨(a0, a1, a2, a3), rfl⟩
  | _ => none
noncomputable def vJS (e : PySem.Expr) : Option {q : (List Expr) × Pos // e = PySem.Expr.JoinedStr q.1 q.2} := match e with
  | .JoinedStr a0 a1 => some ⟨(a0, a1), rfl⟩
  | _ => none
noncomputable def vFV (e : PySem.Expr) : Option {q : Expr × Int × (Option Expr) × Pos // e = PySem.Expr.FormattedValue q.1 q.2.1 q.2.2.1 q.2.2.2} := match e with
  | .FormattedValue a0 a1 a2 a3 => some ⟨(a0, a1, a2, a3), rfl⟩
  | _ => none
noncomputable def sAssign (e : PySem.Stmt) : Option {q : (List Expr) × Expr × Pos // e = PySem.Stmt.Assign q.1 q.2.1 q.2.2} := match e with
  | .Assign a0 a1 a2 => some ⟨(a0, a1, a2), rfl⟩
  | _ => none
noncomputable def sAug (e : PySem.Stmt) : Option {q : Expr × Operator × Expr × Pos // e = PySem.Stmt.AugAssign q.1 q.2.1 q.2.2.1 q.2.2.2} := match e with
  | .AugAssign a0 a1 a2 a3 => some ⟨(a0, a1, a2, a3), rfl⟩
  | _ => none
noncomputable def sExpr (e : PySem.Stmt) : Option {q : Expr × Pos // e = PySem.Stmt.Expr q.1 q.2} := match e with
  | .Expr a0 a1 => some ⟨(a0, a1), rfl⟩
  | _ => none
noncomputable def sIf (e : PySem.Stmt) : Option {q : Expr × (List PySem.Stmt) × (List PySem.Stmt) × Pos // e = PySem.Stmt.If q.1 q.2.1 q.2.2.1 q.2.2.2} := match e with
  | .If a0 a1 a2 a3 => some ⟨(a0, a1, a2, a3), rfl⟩
  | _ => none
noncomputable def sWhile (e : PySem.Stmt) : Option {q : Expr × (List PySem.Stmt) × (List PySem.Stmt) × Pos // e = PySem.Stmt.While q.1 q.2.1 q.2.2.1 q.2.2.2} := match e with
  | .While a0 a1 a2 a3 => some ⟨(a0, a1, a2, a3), rfl⟩
  | _ => none
noncomputable def sFor (e : PySem.Stmt) : Option {q : Expr × Expr × (List PySem.Stmt) × (List PySem.Stmt) × Pos // e = PySem.Stmt.For q.1 q.2.1 q.2.2.1 q.2.2.2.1 q.2.2.2.2} := match e with
  | .For a0 a1 a2 a3 a4 => some ⟨(a0, a1, a2, a3, a4), rfl⟩
  | _ => none
noncomputable def sRet (e : PySem.Stmt) : Option {q : (Option Expr) × Pos // e = PySem.Stmt.Return q.1 q.2} := match e with
  | .Return a0 a1 => some ⟨(a0, a1), rfl⟩
  | _ => none
noncomputable def sBrk (e : PySem.Stmt) : Option {q : Pos // e = PySem.Stmt.Break q} := match e with
  | .Break a0 => some ⟨a0, rfl⟩
  | _ => none
noncomputable def sCont (e : PySem.Stmt) : Option {q : Pos // e = PySem.Stmt.Continue q} := match e with
  | .Continue a0 => some ⟨a0, rfl⟩
  | _ => none
noncomputable def sPass (e : PySem.Stmt) : Option {q : Pos // e = PySem.Stmt.Pass q} := match e with
  | .Pass a0 => some ⟨a0, rfl⟩
  | _ => none
noncomputable def sTry (e : PySem.Stmt) : Option {q : (List PySem.Stmt) × (List ExceptHandler) × (List PySem.Stmt) × (List PySem.Stmt) × Pos // e = PySem.Stmt.Try q.1 q.2.1 q.2.2.1 q.2.2.2.1 q.2.2.2.2} := match e with
  | .Try a0 a1 a2 a3 a4 => some ⟨(a0, a1, a2, a3, a4), rfl⟩
  | _ => none
noncomputable def sAssert (e : PySem.Stmt) : Option {q : Expr × (Option Expr) × Pos // e = PySem.Stmt.Assert q.1 q.2.1 q.2.2} := match e with
  | .Assert a0 a1 a2 => some ⟨(a0, a1, a2), rfl⟩
  | _ => none
noncomputable def v1 {α : Type} (l : List α) : Option {x : α // l = [x]} := match l with
  | [x] => some ⟨x, rfl⟩
  | _ => none
noncomputable def v2 {α : Type} (l : List α) : Option {x : α × α // l = [x.1, x.2]} := match l with
  | [x, y] => some ⟨(x, y), rfl⟩
  | _ => none
noncomputable def vS {α : Type} (l : Option α) : Option {x : α // l = some x} := match l with
  | some x => some ⟨x, rfl⟩
  | _ => none
noncomputable def vStr (c : Const) : Option {s : Str // c = .str s} := match c with
  | .str s => some ⟨s, rfl⟩
  | _ => none
noncomputable def vGen (g : List Comprehension) : Option {q : Expr × Expr // g = [⟨q.1, q.2, [], 0⟩]} := match g with
  | [⟨t, it, [], 0⟩] => some ⟨(t, it), rfl⟩
  | _ => none
noncomputable def nil {α : Type} : List α → Bool
  | [] => true
  | _ => false
theorem nil_inv {α : Type} {l : List α} (h : nil l = true) : l = [] := by cases l <;> first | rfl | cases h
noncomputable def star1 : Expr → Bool
  | .Starred .. => true
  | _ => false
noncomputable def isSlc : Expr → Bool
  | .Slice .. => true
  | _ => false
noncomputable def isSet : Expr → Bool
  | .Set .. => true
  | _ => false
noncomputable def isComp : Expr → Bool
  | .ListComp .. | .SetComp .. | .DictComp .. => true
  | _ => false
noncomputable def isTup : Expr → Bool
  | .Tuple .. => true
  | _ => false
noncomputable def plainBase (e : Expr) : Bool := (vName e).isSome || (vConst e).isSome
noncomputable def callBase (e : Expr) : Bool := (vName e).isSome || (vCall e).any fun q => (vAttr q.1.1).isSome
end Mine
end

section
set_option tactic.hygienic false
set_option backward.match.sparseCases false
set_option genInjectivity false
set_option genSizeOf false
namespace Mine
open PySem PySem.W PySem.Calls PyProof.Rows

noncomputable def glb (sc : Scope) (x : Str) : Bool := sc.names.lookup x == some .globalImplicit && !(x == ("__debug__" : Str)) && !(x == ("super" : Str))
noncomputable def locOk (vars : List Str) (i : Nat) (id : Str) : Bool := vars[i]? == some id
noncomputable def targets (vars : List Str) : List Nat → List Expr → Bool
  | [], ts => nil ts
  | i :: is, ts => match ts with
    | [] => false
    | t :: r => ((vName t).any fun q => locOk vars i q.1.1) && targets vars is r
noncomputable def compOk (csc : Scope) (x : Str) : Bool :=
  csc.names.all (fun y => y.2 != .free && y.2 != .cell) && csc.kind == .function && csc.names.all (fun y => y.2 != .local || csc.names.lookup y.1 == some .local) && csc.names.lookup x == some .local && x != (".0" : Str) && !(x == ("__debug__" : Str))
noncomputable def isSome0 {α : Type} : Option α → Bool
  | none => true
  | some _ => false
noncomputable def chkKs : List (List Nat) → List (Option Expr) → Bool
  | [], es => nil es
  | k :: ks, es => match es with
    | [] => false
    | e :: es => ((vS e).any fun q => (vConst q.1).any fun c => (vStr c.1.1).any fun s => k == s.1.cps.toList) && chkKs ks es

mutual
noncomputable def chkE : ME → Scope → List Str → Expr → Bool
  | .const v => fun xx xx e => (vConst e).any fun q => cPV v q.1.1
  | .var i => fun xx vars e => (vName e).any fun q => locOk vars i q.1.1
  | .glob nm _ => fun sc xx e => (vName e).any fun q => q.1.1 == nm && glb sc nm
  | .bin op a b => fun sc vars e => (vBin e).any fun q => q.1.2.1 == op && chkE a sc vars q.1.1 && chkE b sc vars q.1.2.2.1
  | .neg a => fun sc vars e => (vUn e).any fun q => (match q.1.1 with | .USub => true | _ => false) && chkE a sc vars q.1.2.1
  | .nt a => fun sc vars e => (vUn e).any fun q => (match q.1.1 with | .Not => true | _ => false) && chkE a sc vars q.1.2.1
  | .bop op es => fun sc vars e => (vBool e).any fun q => q.1.1 == op && chkEs es sc vars q.1.2.1
  | .cmp op a b => fun sc vars e => (vCmp e).any fun q => (v1 q.1.2.1).any fun o => (v1 q.1.2.2.1).any fun r => o.1 == op && chkE a sc vars q.1.1 && chkE b sc vars r.1 && !behindInMarks o.1 r.1
  | .cmp2 o1 o2 a b c => fun sc vars e => (vCmp e).any fun q => (v2 q.1.2.1).any fun o => (v2 q.1.2.2.1).any fun r => o.1.1 == o1 && o.1.2 == o2 && chkE a sc vars q.1.1 && chkE b sc vars r.1.1 && chkE c sc vars r.1.2 && !behindInMarks o.1.2 r.1.2
  | .ife t a b => fun sc vars e => (vIf e).any fun q => chkE t sc vars q.1.1 && chkE a sc vars q.1.2.1 && chkE b sc vars q.1.2.2.1
  | .tup es => fun sc vars e => (vTup e).any fun q => chkEs es sc vars q.1.1 && decide (es.length ≤ 1000)
  | .lst es => fun sc vars e => (vList e).any fun q => chkEs es sc vars q.1.1 && decide (es.length ≤ 1000)
  | .mlst es => fun sc vars e => (vList e).any fun q => chkEs es sc vars q.1.1 && decide (es.length ≤ 1000)
  | .dct ks es => fun sc vars e => (vDict e).any fun q => chkKs ks q.1.1 && chkEs es sc vars q.1.2.1 && decide (ks.length = es.length)
  | .idx a b => fun sc vars e => (vSub e).any fun q => chkE a sc vars q.1.1 && chkE b sc vars q.1.2.1 && !isSlc q.1.2.1
  | .slc a lo hi => fun sc vars e => (vSub e).any fun q => (vSlc q.1.2.1).any fun s => isSome0 s.1.2.2.1 && chkE a sc vars q.1.1 && chkO lo sc vars s.1.1 && chkO hi sc vars s.1.2.1
  | .attr a nm => fun sc vars e => (vAttr e).any fun q => (vName q.1.1).isSome && q.1.2.1 == nm && chkE a sc vars q.1.1
  | .call nm es => fun sc vars e => (vCall e).any fun q => (vName q.1.1).any fun n => nil q.1.2.2.1 && n.1.1 == nm && glb sc nm && chkEs es sc vars q.1.2.1
  | .scall c nm es => fun sc vars e => (vCall e).any fun q => (vAttr q.1.1).any fun a => (vName a.1.1).any fun n => nil q.1.2.2.1 && n.1.1 == c && a.1.2.1 == nm && glb sc c && chkEs es sc vars q.1.2.1 && a.1.2.2.endLine == q.1.2.2.2.line && decide (q.1.2.1.length < 25)
  | .bi f es => fun sc vars e => (vCall e).any fun q => (vName q.1.1).any fun n => nil q.1.2.2.1 && n.1.1 == f.name && glb sc f.name && chkEs es sc vars q.1.2.1
  | .repl a p r => fun sc vars e => (vCall e).any fun q => (vAttr q.1.1).any fun o => (v2 q.1.2.1).any fun w => (vConst w.1.1).any fun c1 => (vConst w.1.2).any fun c2 => (vStr c1.1.1).any fun x => (vStr c2.1.1).any fun y =>
      nil q.1.2.2.1 && o.1.2.1 == ("replace" : Str) && callBase o.1.1 && chkE a sc vars o.1.1 && x.1.cps.toList == p && y.1.cps.toList == [r] && decide (r < 1114112) && o.1.2.2.endLine == q.1.2.2.2.line
  | .meth f a es => fun sc vars e => (vCall e).any fun q => (vAttr q.1.1).any fun o => nil q.1.2.2.1 && o.1.2.1 == f.name && plainBase o.1.1 && chkE a sc vars o.1.1 && chkEs es sc vars q.1.2.1 && o.1.2.2.endLine == q.1.2.2.2.line && decide (q.1.2.1.length < 25)
  | .app a b => fun sc vars e => (vCall e).any fun q => (vAttr q.1.1).any fun o => (v1 q.1.2.1).any fun x => nil q.1.2.2.1 && o.1.2.1 == ("append" : Str) && plainBase o.1.1 && chkE a sc vars o.1.1 && chkE b sc vars x.1 && o.1.2.2.endLine == q.1.2.2.2.line && !star1 x.1
  | .pop _ => fun xx xx xx => true
  | .frz a => fun sc vars e => chkE a sc vars e
  | .comp x elt iter => fun sc vars e => (vLC e).any fun q => (vGen q.1.2.1).any fun g => (vName g.1.1).any fun n => n.1.1 == x && chkE iter sc vars g.1.2 && chkE elt q.1.2.2.1 [x] q.1.1 && compOk q.1.2.2.1 x && !isSet g.1.2
  | .ecomp x y elt iter => fun sc vars e => (vLC e).any fun q => (vGen q.1.2.1).any fun g => (vTup g.1.1).any fun t => (v2 t.1.1).any fun n => (vName n.1.1).any fun n1 => (vName n.1.2).any fun n2 => (vCall g.1.2).any fun c => (vName c.1.1).any fun en => (v1 c.1.2.1).any fun it =>
      nil c.1.2.2.1 && n1.1.1 == x && n2.1.1 == y && en.1.1 == ("enumerate" : Str) && glb sc "enumerate" && !star1 it.1 && chkE iter sc vars it.1 && chkE elt q.1.2.2.1 [x, y] q.1.1 && compOk q.1.2.2.1 x && compOk q.1.2.2.1 y && x != y
  | .genjoin .. => fun xx xx xx => true
  | .fstr es => fun sc vars e => (vJS e).any fun q => chkF es sc vars q.1.1 && decide (2 ≤ q.1.1.length)
  | .bad => fun xx xx xx => true
noncomputable def chkEs : List ME → Scope → List Str → List Expr → Bool
  | [] => fun xx xx es => nil es
  | m :: ms => fun sc vars es => match es with
    | [] => false
    | e :: es => chkE m sc vars e && chkEs ms sc vars es && !star1 e
noncomputable def chkO : Option ME → Scope → List Str → Option Expr → Bool
  | none => fun xx xx e => isSome0 e
  | some m => fun sc vars e => (vS e).any fun q => chkE m sc vars q.1
noncomputable def chkF : List (Option (List Nat) × Option ME) → Scope → List Str → List Expr → Bool
  | [] => fun xx xx es => nil es
  | (some s, _) :: r => fun sc vars es => match es with
    | [] => false
    | e :: es => ((vConst e).any fun q => (vStr q.1.1).any fun x => s == x.1.cps.toList && s.all (· < 0x110000) && decide (s.length ≤ 1000)) && chkF r sc vars es
  | (none, some m) :: r => fun sc vars es => match es with
    | [] => false
    | e :: es => ((vFV e).any fun q => q.1.2.1 == -1 && isSome0 q.1.2.2.1 && chkE m sc vars q.1.1) && chkF r sc vars es
  | (none, none) :: _ => fun xx xx xx => true
end
mutual
noncomputable def chkS : MS → Scope → List Str → Stmt → Bool
  | .asg i m => fun sc vars st => (sAssign st).any fun q => (v1 q.1.1).any fun t => (vName t.1).any fun n => locOk vars i n.1.1 && chkE m sc vars q.1.2.1 && !isComp q.1.2.1
  | .asg2 i j m => fun sc vars st => (sAssign st).any fun q => (v2 q.1.1).any fun t => (vName t.1.1).any fun n => (vName t.1.2).any fun n' => locOk vars i n.1.1 && locOk vars j n'.1.1 && chkE m sc vars q.1.2.1 && !isComp q.1.2.1
  | .asgc i x elt iter => fun sc vars st => (sAssign st).any fun q => (v1 q.1.1).any fun t => (vName t.1).any fun n => (vLC q.1.2.1).any fun l => (vGen l.1.2.1).any fun g => (vName g.1.1).any fun c =>
      locOk vars i n.1.1 && c.1.1 == x && chkE iter sc vars g.1.2 && chkE elt l.1.2.2.1 [x] l.1.1 && compOk l.1.2.2.1 x && !isSet g.1.2 && n.1.2.line == l.1.2.2.2.line && !l.1.2.2.1.names.any (fun y => y.1 == n.1.1 && (y.2 == .local || y.2 == .cell))
  | .unp is m => fun sc vars st => (sAssign st).any fun q => (v1 q.1.1).any fun t => (vTup t.1).any fun n => targets vars is n.1.1 && chkE m sc vars q.1.2.1 && !isComp q.1.2.1 && !isTup q.1.2.1 && decide (2 ≤ is.length)
  | .aug i op m => fun sc vars st => (sAug st).any fun q => (vName q.1.1).any fun n => locOk vars i n.1.1 && q.1.2.1 == op && chkE m sc vars q.1.2.2.1
  | .setattr a nm m => fun sc vars st => (sAssign st).any fun q => (v1 q.1.1).any fun t => (vAttr t.1).any fun n => (vName n.1.1).isSome && n.1.2.1 == nm && chkE a sc vars n.1.1 && chkE m sc vars q.1.2.1 && !isComp q.1.2.1
  | .expr m => fun sc vars st => (sExpr st).any fun q => chkE m sc vars q.1.1 && !isComp q.1.1
  | .ite t a b => fun sc vars st => (sIf st).any fun q => chkE t sc vars q.1.1 && chkSs a sc vars q.1.2.1 && chkSs b sc vars q.1.2.2.1
  | .wh t a b => fun sc vars st => (sWhile st).any fun q => chkE t sc vars q.1.1 && chkSs a sc vars q.1.2.1 && chkSs b sc vars q.1.2.2.1
  | .for1 i m b => fun sc vars st => (sFor st).any fun q => (vName q.1.1).any fun n => nil q.1.2.2.2.1 && locOk vars i n.1.1 && chkE m sc vars q.1.2.1 && chkSs b sc vars q.1.2.2.1 && !isSet q.1.2.1
  | .ret m => fun sc vars st => (sRet st).any fun q => (vS q.1.1).any fun e => chkE m sc vars e.1
  | .brk => fun xx xx st => (sBrk st).isSome
  | .cont => fun xx xx st => (sCont st).isSome
  | .pass => fun xx xx st => (sPass st).isSome
  | .try1 b => fun sc vars st => (sTry st).any fun q => !nil q.1.2.1 && nil q.1.2.2.1 && nil q.1.2.2.2.1 && chkSs b sc vars q.1.1
  | .asrt t => fun sc vars st => (sAssert st).any fun q => isSome0 q.1.2.1 && chkE t sc vars q.1.1
  | .bad => fun xx xx xx => true
noncomputable def chkSs : List MS → Scope → List Str → List Stmt → Bool
  | [] => fun xx xx es => nil es
  | m :: ms => fun sc vars es => match es with
    | [] => false
    | e :: es => chkS m sc vars e && chkSs ms sc vars es
end
end Mine
end

section
set_option tactic.hygienic false
set_option maxRecDepth 100000
set_option genInjectivity false
set_option genSizeOf false
namespace Mine
open PySem PySem.W PySem.Calls PyProof.Rows PySem.Builtin PySem.Builtin.Str PySem.NumText
set_option genCtorIdx false in
inductive GE where
  | arg
  | str (s : List Nat)
  | ifeq (s : List Nat) (a b : GE)
  | get (nm : Str) (ks vs : List (List Nat))
noncomputable def assocS (k : List Nat) : List (List Nat) → List (List Nat) → Option (List Nat)
  | a :: ks, v :: vs => if a = k then some v else assocS k ks vs
  | _, _ => none
theorem assocS_P (k : List Nat) : ∀ (ks vs : List (List Nat)), assocP k ks (vs.map .str) = (assocS k ks vs).map .str
  | [], [] => rfl
  | [], _ :: _ => rfl
  | _ :: _, [] => rfl
  | a :: ks, v :: vs => by
    simp only [List.map_cons, assocP, assocS]
    split
    · rfl
    · exact assocS_P k ks vs
noncomputable def GE.val : GE → Nat → List Nat
  | .arg, c => [c]
  | .str s, _ => s
  | .ifeq s a b, c => if [c] = s then a.val c else b.val c
  | .get _ ks vs, c => (assocS [c] ks vs).getD [c]
noncomputable def GE.ok (B : Base) : GE → Prop
  | .ifeq _ a b => a.ok B ∧ b.ok B
  | .get nm ks vs => ∃ x, B.mg nm = some x ∧ Rep B B.heap.get? (.dct ks (vs.map .str)) x
  | _ => True
theorem cmp_eq {l l' : Expr} {os os' : List CmpOp} {rs rs' : List Expr} {p : Pos} (h1 : l = l') (h2 : os = os') (h3 : rs = rs') : Expr.Compare l os rs p = Expr.Compare l' os' rs' p := by rw [h1, h2, h3]
theorem attr_eq {l l' : Expr} {n n' : Str} {p : Pos} (h1 : l = l') (h2 : n = n') : Expr.Attribute l n p = Expr.Attribute l' n' p := by rw [h1, h2]
theorem call_eq {f f' : Expr} {as as' : List Expr} {ks ks' : List Keyword} {p : Pos} (h1 : f = f') (h2 : as = as') (h3 : ks = ks') : Expr.Call f as ks p = Expr.Call f' as' ks' p := by rw [h1, h2, h3]
theorem two_eq {α : Type} {a a' b b' : α} (h1 : a = a') (h2 : b = b') : [a, b] = [a', b'] := by rw [h1, h2]
theorem gen_eq {a a' b b' : Expr} (h1 : a = a') (h2 : b = b') : [Comprehension.mk a b [] 0] = [⟨a', b', [], 0⟩] := by rw [h1, h2]
noncomputable def vIfG (e : Expr) : Option { q : (Str × Pos × CmpOp × Const) × (Nat × Pos × Pos) × Expr × Expr × Pos // e = .IfExp (.Compare (.Name q.1.1 q.1.2.1) [q.1.2.2.1] [.Constant q.1.2.2.2 q.2.1.1 q.2.1.2.1] q.2.1.2.2) q.2.2.1 q.2.2.2.1 q.2.2.2.2 } :=
  (vIf e).bind fun q => (vCmp q.1.1).bind fun w => (vName w.1.1).bind fun i => (v1 w.1.2.1).bind fun o => (v1 w.1.2.2.1).bind fun r => (vConst r.1).bind fun k =>
    some ⟨((i.1.1, i.1.2, o.1, k.1.1), (k.1.2.1, k.1.2.2, w.1.2.2.2), q.1.2.1, q.1.2.2.1, q.1.2.2.2), q.2.trans (congrArg (fun y => Expr.IfExp y _ _ _) (w.2.trans (cmp_eq i.2 o.2 (r.2.trans (congrArg (fun z => [z]) k.2)))))⟩
noncomputable def vGetG (e : Expr) : Option { q : (Str × Pos × Str × Pos) × (Str × Pos) × (Str × Pos) × List Keyword × Pos // e = .Call (.Attribute (.Name q.1.1 q.1.2.1) q.1.2.2.1 q.1.2.2.2) [.Name q.2.1.1 q.2.1.2, .Name q.2.2.1.1 q.2.2.1.2] q.2.2.2.1 q.2.2.2.2 } :=
  (vCall e).bind fun q => (vAttr q.1.1).bind fun o => (vName o.1.1).bind fun n => (v2 q.1.2.1).bind fun w => (vName w.1.1).bind fun a => (vName w.1.2).bind fun b =>
    some ⟨((n.1.1, n.1.2, o.1.2.1, o.1.2.2), a.1, b.1, q.1.2.2.1, q.1.2.2.2), q.2.trans (call_eq (o.2.trans (attr_eq n.2 rfl)) (w.2.trans (two_eq a.2 b.2)) rfl)⟩
noncomputable def chkG (sc : Scope) (x : Str) : GE → Expr → Bool
  | .arg => fun e => (vName e).any fun q => q.1.1 == x
  | .str s => fun e => (vConst e).any fun q => cPV (.str s) q.1.1
  | .ifeq s a b => fun e => (vIfG e).any fun q => q.1.1.1 == x && q.1.1.2.2.1 == .Eq && cPV (.str s) q.1.1.2.2.2 && chkG sc x a q.1.2.2.1 && chkG sc x b q.1.2.2.2.1
  | .get nm _ _ => fun e => (vGetG e).any fun q => nil q.1.2.2.2.1 && q.1.1.1 == nm && q.1.1.2.2.1 == ("get" : Str) && q.1.2.1.1 == x && q.1.2.2.1.1 == x && glb sc nm && q.1.1.2.2.2.endLine == q.1.2.2.2.2.line

noncomputable def vJoin (body : List Stmt) : Option { q : (Str × Nat × Pos × Str × Pos) × (Expr × Str × Pos × Str × Pos × Scope × Pos) × List Keyword × Pos × Pos //
    body = [.Return (some (.Call (.Attribute (.Constant (.str q.1.1) q.1.2.1 q.1.2.2.1) q.1.2.2.2.1 q.1.2.2.2.2) [.GeneratorExp q.2.1.1 [⟨.Name q.2.1.2.1 q.2.1.2.2.1, .Name q.2.1.2.2.2.1 q.2.1.2.2.2.2.1, [], 0⟩] q.2.1.2.2.2.2.2.1 q.2.1.2.2.2.2.2.2] q.2.2.1 q.2.2.2.1)) q.2.2.2.2] } :=
  (v1 body).bind fun st => (sRet st.1).bind fun r => (vS r.1.1).bind fun e => (vCall e.1).bind fun q => (vAttr q.1.1).bind fun o => (vConst o.1.1).bind fun c => (vStr c.1.1).bind fun sp =>
  (v1 q.1.2.1).bind fun ge => (vGE ge.1).bind fun l => (vGen l.1.2.1).bind fun g' => (vName g'.1.1).bind fun n => (vName g'.1.2).bind fun w =>
  some ⟨((sp.1, c.1.2.1, c.1.2.2, o.1.2.1, o.1.2.2), (l.1.1, n.1.1, n.1.2, w.1.1, w.1.2, l.1.2.2.1, l.1.2.2.2), q.1.2.2.1, q.1.2.2.2, r.1.2),
    st.2.trans (congrArg (fun z => [z]) (r.2.trans (congrArg (Stmt.Return · _) (e.2.trans (congrArg some (q.2.trans (call_eq (o.2.trans (attr_eq (c.2.trans (congrArg (fun z => Expr.Constant z _ _) sp.2)) rfl))
      (ge.2.trans (congrArg (fun z => [z]) (l.2.trans (congrArg (fun z => Expr.GeneratorExp _ z _ _) (g'.2.trans (gen_eq n.2 w.2)))))) rfl)))))))⟩
noncomputable def joinChk (g : GE) (vn : Str) (body : List Stmt) : Bool := (vJoin body).any fun q =>
  (nil q.1.2.2.1 && q.1.1.1 == sOf [] && q.1.1.2.2.2.1 == ("join" : Str) && q.1.2.1.2.2.2.1 == vn && q.1.1.2.2.2.2.endLine == q.1.2.2.2.1.line) &&
  (chkG q.1.2.1.2.2.2.2.2.1 q.1.2.1.2.1 g q.1.2.1.1 && compOk q.1.2.1.2.2.2.2.2.1 q.1.2.1.2.1 && !q.1.2.1.2.2.2.2.2.1.isCoroutine && q.1.2.1.2.2.2.2.2.1.names.lookup (".0" : Str) == some NameKind.local)
end Mine
end

section
set_option tactic.hygienic false
set_option maxRecDepth 100000
set_option backward.match.sparseCases false
set_option genInjectivity false
set_option genSizeOf false
namespace Mine
open PySem PySem.W

noncomputable def v_ascii_lower : List Str := ["text"]
noncomputable def p_ascii_lower : List Str := ["text"]
noncomputable def m_ascii_lower : List MS :=
 [.ret (.meth .join (.const (.str [])) [(.comp "c" (.ife (.cmp2 .LtE .LtE (.const (.str [65])) (.var 0) (.const (.str [90]))) (.bi .chr [(.bin .Add (.bi .ord [(.var 0)]) (.const (.int 32)))]) (.var 0)) (.var 0))])]
noncomputable def v_number_end : List Str := ["css", "pos", "end", "start", "plain", "power"]
noncomputable def p_number_end : List Str := ["css", "pos"]
noncomputable def w_number_end_1 : MS :=
 .wh (.cmp .In (.slc (.var 0) (some (.var 2)) (some (.bin .Add (.var 2) (.const (.int 1))))) (.glob "_DIGITS" (.tup [(.str [48]), (.str [49]), (.str [50]), (.str [51]), (.str [52]), (.str [53]), (.str [54]), (.str [55]), (.str [56]), (.str [57])]))) [.aug 2 .Add (.const (.int 1))] []
noncomputable def w_number_end_2 : MS :=
 .wh (.cmp .In (.slc (.var 0) (some (.var 2)) (some (.bin .Add (.var 2) (.const (.int 1))))) (.glob "_DIGITS" (.tup [(.str [48]), (.str [49]), (.str [50]), (.str [51]), (.str [52]), (.str [53]), (.str [54]), (.str [55]), (.str [56]), (.str [57])]))) [.aug 2 .Add (.const (.int 1))] []
noncomputable def w_number_end_3 : MS :=
 .wh (.cmp .In (.slc (.var 0) (some (.var 2)) (some (.bin .Add (.var 2) (.const (.int 1))))) (.glob "_DIGITS" (.tup [(.str [48]), (.str [49]), (.str [50]), (.str [51]), (.str [52]), (.str [53]), (.str [54]), (.str [55]), (.str [56]), (.str [57])]))) [.aug 2 .Add (.const (.int 1))] []
noncomputable def r_number_end_1 : List MS :=
 [.ite (.cmp .In (.slc (.var 0) (some (.var 5)) (some (.bin .Add (.var 5) (.const (.int 1))))) (.glob "_DIGITS" (.tup [(.str [48]), (.str [49]), (.str [50]), (.str [51]), (.str [52]), (.str [53]), (.str [54]), (.str [55]), (.str [56]), (.str [57])]))) [.asg 4 (.const (.bool false)),
 .asg 2 (.var 5),
 w_number_end_3] []]
noncomputable def r_number_end_2 : List MS :=
 [.ret (.tup [(.var 2), (.var 4)])]
noncomputable def r_number_end_3 : List MS :=
 (.ite (.cmp .In (.slc (.var 0) (some (.var 2)) (some (.bin .Add (.var 2) (.const (.int 1))))) (.tup [(.const (.str [101])), (.const (.str [69]))])) (.asg 5 (.bin .Add (.var 2) (.const (.int 1))) :: .ite (.cmp .In (.slc (.var 0) (some (.var 5)) (some (.bin .Add (.var 5) (.const (.int 1))))) (.tup [(.const (.str [45])), (.const (.str [43]))])) [.aug 5 .Add (.const (.int 1))] [] :: r_number_end_1) [] :: r_number_end_2)
noncomputable def r_number_end_4 : List MS :=
 (.asg 4 (.const (.bool true)) :: .ite (.bop .And [(.cmp .Eq (.slc (.var 0) (some (.var 2)) (some (.bin .Add (.var 2) (.const (.int 1))))) (.const (.str [46]))), (.cmp .In (.slc (.var 0) (some (.bin .Add (.var 2) (.const (.int 1)))) (some (.bin .Add (.var 2) (.const (.int 2))))) (.glob "_DIGITS" (.tup [(.str [48]), (.str [49]), (.str [50]), (.str [51]), (.str [52]), (.str [53]), (.str [54]), (.str [55]), (.str [56]), (.str [57])])))]) [.asg 4 (.const (.bool false)),
 .aug 2 .Add (.const (.int 2)),
 w_number_end_2] [.ite (.cmp .Eq (.var 2) (.var 3)) [.ret (.tup [(.const .none), (.const (.bool false))])] []] :: r_number_end_3)
noncomputable def r_number_end_5 : List MS :=
 (.asg 3 (.var 2) :: w_number_end_1 :: r_number_end_4)
noncomputable def m_number_end : List MS :=
 (.asg 2 (.var 1) :: .ite (.cmp .In (.slc (.var 0) (some (.var 2)) (some (.bin .Add (.var 2) (.const (.int 1))))) (.tup [(.const (.str [45])), (.const (.str [43]))])) [.aug 2 .Add (.const (.int 1))] [] :: r_number_end_5)
noncomputable def v_hex_end : List Str := ["css", "pos", "end"]
noncomputable def p_hex_end : List Str := ["css", "pos"]
noncomputable def w_hex_end_1 : MS :=
 .wh (.bop .And [(.cmp .Lt (.var 2) (.bin .Add (.var 1) (.const (.int 6)))), (.cmp .NotEq (.slc (.var 0) (some (.var 2)) (some (.bin .Add (.var 2) (.const (.int 1))))) (.const (.str []))), (.cmp .In (.idx (.var 0) (.var 2)) (.const (.str [48, 49, 50, 51, 52, 53, 54, 55, 56, 57, 97, 98, 99, 100, 101, 102, 65, 66, 67, 68, 69, 70])))]) [.aug 2 .Add (.const (.int 1))] []
noncomputable def r_hex_end_1 : List MS :=
 [.ret (.var 2)]
noncomputable def m_hex_end : List MS :=
 (.asg 2 (.var 1) :: w_hex_end_1 :: r_hex_end_1)
noncomputable def v_parse : List Str := ["css", "skip_comments", "length", "token_start_pos", "pos", "line", "last_newline", "root", "tokens", "end_char", "stack", "newline", "column", "c", "value", "start", "end", "is_url", "url_pos", "error", "repr", "error_key", "arguments", "plain", "repr_", "int_value", "unit", "is_identifier", "content"]
noncomputable def p_parse : List Str := ["css", "skip_comments"]
noncomputable def b_parse_1 : List MS :=
 [.aug 5 .Add (.bin .Add (.const (.int 1)) (.meth .count (.var 0) [(.const (.str [10])), (.var 3), (.var 11)])),
 .asg 6 (.var 11)]
noncomputable def w_parse_1 : MS :=
 .wh (.meth .startswith (.var 0) [(.tup [(.const (.str [32])), (.const (.str [10])), (.const (.str [9]))]), (.var 4)]) [.aug 4 .Add (.const (.int 1))] []
noncomputable def r_parse_1 : List MS :=
 [.asg 14 (.slc (.var 0) (some (.var 3)) (some (.var 4))),
 .expr (.app (.var 8) (.call "WhitespaceToken" [(.var 5), (.var 12), (.var 14)])),
 .cont]
noncomputable def b_parse_2 : List MS :=
 (.aug 4 .Add (.const (.int 1)) :: w_parse_1 :: r_parse_1)
noncomputable def b_parse_3 : List MS :=
 [.expr (.app (.var 8) (.call "LiteralToken" [(.var 5), (.var 12), (.const (.str [45, 45, 62]))])),
 .aug 4 .Add (.const (.int 3)),
 .cont]
noncomputable def b_parse_4 : List MS :=
 [.expr (.app (.var 8) (.call "IdentToken" [(.var 5), (.var 12), (.var 14)])),
 .cont]
noncomputable def b_parse_5 : List MS :=
 [.unp [14, 4] (.call "_consume_ident" [(.var 0), (.var 4)]),
 .ite (.nt (.meth .startswith (.var 0) [(.const (.str [40])), (.var 4)])) b_parse_4 [],
 .bad,
 .bad,
 .bad,
 .bad,
 .bad,
 .bad,
 .bad,
 .bad,
 .bad]
noncomputable def b_parse_6 : List MS :=
 [.ite (.call "_is_ident_start" [(.var 0), (.var 4)]) b_parse_5 []]
noncomputable def b_parse_7 : List MS :=
 [.ite (.meth .startswith (.var 0) [(.const (.str [45, 45, 62])), (.var 4)]) b_parse_3 b_parse_6]
noncomputable def b_parse_8 : List MS :=
 [.ite (.bop .And [(.cmp .In (.var 13) (.const (.str [85, 117]))), (.cmp .Lt (.bin .Add (.var 4) (.const (.int 2))) (.var 2)), (.cmp .Eq (.idx (.var 0) (.bin .Add (.var 4) (.const (.int 1)))) (.const (.str [43]))), (.cmp .In (.idx (.var 0) (.bin .Add (.var 4) (.const (.int 2)))) (.const (.str [48, 49, 50, 51, 52, 53, 54, 55, 56, 57, 97, 98, 99, 100, 101, 102, 65, 66, 67, 68, 69, 70, 63])))]) [.bad,
 .bad,
 .bad] b_parse_7]
noncomputable def b_parse_9 : List MS :=
 [.unp [26, 4] (.call "_consume_ident" [(.var 0), (.var 4)]),
 .expr (.app (.var 8) (.call "DimensionToken" [(.var 5), (.var 12), (.var 14), (.var 25), (.var 24), (.var 26)]))]
noncomputable def b_parse_10 : List MS :=
 [.aug 4 .Add (.const (.int 1)),
 .expr (.app (.var 8) (.call "PercentageToken" [(.var 5), (.var 12), (.var 14), (.var 25), (.var 24)]))]
noncomputable def b_parse_11 : List MS :=
 [.expr (.app (.var 8) (.call "NumberToken" [(.var 5), (.var 12), (.var 14), (.var 25), (.var 24)]))]
noncomputable def b_parse_12 : List MS :=
 [.ite (.meth .startswith (.var 0) [(.const (.str [37])), (.var 4)]) b_parse_10 b_parse_11]
noncomputable def b_parse_13 : List MS :=
 [.asg 4 (.var 16),
 .asg 24 (.slc (.var 0) (some (.var 3)) (some (.var 4))),
 .asg 14 (.var 24),
 .asg 25 (.ife (.var 23) (.bi .int [(.var 24)]) (.const .none)),
 .ite (.bop .And [(.cmp .Lt (.var 4) (.var 2)), (.call "_is_ident_start" [(.var 0), (.var 4)])]) b_parse_9 b_parse_12]
noncomputable def b_parse_14 : List MS :=
 [.unp [14, 4] (.call "_consume_ident" [(.var 0), (.var 4)]),
 .expr (.app (.var 8) (.call "AtKeywordToken" [(.var 5), (.var 12), (.var 14)]))]
noncomputable def b_parse_15 : List MS :=
 [.expr (.app (.var 8) (.call "LiteralToken" [(.var 5), (.var 12), (.const (.str [64]))]))]
noncomputable def b_parse_16 : List MS :=
 [.aug 4 .Add (.const (.int 1)),
 .ite (.bop .And [(.cmp .Lt (.var 4) (.var 2)), (.call "_is_ident_start" [(.var 0), (.var 4)])]) b_parse_14 b_parse_15]
noncomputable def b_parse_17 : List MS :=
 [.asg 27 (.call "_is_ident_start" [(.var 0), (.var 4)]),
 .unp [14, 4] (.call "_consume_ident" [(.var 0), (.var 4)]),
 .expr (.app (.var 8) (.call "HashToken" [(.var 5), (.var 12), (.var 14), (.var 27)]))]
noncomputable def b_parse_18 : List MS :=
 [.expr (.app (.var 8) (.call "LiteralToken" [(.var 5), (.var 12), (.const (.str [35]))]))]
noncomputable def b_parse_19 : List MS :=
 [.aug 4 .Add (.const (.int 1)),
 .ite (.bop .And [(.cmp .Lt (.var 4) (.var 2)), (.bop .Or [(.cmp .In (.idx (.var 0) (.var 4)) (.const (.str [48, 49, 50, 51, 52, 53, 54, 55, 56, 57, 97, 98, 99, 100, 101, 102, 103, 104, 105, 106, 107, 108, 109, 110, 111, 112, 113, 114, 115, 116, 117, 118, 119, 120, 121, 122, 45, 95, 65, 66, 67, 68, 69, 70, 71, 72, 73, 74, 75, 76, 77, 78, 79, 80, 81, 82, 83, 84, 85, 86, 87, 88, 89, 90]))), (.cmp .Gt (.bi .ord [(.idx (.var 0) (.var 4))]) (.const (.int 127))), (.bop .And [(.cmp .Eq (.idx (.var 0) (.var 4)) (.const (.str [92]))), (.nt (.meth .startswith (.var 0) [(.const (.str [92, 10])), (.var 4)]))])])]) b_parse_17 b_parse_18]
noncomputable def b_parse_20 : List MS :=
 [.asg 20 (.slc (.var 20) none (some (.neg (.const (.int 1)))))]
noncomputable def r_parse_2 : List MS :=
 [.expr (.app (.var 8) (.call "StringToken" [(.var 5), (.var 12), (.var 14), (.var 20)]))]
noncomputable def b_parse_21 : List MS :=
 (.asg 20 (.fstr [(some [34], none), (none, some (.call "serialize_string_value" [(.var 14)])), (some [34], none)]) :: .ite (.cmp .IsNot (.var 19) (.const .none)) b_parse_20 [] :: r_parse_2)
noncomputable def b_parse_22 : List MS :=
 [.expr (.app (.var 8) (.call "ParseError" [(.var 5), (.var 12), (.idx (.var 19) (.const (.int 0))), (.idx (.var 19) (.const (.int 1)))]))]
noncomputable def r_parse_3 : List MS :=
 [.ite (.cmp .IsNot (.var 19) (.const .none)) b_parse_22 []]
noncomputable def b_parse_23 : List MS :=
 (.unp [14, 4, 19] (.call "_consume_quoted_string" [(.var 0), (.var 4)]) :: .ite (.cmp .IsNot (.var 14) (.const .none)) b_parse_21 [] :: r_parse_3)
noncomputable def b_parse_24 : List MS :=
 [.expr (.app (.var 8) (.call "LiteralToken" [(.var 5), (.var 12), (.var 13)]))]
noncomputable def b_parse_25 : List MS :=
 [.aug 4 .Add (.const (.int 1)),
 .ite (.meth .startswith (.var 0) [(.const (.str [61])), (.var 4)]) [.bad,
 .bad] b_parse_24]
noncomputable def b_parse_26 : List MS :=
 [.expr (.app (.var 8) (.call "LiteralToken" [(.var 5), (.var 12), (.var 13)])),
 .aug 4 .Add (.const (.int 1))]
noncomputable def b_parse_27 : List MS :=
 [.ite (.cmp .In (.var 13) (.const (.str [126, 124, 94, 36, 42]))) b_parse_25 b_parse_26]
noncomputable def b_parse_28 : List MS :=
 [.ite (.meth .startswith (.var 0) [(.const (.str [124, 124])), (.var 4)]) [.bad,
 .bad] b_parse_27]
noncomputable def b_parse_29 : List MS :=
 [.ite (.meth .startswith (.var 0) [(.const (.str [60, 33, 45, 45])), (.var 4)]) [.bad,
 .bad] b_parse_28]
noncomputable def b_parse_30 : List MS :=
 [.ite (.meth .startswith (.var 0) [(.const (.str [47, 42])), (.var 4)]) [.bad,
 .bad,
 .bad,
 .bad] b_parse_29]
noncomputable def b_parse_31 : List MS :=
 [.ite (.cmp .In (.var 13) (.tup [(.const (.str [34])), (.const (.str [39]))])) b_parse_23 b_parse_30]
noncomputable def b_parse_32 : List MS :=
 [.ite (.cmp .In (.var 13) (.const (.str [125, 93, 41]))) [.bad,
 .bad] b_parse_31]
noncomputable def b_parse_33 : List MS :=
 [.ite (.cmp .Eq (.var 13) (.var 9)) [.bad,
 .bad] b_parse_32]
noncomputable def b_parse_34 : List MS :=
 [.ite (.cmp .Eq (.var 13) (.const (.str [40]))) [.bad,
 .bad,
 .bad,
 .bad,
 .bad,
 .bad] b_parse_33]
noncomputable def b_parse_35 : List MS :=
 [.ite (.cmp .Eq (.var 13) (.const (.str [91]))) [.bad,
 .bad,
 .bad,
 .bad,
 .bad,
 .bad] b_parse_34]
noncomputable def b_parse_36 : List MS :=
 [.ite (.cmp .Eq (.var 13) (.const (.str [123]))) [.bad,
 .bad,
 .bad,
 .bad,
 .bad,
 .bad] b_parse_35]
noncomputable def b_parse_37 : List MS :=
 [.ite (.cmp .Eq (.var 13) (.const (.str [35]))) b_parse_19 b_parse_36]
noncomputable def b_parse_38 : List MS :=
 [.ite (.cmp .Eq (.var 13) (.const (.str [64]))) b_parse_16 b_parse_37]
noncomputable def r_parse_4 : List MS :=
 [.unp [16, 23] (.call "_number_end" [(.var 0), (.var 4)]),
 .ite (.cmp .IsNot (.var 16) (.const .none)) b_parse_13 b_parse_38]
noncomputable def r_parse_5 : List MS :=
 (.asg 12 (.bin .Sub (.var 4) (.var 6)) :: .asg 3 (.var 4) :: .asg 13 (.idx (.var 0) (.var 4)) :: .ite (.cmp .In (.var 13) (.const (.str [32, 10, 9]))) b_parse_2 b_parse_8 :: r_parse_4)
noncomputable def w_parse_2 : MS :=
 .wh (.cmp .Lt (.var 4) (.var 2)) (.asg 11 (.meth .rfind (.var 0) [(.const (.str [10])), (.var 3), (.var 4)]) :: .ite (.cmp .NotEq (.var 11) (.neg (.const (.int 1)))) b_parse_1 [] :: r_parse_5) []
noncomputable def r_parse_6 : List MS :=
 [.ret (.frz (.var 7))]
noncomputable def m_parse : List MS :=
 (.asg 0 (.repl (.repl (.repl (.repl (.var 0) [0] 65533) [13, 10] 10) [13] 10) [12] 10) :: .asg 2 (.bi .len [(.var 0)]) :: .asg2 3 4 (.const (.int 0)) :: .asg 5 (.const (.int 1)) :: .asg 6 (.neg (.const (.int 1))) :: .asg2 7 8 (.mlst []) :: .asg 9 (.const .none) :: .asg 10 (.mlst []) :: w_parse_2 :: r_parse_6)
noncomputable def v_is_name_start : List Str := ["css", "pos", "c"]
noncomputable def p_is_name_start : List Str := ["css", "pos"]
noncomputable def m_is_name_start : List MS :=
 [.asg 2 (.idx (.var 0) (.var 1)),
 .ret (.bop .Or [(.cmp .In (.var 2) (.const (.str [97, 98, 99, 100, 101, 102, 103, 104, 105, 106, 107, 108, 109, 110, 111, 112, 113, 114, 115, 116, 117, 118, 119, 120, 121, 122, 65, 66, 67, 68, 69, 70, 71, 72, 73, 74, 75, 76, 77, 78, 79, 80, 81, 82, 83, 84, 85, 86, 87, 88, 89, 90, 95]))), (.cmp .Gt (.bi .ord [(.var 2)]) (.const (.int 127)))])]
noncomputable def v_is_ident_start : List Str := ["css", "pos"]
noncomputable def p_is_ident_start : List Str := ["css", "pos"]
noncomputable def r_is_ident_start_1 : List MS :=
 [.ret (.const (.bool false))]
noncomputable def m_is_ident_start : List MS :=
 (.ite (.call "_is_name_start" [(.var 0), (.var 1)]) [.ret (.const (.bool true))] [.ite (.cmp .Eq (.idx (.var 0) (.var 1)) (.const (.str [45]))) [.aug 1 .Add (.const (.int 1)),
 .ret (.bop .Or [(.bop .And [(.cmp .Lt (.var 1) (.bi .len [(.var 0)])), (.bop .Or [(.call "_is_name_start" [(.var 0), (.var 1)]), (.cmp .Eq (.idx (.var 0) (.var 1)) (.const (.str [45])))])]), (.bop .And [(.meth .startswith (.var 0) [(.const (.str [92])), (.var 1)]), (.nt (.meth .startswith (.var 0) [(.const (.str [92, 10])), (.var 1)]))])])] [.ite (.cmp .Eq (.idx (.var 0) (.var 1)) (.const (.str [92]))) [.ret (.nt (.meth .startswith (.var 0) [(.const (.str [92, 10])), (.var 1)]))] []]] :: r_is_ident_start_1)
noncomputable def v_consume_ident : List Str := ["css", "pos", "chunks", "length", "start_pos", "c"]
noncomputable def p_consume_ident : List Str := ["css", "pos"]
noncomputable def w_consume_ident_1 : MS :=
 .wh (.cmp .Lt (.var 1) (.var 3)) [.asg 5 (.idx (.var 0) (.var 1)),
 .ite (.bop .Or [(.cmp .In (.var 5) (.const (.str [97, 98, 99, 100, 101, 102, 103, 104, 105, 106, 107, 108, 109, 110, 111, 112, 113, 114, 115, 116, 117, 118, 119, 120, 121, 122, 45, 95, 48, 49, 50, 51, 52, 53, 54, 55, 56, 57, 65, 66, 67, 68, 69, 70, 71, 72, 73, 74, 75, 76, 77, 78, 79, 80, 81, 82, 83, 84, 85, 86, 87, 88, 89, 90]))), (.cmp .Gt (.bi .ord [(.var 5)]) (.const (.int 127)))]) [.aug 1 .Add (.const (.int 1))] [.ite (.bop .And [(.cmp .Eq (.var 5) (.const (.str [92]))), (.nt (.meth .startswith (.var 0) [(.const (.str [92, 10])), (.var 1)]))]) [.expr (.app (.var 2) (.slc (.var 0) (some (.var 4)) (some (.var 1)))),
 .unp [5, 1] (.call "_consume_escape" [(.var 0), (.bin .Add (.var 1) (.const (.int 1)))]),
 .expr (.app (.var 2) (.var 5)),
 .asg 4 (.var 1)] [.brk]]] []
noncomputable def r_consume_ident_1 : List MS :=
 [.expr (.app (.var 2) (.slc (.var 0) (some (.var 4)) (some (.var 1)))),
 .ret (.tup [(.meth .join (.const (.str [])) [(.frz (.var 2))]), (.var 1)])]
noncomputable def m_consume_ident : List MS :=
 (.asg 2 (.mlst []) :: .asg 3 (.bi .len [(.var 0)]) :: .asg 4 (.var 1) :: w_consume_ident_1 :: r_consume_ident_1)
noncomputable def v_consume_quoted_string : List Str := ["css", "pos", "error", "quote", "chunks", "length", "start_pos", "c"]
noncomputable def p_consume_quoted_string : List Str := ["css", "pos"]
noncomputable def r_consume_quoted_string_1 : List MS :=
 [.asg 6 (.var 1)]
noncomputable def w_consume_quoted_string_1 : MS :=
 .wh (.cmp .Lt (.var 1) (.var 5)) [.asg 7 (.idx (.var 0) (.var 1)),
 .ite (.cmp .Eq (.var 7) (.var 3)) [.expr (.app (.var 4) (.slc (.var 0) (some (.var 6)) (some (.var 1)))),
 .aug 1 .Add (.const (.int 1)),
 .brk] [.ite (.cmp .Eq (.var 7) (.const (.str [92]))) (.expr (.app (.var 4) (.slc (.var 0) (some (.var 6)) (some (.var 1)))) :: .aug 1 .Add (.const (.int 1)) :: .ite (.cmp .Lt (.var 1) (.var 5)) [.ite (.cmp .Eq (.idx (.var 0) (.var 1)) (.const (.str [10]))) [.aug 1 .Add (.const (.int 1))] [.unp [7, 1] (.call "_consume_escape" [(.var 0), (.var 1)]),
 .expr (.app (.var 4) (.var 7))]] [] :: r_consume_quoted_string_1) [.ite (.cmp .Eq (.var 7) (.const (.str [10]))) [.ret (.tup [(.const .none), (.var 1), (.tup [(.const (.str [98, 97, 100, 45, 115, 116, 114, 105, 110, 103])), (.const (.str [66, 97, 100, 32, 115, 116, 114, 105, 110, 103, 32, 116, 111, 107, 101, 110]))])])] [.aug 1 .Add (.const (.int 1))]]]] [.asg 2 (.tup [(.const (.str [101, 111, 102, 45, 105, 110, 45, 115, 116, 114, 105, 110, 103])), (.const (.str [69, 79, 70, 32, 105, 110, 32, 115, 116, 114, 105, 110, 103]))]),
 .expr (.app (.var 4) (.slc (.var 0) (some (.var 6)) (some (.var 1))))]
noncomputable def r_consume_quoted_string_2 : List MS :=
 [.ret (.tup [(.meth .join (.const (.str [])) [(.frz (.var 4))]), (.var 1), (.var 2)])]
noncomputable def m_consume_quoted_string : List MS :=
 (.asg 2 (.const .none) :: .asg 3 (.idx (.var 0) (.var 1)) :: .asrt (.cmp .In (.var 3) (.tup [(.const (.str [34])), (.const (.str [39]))])) :: .aug 1 .Add (.const (.int 1)) :: .asg 4 (.mlst []) :: .asg 5 (.bi .len [(.var 0)]) :: .asg 6 (.var 1) :: w_consume_quoted_string_1 :: r_consume_quoted_string_2)
noncomputable def v_consume_escape : List Str := ["css", "pos", "end", "codepoint"]
noncomputable def p_consume_escape : List Str := ["css", "pos"]
noncomputable def m_consume_escape : List MS :=
 [.asg 2 (.call "_hex_end" [(.var 0), (.var 1)]),
 .ite (.cmp .Gt (.var 2) (.var 1)) [.asg 3 (.bi .int [(.slc (.var 0) (some (.var 1)) (some (.var 2))), (.const (.int 16))]),
 .ret (.tup [(.ife (.cmp2 .Lt .LtE (.const (.int 0)) (.var 3) (.const (.int 1114111))) (.bi .chr [(.var 3)]) (.const (.str [65533]))), (.ife (.cmp .In (.slc (.var 0) (some (.var 2)) (some (.bin .Add (.var 2) (.const (.int 1))))) (.tup [(.const (.str [32])), (.const (.str [10])), (.const (.str [9]))])) (.bin .Add (.var 2) (.const (.int 1))) (.var 2))])] [.ite (.cmp .Lt (.var 1) (.bi .len [(.var 0)])) [.ret (.tup [(.idx (.var 0) (.var 1)), (.bin .Add (.var 1) (.const (.int 1)))])] [.ret (.tup [(.const (.str [65533])), (.var 1)])]]]
noncomputable def v_Node_init : List Str := ["self", "source_line", "source_column"]
noncomputable def p_Node_init : List Str := ["self", "source_line", "source_column"]
noncomputable def m_Node_init : List MS :=
 [.setattr (.var 0) "source_line" (.var 1),
 .setattr (.var 0) "source_column" (.var 2)]
noncomputable def v_ParseError_init : List Str := ["self", "line", "column", "kind", "message"]
noncomputable def p_ParseError_init : List Str := ["self", "line", "column", "kind", "message"]
noncomputable def m_ParseError_init : List MS :=
 [.expr (.scall "Node" "__init__" [(.var 0), (.var 1), (.var 2)]),
 .setattr (.var 0) "kind" (.var 3),
 .setattr (.var 0) "message" (.var 4)]
noncomputable def v_WhitespaceToken_init : List Str := ["self", "line", "column", "value"]
noncomputable def p_WhitespaceToken_init : List Str := ["self", "line", "column", "value"]
noncomputable def m_WhitespaceToken_init : List MS :=
 [.expr (.scall "Node" "__init__" [(.var 0), (.var 1), (.var 2)]),
 .setattr (.var 0) "value" (.var 3)]
noncomputable def v_LiteralToken_init : List Str := ["self", "line", "column", "value"]
noncomputable def p_LiteralToken_init : List Str := ["self", "line", "column", "value"]
noncomputable def m_LiteralToken_init : List MS :=
 [.expr (.scall "Node" "__init__" [(.var 0), (.var 1), (.var 2)]),
 .setattr (.var 0) "value" (.var 3)]
noncomputable def v_IdentToken_init : List Str := ["self", "line", "column", "value"]
noncomputable def p_IdentToken_init : List Str := ["self", "line", "column", "value"]
noncomputable def m_IdentToken_init : List MS :=
 [.expr (.scall "Node" "__init__" [(.var 0), (.var 1), (.var 2)]),
 .setattr (.var 0) "value" (.var 3),
 .try1 [.setattr (.var 0) "lower_value" (.call "ascii_lower" [(.var 3)])]]
noncomputable def v_AtKeywordToken_init : List Str := ["self", "line", "column", "value"]
noncomputable def p_AtKeywordToken_init : List Str := ["self", "line", "column", "value"]
noncomputable def m_AtKeywordToken_init : List MS :=
 [.expr (.scall "Node" "__init__" [(.var 0), (.var 1), (.var 2)]),
 .setattr (.var 0) "value" (.var 3),
 .try1 [.setattr (.var 0) "lower_value" (.call "ascii_lower" [(.var 3)])]]
noncomputable def v_HashToken_init : List Str := ["self", "line", "column", "value", "is_identifier"]
noncomputable def p_HashToken_init : List Str := ["self", "line", "column", "value", "is_identifier"]
noncomputable def m_HashToken_init : List MS :=
 [.expr (.scall "Node" "__init__" [(.var 0), (.var 1), (.var 2)]),
 .setattr (.var 0) "value" (.var 3),
 .setattr (.var 0) "is_identifier" (.var 4)]
noncomputable def v_StringToken_init : List Str := ["self", "line", "column", "value", "representation"]
noncomputable def p_StringToken_init : List Str := ["self", "line", "column", "value", "representation"]
noncomputable def m_StringToken_init : List MS :=
 [.expr (.scall "Node" "__init__" [(.var 0), (.var 1), (.var 2)]),
 .setattr (.var 0) "value" (.var 3),
 .setattr (.var 0) "representation" (.var 4)]
noncomputable def v_NumberToken_init : List Str := ["self", "line", "column", "value", "int_value", "representation"]
noncomputable def p_NumberToken_init : List Str := ["self", "line", "column", "value", "int_value", "representation"]
noncomputable def m_NumberToken_init : List MS :=
 [.expr (.scall "Node" "__init__" [(.var 0), (.var 1), (.var 2)]),
 .setattr (.var 0) "value" (.var 3),
 .setattr (.var 0) "int_value" (.var 4),
 .setattr (.var 0) "is_integer" (.cmp .IsNot (.var 4) (.const .none)),
 .setattr (.var 0) "representation" (.var 5)]
noncomputable def v_PercentageToken_init : List Str := ["self", "line", "column", "value", "int_value", "representation"]
noncomputable def p_PercentageToken_init : List Str := ["self", "line", "column", "value", "int_value", "representation"]
noncomputable def m_PercentageToken_init : List MS :=
 [.expr (.scall "Node" "__init__" [(.var 0), (.var 1), (.var 2)]),
 .setattr (.var 0) "value" (.var 3),
 .setattr (.var 0) "int_value" (.var 4),
 .setattr (.var 0) "is_integer" (.cmp .IsNot (.var 4) (.const .none)),
 .setattr (.var 0) "representation" (.var 5)]
noncomputable def v_DimensionToken_init : List Str := ["self", "line", "column", "value", "int_value", "representation", "unit"]
noncomputable def p_DimensionToken_init : List Str := ["self", "line", "column", "value", "int_value", "representation", "unit"]
noncomputable def m_DimensionToken_init : List MS :=
 [.expr (.scall "Node" "__init__" [(.var 0), (.var 1), (.var 2)]),
 .setattr (.var 0) "value" (.var 3),
 .setattr (.var 0) "int_value" (.var 4),
 .setattr (.var 0) "is_integer" (.cmp .IsNot (.var 4) (.const .none)),
 .setattr (.var 0) "representation" (.var 5),
 .setattr (.var 0) "unit" (.var 6),
 .try1 [.setattr (.var 0) "lower_unit" (.call "ascii_lower" [(.var 6)])]]
noncomputable def v_law_WORTH : List Str := []
noncomputable def p_law_WORTH : List Str := []
noncomputable def m_law_WORTH : List MS :=
 [.ret (.dct [[48], [49], [50], [51], [52], [53], [54], [55], [56], [57], [97], [98], [99], [100], [101], [102], [65], [66], [67], [68], [69], [70]] [(.const (.int 0)), (.const (.int 1)), (.const (.int 2)), (.const (.int 3)), (.const (.int 4)), (.const (.int 5)), (.const (.int 6)), (.const (.int 7)), (.const (.int 8)), (.const (.int 9)), (.const (.int 10)), (.const (.int 11)), (.const (.int 12)), (.const (.int 13)), (.const (.int 14)), (.const (.int 15)), (.const (.int 10)), (.const (.int 11)), (.const (.int 12)), (.const (.int 13)), (.const (.int 14)), (.const (.int 15))])]
noncomputable def v_law_BLANKS : List Str := []
noncomputable def p_law_BLANKS : List Str := []
noncomputable def m_law_BLANKS : List MS :=
 [.ret (.lst [(.const (.str [32])), (.const (.str [9])), (.const (.str [10]))])]
noncomputable def v_law_TAILS : List Str := []
noncomputable def p_law_TAILS : List Str := []
noncomputable def m_law_TAILS : List MS :=
 [.ret (.lst [(.const (.str [])), (.const (.str [32])), (.const (.str [32, 32])), (.const (.str [9])), (.const (.str [10])), (.const (.str [13, 10])), (.const (.str [12, 32])), (.const (.str [13]))])]
noncomputable def v_law_ENDS : List Str := []
noncomputable def p_law_ENDS : List Str := []
noncomputable def m_law_ENDS : List MS :=
 [.ret (.lst [(.const (.str [10])), (.const (.str [13, 10])), (.const (.str [13])), (.const (.str [12]))])]
noncomputable def v_law_LETTERS : List Str := []
noncomputable def p_law_LETTERS : List Str := []
noncomputable def m_law_LETTERS : List MS :=
 [.ret (.lst [(.const (.str [103])), (.const (.str [95])), (.const (.str [90])), (.const (.str [233])), (.const (.str [0])), (.const (.str [128512])), (.const (.str [128]))])]
noncomputable def v_law_NUMBERS : List Str := []
noncomputable def p_law_NUMBERS : List Str := []
noncomputable def m_law_NUMBERS : List MS :=
 [.ret (.lst [(.const (.str [49])), (.const (.str [45, 50])), (.const (.str [43, 46, 53])), (.const (.str [51, 101, 49])), (.const (.str [52, 101])), (.const (.str [55, 37])), (.const (.str [56, 46])), (.const (.str [48, 48]))])]
noncomputable def v_law_SIGNS : List Str := []
noncomputable def p_law_SIGNS : List Str := []
noncomputable def m_law_SIGNS : List MS :=
 [.ret (.lst [(.const (.str [44])), (.const (.str [62])), (.const (.str [127])), (.const (.str [1])), (.const (.str [126])), (.const (.str [37])), (.const (.str [46])), (.const (.str [43]))])]
noncomputable def v_law_hexed : List Str := ["number", "width", "table", "figures"]
noncomputable def p_law_hexed : List Str := ["number", "width", "table"]
noncomputable def w_law_hexed_1 : MS :=
 .wh (.bop .Or [(.var 0), (.cmp .Lt (.bi .len [(.var 3)]) (.var 1))]) [.asg 3 (.bin .Add (.idx (.var 2) (.bin .Mod (.var 0) (.const (.int 16)))) (.var 3)),
 .asg 0 (.bin .FloorDiv (.var 0) (.const (.int 16)))] []
noncomputable def r_law_hexed_1 : List MS :=
 [.ret (.var 3)]
noncomputable def m_law_hexed : List MS :=
 (.asg 3 (.const (.str [])) :: w_law_hexed_1 :: r_law_hexed_1)
noncomputable def v_law_piece : List Str := ["n", "kind", "m", "k", "number", "table"]
noncomputable def p_law_piece : List Str := ["n"]
noncomputable def b_law_piece_1 : List MS :=
 [.asg 3 (.bin .FloorDiv (.var 2) (.const (.int 4))),
 .asg 4 (.idx (.lst [(.bin .Mod (.var 3) (.const (.int 128))), (.bin .Add (.const (.int 55296)) (.bin .Mod (.var 3) (.const (.int 2048)))), (.bin .Add (.const (.int 1114112)) (.bin .Mod (.var 3) (.const (.int 15663104)))), (.bin .Mod (.var 3) (.const (.int 1114112)))]) (.bin .Mod (.var 2) (.const (.int 4)))),
 .asg 5 (.ife (.bin .Mod (.var 3) (.const (.int 3))) (.const (.str [48, 49, 50, 51, 52, 53, 54, 55, 56, 57, 97, 98, 99, 100, 101, 102])) (.const (.str [48, 49, 50, 51, 52, 53, 54, 55, 56, 57, 65, 66, 67, 68, 69, 70]))),
 .ret (.bin .Add (.bin .Add (.const (.str [92])) (.call "_law_hexed" [(.var 4), (.bin .Add (.const (.int 1)) (.bin .Mod (.var 3) (.const (.int 6)))), (.var 5)])) (.idx (.call "_law_TAILS" []) (.bin .Mod (.bin .Add (.var 3) (.bin .FloorDiv (.var 3) (.const (.int 128)))) (.const (.int 8)))))]
noncomputable def b_law_piece_2 : List MS :=
 [.ret (.const (.str [92]))]
noncomputable def b_law_piece_3 : List MS :=
 [.ret (.idx (.call "_law_ENDS" []) (.bin .Mod (.var 2) (.const (.int 4))))]
noncomputable def b_law_piece_4 : List MS :=
 [.ret (.ife (.bin .Mod (.var 2) (.const (.int 2))) (.const (.str [32])) (.const (.str [9])))]
noncomputable def b_law_piece_5 : List MS :=
 [.ret (.idx (.const (.str [97, 70, 52, 101, 48, 98])) (.bin .Mod (.var 2) (.const (.int 6))))]
noncomputable def b_law_piece_6 : List MS :=
 [.ret (.idx (.call "_law_LETTERS" []) (.bin .Mod (.var 2) (.const (.int 7))))]
noncomputable def b_law_piece_7 : List MS :=
 [.ret (.ife (.bin .Mod (.var 2) (.const (.int 2))) (.const (.str [39])) (.const (.str [34])))]
noncomputable def b_law_piece_8 : List MS :=
 [.ret (.ife (.bin .Mod (.var 2) (.const (.int 2))) (.const (.str [64])) (.const (.str [35])))]
noncomputable def b_law_piece_9 : List MS :=
 [.ret (.idx (.lst [(.const (.str [45])), (.const (.str [45, 45])), (.const (.str [45, 45, 62]))]) (.bin .Mod (.var 2) (.const (.int 3))))]
noncomputable def r_law_piece_1 : List MS :=
 [.ret (.ife (.cmp .Eq (.var 1) (.const (.int 10))) (.idx (.call "_law_NUMBERS" []) (.bin .Mod (.var 2) (.const (.int 8)))) (.idx (.call "_law_SIGNS" []) (.bin .Mod (.var 2) (.const (.int 8)))))]
noncomputable def r_law_piece_2 : List MS :=
 (.ite (.cmp .Eq (.var 1) (.const (.int 9))) b_law_piece_9 [] :: r_law_piece_1)
noncomputable def r_law_piece_3 : List MS :=
 (.ite (.cmp .Eq (.var 1) (.const (.int 8))) b_law_piece_8 [] :: r_law_piece_2)
noncomputable def r_law_piece_4 : List MS :=
 (.ite (.cmp .Eq (.var 1) (.const (.int 7))) b_law_piece_7 [] :: r_law_piece_3)
noncomputable def r_law_piece_5 : List MS :=
 (.ite (.cmp .Eq (.var 1) (.const (.int 6))) b_law_piece_6 [] :: r_law_piece_4)
noncomputable def r_law_piece_6 : List MS :=
 (.ite (.cmp .Eq (.var 1) (.const (.int 5))) b_law_piece_5 [] :: r_law_piece_5)
noncomputable def r_law_piece_7 : List MS :=
 (.ite (.cmp .Eq (.var 1) (.const (.int 4))) b_law_piece_4 [] :: r_law_piece_6)
noncomputable def r_law_piece_8 : List MS :=
 (.ite (.cmp .Eq (.var 1) (.const (.int 3))) b_law_piece_3 [] :: r_law_piece_7)
noncomputable def r_law_piece_9 : List MS :=
 (.ite (.cmp .Eq (.var 1) (.const (.int 2))) b_law_piece_2 [] :: r_law_piece_8)
noncomputable def m_law_piece : List MS :=
 (.asg 1 (.bin .Mod (.var 0) (.const (.int 12))) :: .asg 2 (.bin .FloorDiv (.var 0) (.const (.int 12))) :: .ite (.cmp .Lt (.var 1) (.const (.int 2))) b_law_piece_1 [] :: r_law_piece_9)
noncomputable def v_law_mended : List Str := ["text", "signs", "before", "c"]
noncomputable def p_law_mended : List Str := ["text"]
noncomputable def r_law_mended_1 : List MS :=
 [.asg 2 (.var 3)]
noncomputable def w_law_mended_1 : MS :=
 .for1 3 (.var 0) (.ite (.bop .Or [(.cmp .Eq (.var 3) (.const (.str [13]))), (.cmp .Eq (.var 3) (.const (.str [12]))), (.bop .And [(.cmp .Eq (.var 3) (.const (.str [10]))), (.cmp .NotEq (.var 2) (.const (.str [13])))])]) [.expr (.app (.var 1) (.const (.str [10])))] [.ite (.cmp .NotEq (.var 3) (.const (.str [10]))) [.expr (.app (.var 1) (.ife (.cmp .Eq (.var 3) (.const (.str [0]))) (.const (.str [65533])) (.var 3)))] []] :: r_law_mended_1)
noncomputable def r_law_mended_2 : List MS :=
 [.ret (.frz (.var 1))]
noncomputable def m_law_mended : List MS :=
 (.asg 1 (.mlst []) :: .asg 2 (.const (.str [])) :: w_law_mended_1 :: r_law_mended_2)
noncomputable def v_law_places : List Str := ["signs", "places", "line", "column", "c"]
noncomputable def p_law_places : List Str := ["signs"]
noncomputable def w_law_places_1 : MS :=
 .for1 4 (.var 0) [.expr (.app (.var 1) (.tup [(.var 2), (.var 3)])),
 .aug 3 .Add (.const (.int 1)),
 .ite (.cmp .Eq (.var 4) (.const (.str [10]))) [.aug 2 .Add (.const (.int 1)),
 .asg 3 (.const (.int 1))] []]
noncomputable def r_law_places_1 : List MS :=
 [.ret (.frz (.var 1))]
noncomputable def m_law_places : List MS :=
 (.asg 1 (.mlst []) :: .asg 2 (.const (.int 1)) :: .asg 3 (.const (.int 1)) :: w_law_places_1 :: r_law_places_1)
noncomputable def v_law_folded : List Str := ["signs", "atoms", "at", "begin", "mark", "sign", "number", "figures"]
noncomputable def p_law_folded : List Str := ["signs"]
noncomputable def w_law_folded_1 : MS :=
 .wh (.bop .And [(.cmp .Lt (.var 7) (.const (.int 6))), (.cmp .Lt (.var 2) (.bi .len [(.var 0)])), (.cmp .In (.idx (.var 0) (.var 2)) (.call "_law_WORTH" []))]) [.asg 6 (.bin .Add (.bin .Mult (.const (.int 16)) (.var 6)) (.idx (.call "_law_WORTH" []) (.idx (.var 0) (.var 2)))),
 .aug 7 .Add (.const (.int 1)),
 .aug 2 .Add (.const (.int 1))] []
noncomputable def r_law_folded_1 : List MS :=
 [.ite (.cmp .Eq (.var 7) (.const (.int 0))) [.asg 5 (.idx (.var 0) (.var 2)),
 .aug 2 .Add (.const (.int 1))] [.asg 5 (.ife (.bop .Or [(.cmp2 .Lt .Lt (.const (.int 0)) (.var 6) (.const (.int 55296))), (.cmp2 .Lt .Lt (.const (.int 57343)) (.var 6) (.const (.int 1114112)))]) (.bi .chr [(.var 6)]) (.const (.str [65533]))),
 .ite (.bop .And [(.cmp .Lt (.var 2) (.bi .len [(.var 0)])), (.cmp .In (.idx (.var 0) (.var 2)) (.call "_law_BLANKS" []))]) [.aug 2 .Add (.const (.int 1))] []]]
noncomputable def r_law_folded_2 : List MS :=
 [.expr (.app (.var 1) (.tup [(.var 4), (.var 5), (.var 3)]))]
noncomputable def w_law_folded_2 : MS :=
 .wh (.cmp .Lt (.var 2) (.bi .len [(.var 0)])) (.asg 3 (.var 2) :: .asg 4 (.idx (.var 0) (.var 2)) :: .asg 5 (.var 4) :: .aug 2 .Add (.const (.int 1)) :: .ite (.cmp .Eq (.var 4) (.const (.str [92]))) [.ite (.cmp .Eq (.var 2) (.bi .len [(.var 0)])) [.asg 4 (.const (.str [108, 97, 115, 116])),
 .asg 5 (.const (.str [65533]))] [.ite (.cmp .NotEq (.idx (.var 0) (.var 2)) (.const (.str [10]))) (.asg 4 (.const (.str [101, 115, 99, 97, 112, 101])) :: .asg 6 (.const (.int 0)) :: .asg 7 (.const (.int 0)) :: w_law_folded_1 :: r_law_folded_1) []]] [] :: r_law_folded_2) []
noncomputable def r_law_folded_3 : List MS :=
 [.ret (.frz (.var 1))]
noncomputable def m_law_folded : List MS :=
 (.asg 1 (.mlst []) :: .asg 2 (.const (.int 0)) :: w_law_folded_2 :: r_law_folded_3)
noncomputable def v_law_part : List Str := ["mark"]
noncomputable def p_law_part : List Str := ["mark"]
noncomputable def r_law_part_1 : List MS :=
 [.ret (.ife (.cmp .Eq (.var 0) (.const (.str [45]))) (.const (.str [104, 121, 112, 104, 101, 110])) (.const (.str [111, 116, 104, 101, 114])))]
noncomputable def r_law_part_2 : List MS :=
 (.ite (.cmp2 .LtE .LtE (.const (.str [48])) (.var 0) (.const (.str [57]))) [.ret (.const (.str [102, 105, 103, 117, 114, 101]))] [] :: r_law_part_1)
noncomputable def r_law_part_3 : List MS :=
 (.ite (.bop .Or [(.cmp2 .LtE .LtE (.const (.str [97])) (.var 0) (.const (.str [122]))), (.cmp2 .LtE .LtE (.const (.str [65])) (.var 0) (.const (.str [90])))]) [.ret (.const (.str [115, 116, 97, 114, 116]))] [] :: r_law_part_2)
noncomputable def m_law_part : List MS :=
 (.ite (.bop .Or [(.cmp .Eq (.var 0) (.const (.str [101, 115, 99, 97, 112, 101]))), (.cmp .Eq (.var 0) (.const (.str [108, 97, 115, 116]))), (.cmp .Gt (.var 0) (.const (.str [127]))), (.cmp .Eq (.var 0) (.const (.str [95])))]) [.ret (.const (.str [115, 116, 97, 114, 116]))] [] :: r_law_part_3)
noncomputable def v_law_starts : List Str := ["parts", "at"]
noncomputable def p_law_starts : List Str := ["parts", "at"]
noncomputable def r_law_starts_1 : List MS :=
 [.ret (.cmp .Eq (.slc (.var 0) (some (.var 1)) (some (.bin .Add (.var 1) (.const (.int 1))))) (.lst [(.const (.str [115, 116, 97, 114, 116]))]))]
noncomputable def m_law_starts : List MS :=
 (.ite (.cmp .Eq (.slc (.var 0) (some (.var 1)) (some (.bin .Add (.var 1) (.const (.int 1))))) (.lst [(.const (.str [104, 121, 112, 104, 101, 110]))])) [.ret (.cmp .In (.slc (.var 0) (some (.bin .Add (.var 1) (.const (.int 1)))) (some (.bin .Add (.var 1) (.const (.int 2))))) (.lst [(.lst [(.const (.str [115, 116, 97, 114, 116]))]), (.lst [(.const (.str [104, 121, 112, 104, 101, 110]))])]))] [] :: r_law_starts_1)
noncomputable def v_law_run : List Str := ["parts", "at", "wanted"]
noncomputable def p_law_run : List Str := ["parts", "at", "wanted"]
noncomputable def w_law_run_1 : MS :=
 .wh (.bop .And [(.cmp .Lt (.var 1) (.bi .len [(.var 0)])), (.cmp .In (.idx (.var 0) (.var 1)) (.var 2))]) [.aug 1 .Add (.const (.int 1))] []
noncomputable def r_law_run_1 : List MS :=
 [.ret (.var 1)]
noncomputable def m_law_run : List MS :=
 (w_law_run_1 :: r_law_run_1)
noncomputable def v_law_number : List Str := ["marks", "parts", "at", "first", "stop", "whole", "behind", "power"]
noncomputable def p_law_number : List Str := ["marks", "parts", "at"]
noncomputable def r_law_number_1 : List MS :=
 [.asg 6 (.call "_law_run" [(.var 1), (.var 7), (.lst [(.const (.str [102, 105, 103, 117, 114, 101]))])]),
 .ite (.cmp .Gt (.var 6) (.var 7)) [.asg 5 (.const (.bool false)),
 .asg 4 (.var 6)] []]
noncomputable def r_law_number_2 : List MS :=
 [.ret (.tup [(.var 4), (.var 5)])]
noncomputable def r_law_number_3 : List MS :=
 (.ite (.cmp .In (.slc (.var 0) (some (.var 4)) (some (.bin .Add (.var 4) (.const (.int 1))))) (.lst [(.lst [(.const (.str [101]))]), (.lst [(.const (.str [69]))])])) (.asg 7 (.bin .Add (.var 4) (.const (.int 1))) :: .ite (.cmp .In (.slc (.var 0) (some (.var 7)) (some (.bin .Add (.var 7) (.const (.int 1))))) (.lst [(.lst [(.const (.str [43]))]), (.lst [(.const (.str [45]))])])) [.aug 7 .Add (.const (.int 1))] [] :: r_law_number_1) [] :: r_law_number_2)
noncomputable def m_law_number : List MS :=
 (.asg 3 (.ife (.cmp .In (.idx (.var 0) (.var 2)) (.lst [(.const (.str [43])), (.const (.str [45]))])) (.bin .Add (.var 2) (.const (.int 1))) (.var 2)) :: .asg 4 (.call "_law_run" [(.var 1), (.var 3), (.lst [(.const (.str [102, 105, 103, 117, 114, 101]))])]) :: .asg 5 (.const (.bool true)) :: .asg 6 (.call "_law_run" [(.var 1), (.bin .Add (.var 4) (.const (.int 1))), (.lst [(.const (.str [102, 105, 103, 117, 114, 101]))])]) :: .ite (.bop .And [(.cmp .Eq (.slc (.var 0) (some (.var 4)) (some (.bin .Add (.var 4) (.const (.int 1))))) (.lst [(.const (.str [46]))])), (.cmp .Gt (.var 6) (.bin .Add (.var 4) (.const (.int 1))))]) [.asg 5 (.const (.bool false)),
 .asg 4 (.var 6)] [.ite (.cmp .Eq (.var 4) (.var 3)) [.ret (.tup [(.var 2), (.const (.bool false))])] []] :: r_law_number_3)
noncomputable def v_law_counted : List Str := ["text", "number", "c"]
noncomputable def p_law_counted : List Str := ["text"]
noncomputable def w_law_counted_1 : MS :=
 .for1 2 (.var 0) [.ite (.cmp .In (.var 2) (.call "_law_WORTH" [])) [.asg 1 (.bin .Add (.bin .Mult (.const (.int 10)) (.var 1)) (.idx (.call "_law_WORTH" []) (.var 2)))] []]
noncomputable def r_law_counted_1 : List MS :=
 [.ret (.ife (.cmp .Eq (.idx (.var 0) (.const (.int 0))) (.const (.str [45]))) (.neg (.var 1)) (.var 1))]
noncomputable def m_law_counted : List MS :=
 (.asg 1 (.const (.int 0)) :: w_law_counted_1 :: r_law_counted_1)
noncomputable def v_law_quoted : List Str := ["marks", "values", "at", "quote", "value"]
noncomputable def p_law_quoted : List Str := ["marks", "values", "at"]
noncomputable def r_law_quoted_1 : List MS :=
 [.aug 2 .Add (.const (.int 1))]
noncomputable def r_law_quoted_2 : List MS :=
 [.ite (.cmp .Eq (.idx (.var 0) (.var 2)) (.const (.str [92]))) [.aug 2 .Add (.const (.int 2))] (.ite (.cmp .NotEq (.idx (.var 0) (.var 2)) (.const (.str [108, 97, 115, 116]))) [.aug 4 .Add (.idx (.var 1) (.var 2))] [] :: r_law_quoted_1)]
noncomputable def r_law_quoted_3 : List MS :=
 (.ite (.cmp .Eq (.idx (.var 0) (.var 2)) (.const (.str [10]))) [.ret (.tup [(.const (.str [98, 97, 100, 45, 115, 116, 114, 105, 110, 103])), (.var 4), (.var 2)])] [] :: r_law_quoted_2)
noncomputable def w_law_quoted_1 : MS :=
 .wh (.cmp .Lt (.var 2) (.bi .len [(.var 0)])) (.ite (.cmp .Eq (.idx (.var 0) (.var 2)) (.var 3)) [.ret (.tup [(.const (.str [])), (.var 4), (.bin .Add (.var 2) (.const (.int 1)))])] [] :: r_law_quoted_3) []
noncomputable def r_law_quoted_4 : List MS :=
 [.ret (.tup [(.const (.str [101, 111, 102, 45, 105, 110, 45, 115, 116, 114, 105, 110, 103])), (.var 4), (.var 2)])]
noncomputable def m_law_quoted : List MS :=
 (.asg 3 (.idx (.var 0) (.var 2)) :: .asg 4 (.const (.str [])) :: .aug 2 .Add (.const (.int 1)) :: w_law_quoted_1 :: r_law_quoted_4)
noncomputable def v_law_read : List Str := ["text", "signs", "places", "atoms", "marks", "values", "parts", "rows", "at", "begin", "mark", "place", "whole", "number", "worth", "fault", "value"]
noncomputable def p_law_read : List Str := ["text"]
noncomputable def w_law_read_1 : MS :=
 .wh (.bop .And [(.cmp .Lt (.var 8) (.bi .len [(.var 4)])), (.cmp .In (.idx (.var 4) (.var 8)) (.call "_law_BLANKS" []))]) [.aug 8 .Add (.const (.int 1))] []
noncomputable def r_law_read_1 : List MS :=
 [.expr (.app (.var 7) (.tup [(.const (.str [119, 104, 105, 116, 101, 115, 112, 97, 99, 101])), (.var 11), (.meth .join (.const (.str [])) [(.slc (.var 5) (some (.var 9)) (some (.var 8)))])]))]
noncomputable def b_law_read_1 : List MS :=
 (w_law_read_1 :: r_law_read_1)
noncomputable def b_law_read_2 : List MS :=
 [.aug 8 .Add (.const (.int 3)),
 .expr (.app (.var 7) (.tup [(.const (.str [108, 105, 116, 101, 114, 97, 108])), (.var 11), (.const (.str [45, 45, 62]))]))]
noncomputable def b_law_read_3 : List MS :=
 [.asg 8 (.call "_law_run" [(.var 6), (.var 8), (.glob "_law_NAME" (.lst [(.str [115, 116, 97, 114, 116]), (.str [102, 105, 103, 117, 114, 101]), (.str [104, 121, 112, 104, 101, 110])]))]),
 .expr (.app (.var 7) (.tup [(.const (.str [105, 100, 101, 110, 116])), (.var 11), (.meth .join (.const (.str [])) [(.slc (.var 5) (some (.var 9)) (some (.var 8)))])]))]
noncomputable def b_law_read_4 : List MS :=
 [.asg 9 (.var 8),
 .asg 8 (.call "_law_run" [(.var 6), (.var 8), (.glob "_law_NAME" (.lst [(.str [115, 116, 97, 114, 116]), (.str [102, 105, 103, 117, 114, 101]), (.str [104, 121, 112, 104, 101, 110])]))]),
 .expr (.app (.var 7) (.tup [(.const (.str [100, 105, 109, 101, 110, 115, 105, 111, 110])), (.var 11), (.tup [(.var 13), (.var 14), (.meth .join (.const (.str [])) [(.slc (.var 5) (some (.var 9)) (some (.var 8)))])])]))]
noncomputable def b_law_read_5 : List MS :=
 [.aug 8 .Add (.const (.int 1)),
 .expr (.app (.var 7) (.tup [(.const (.str [112, 101, 114, 99, 101, 110, 116, 97, 103, 101])), (.var 11), (.tup [(.var 13), (.var 14)])]))]
noncomputable def b_law_read_6 : List MS :=
 [.expr (.app (.var 7) (.tup [(.const (.str [110, 117, 109, 98, 101, 114])), (.var 11), (.tup [(.var 13), (.var 14)])]))]
noncomputable def b_law_read_7 : List MS :=
 [.ite (.cmp .Eq (.slc (.var 4) (some (.var 8)) (some (.bin .Add (.var 8) (.const (.int 1))))) (.lst [(.const (.str [37]))])) b_law_read_5 b_law_read_6]
noncomputable def b_law_read_8 : List MS :=
 [.unp [8, 12] (.call "_law_number" [(.var 4), (.var 6), (.var 8)]),
 .asg 13 (.meth .join (.const (.str [])) [(.slc (.var 5) (some (.var 9)) (some (.var 8)))]),
 .asg 14 (.ife (.var 12) (.call "_law_counted" [(.var 13)]) (.const .none)),
 .ite (.call "_law_starts" [(.var 6), (.var 8)]) b_law_read_4 b_law_read_7]
noncomputable def b_law_read_9 : List MS :=
 [.asg 8 (.call "_law_run" [(.var 6), (.bin .Add (.var 8) (.const (.int 1))), (.glob "_law_NAME" (.lst [(.str [115, 116, 97, 114, 116]), (.str [102, 105, 103, 117, 114, 101]), (.str [104, 121, 112, 104, 101, 110])]))]),
 .expr (.app (.var 7) (.tup [(.const (.str [97, 116, 45, 107, 101, 121, 119, 111, 114, 100])), (.var 11), (.meth .join (.const (.str [])) [(.slc (.var 5) (some (.bin .Add (.var 9) (.const (.int 1)))) (some (.var 8)))])]))]
noncomputable def b_law_read_10 : List MS :=
 [.asg 8 (.call "_law_run" [(.var 6), (.bin .Add (.var 8) (.const (.int 1))), (.glob "_law_NAME" (.lst [(.str [115, 116, 97, 114, 116]), (.str [102, 105, 103, 117, 114, 101]), (.str [104, 121, 112, 104, 101, 110])]))]),
 .expr (.app (.var 7) (.tup [(.const (.str [104, 97, 115, 104])), (.var 11), (.tup [(.meth .join (.const (.str [])) [(.slc (.var 5) (some (.bin .Add (.var 9) (.const (.int 1)))) (some (.var 8)))]), (.call "_law_starts" [(.var 6), (.bin .Add (.var 9) (.const (.int 1)))])])]))]
noncomputable def b_law_read_11 : List MS :=
 [.expr (.app (.var 7) (.tup [(.const (.str [115, 116, 114, 105, 110, 103])), (.var 11), (.var 16)]))]
noncomputable def b_law_read_12 : List MS :=
 [.expr (.app (.var 7) (.tup [(.const (.str [101, 114, 114, 111, 114])), (.var 11), (.var 15)]))]
noncomputable def r_law_read_2 : List MS :=
 [.ite (.var 15) b_law_read_12 []]
noncomputable def b_law_read_13 : List MS :=
 (.unp [15, 16, 8] (.call "_law_quoted" [(.var 4), (.var 5), (.var 8)]) :: .ite (.cmp .NotEq (.var 15) (.const (.str [98, 97, 100, 45, 115, 116, 114, 105, 110, 103]))) b_law_read_11 [] :: r_law_read_2)
noncomputable def b_law_read_14 : List MS :=
 [.aug 8 .Add (.const (.int 1)),
 .expr (.app (.var 7) (.tup [(.const (.str [108, 105, 116, 101, 114, 97, 108])), (.var 11), (.var 10)]))]
noncomputable def b_law_read_15 : List MS :=
 [.ite (.bop .Or [(.cmp .Eq (.var 10) (.const (.str [34]))), (.cmp .Eq (.var 10) (.const (.str [39])))]) b_law_read_13 b_law_read_14]
noncomputable def b_law_read_16 : List MS :=
 [.ite (.bop .And [(.cmp .Eq (.var 10) (.const (.str [35]))), (.cmp .Gt (.call "_law_run" [(.var 6), (.bin .Add (.var 8) (.const (.int 1))), (.glob "_law_NAME" (.lst [(.str [115, 116, 97, 114, 116]), (.str [102, 105, 103, 117, 114, 101]), (.str [104, 121, 112, 104, 101, 110])]))]) (.bin .Add (.var 8) (.const (.int 1))))]) b_law_read_10 b_law_read_15]
noncomputable def b_law_read_17 : List MS :=
 [.ite (.bop .And [(.cmp .Eq (.var 10) (.const (.str [64]))), (.call "_law_starts" [(.var 6), (.bin .Add (.var 8) (.const (.int 1)))])]) b_law_read_9 b_law_read_16]
noncomputable def b_law_read_18 : List MS :=
 [.ite (.cmp .Gt (.idx (.call "_law_number" [(.var 4), (.var 6), (.var 8)]) (.const (.int 0))) (.var 8)) b_law_read_8 b_law_read_17]
noncomputable def b_law_read_19 : List MS :=
 [.ite (.call "_law_starts" [(.var 6), (.var 8)]) b_law_read_3 b_law_read_18]
noncomputable def b_law_read_20 : List MS :=
 [.ite (.cmp .Eq (.slc (.var 4) (some (.var 8)) (some (.bin .Add (.var 8) (.const (.int 3))))) (.lst [(.const (.str [45])), (.const (.str [45])), (.const (.str [62]))])) b_law_read_2 b_law_read_19]
noncomputable def w_law_read_2 : MS :=
 .wh (.cmp .Lt (.var 8) (.bi .len [(.var 4)])) [.asg 9 (.var 8),
 .asg 10 (.idx (.var 4) (.var 8)),
 .asg 11 (.idx (.var 2) (.idx (.idx (.var 3) (.var 8)) (.const (.int 2)))),
 .ite (.cmp .In (.var 10) (.call "_law_BLANKS" [])) b_law_read_1 b_law_read_20] []
noncomputable def r_law_read_3 : List MS :=
 [.ret (.frz (.var 7))]
noncomputable def m_law_read : List MS :=
 (.asg 1 (.call "_law_mended" [(.var 0)]) :: .asg 2 (.call "_law_places" [(.var 1)]) :: .asg 3 (.call "_law_folded" [(.var 1)]) :: .asgc 4 "atom" (.idx (.var 0) (.const (.int 0))) (.var 3) :: .asgc 5 "atom" (.idx (.var 0) (.const (.int 1))) (.var 3) :: .asgc 6 "mark" (.call "_law_part" [(.var 0)]) (.var 4) :: .asg 7 (.mlst []) :: .asg 8 (.const (.int 0)) :: w_law_read_2 :: r_law_read_3)
noncomputable def v_law_plain : List Str := ["value"]
noncomputable def p_law_plain : List Str := ["value"]
noncomputable def m_law_plain : List MS :=
 [.ret (.meth .join (.const (.str [])) [(.comp "c" (.ife (.cmp2 .LtE .LtE (.const (.int 55296)) (.bi .ord [(.var 0)]) (.const (.int 57343))) (.const (.str [65533])) (.var 0)) (.var 0))])]
noncomputable def v_law_told : List Str := ["nodes", "rows", "node", "kind", "told"]
noncomputable def p_law_told : List Str := ["nodes"]
noncomputable def b_law_told_1 : List MS :=
 [.asg 4 (.tup [(.attr (.var 2) "representation"), (.attr (.var 2) "int_value")])]
noncomputable def b_law_told_2 : List MS :=
 [.asg 4 (.tup [(.attr (.var 2) "representation"), (.attr (.var 2) "int_value"), (.call "_law_plain" [(.attr (.var 2) "unit")])])]
noncomputable def b_law_told_3 : List MS :=
 [.asg 4 (.tup [(.call "_law_plain" [(.attr (.var 2) "value")]), (.attr (.var 2) "is_identifier")])]
noncomputable def b_law_told_4 : List MS :=
 [.asg 4 (.attr (.var 2) "kind")]
noncomputable def b_law_told_5 : List MS :=
 [.asg 4 (.call "_law_plain" [(.attr (.var 2) "value")])]
noncomputable def b_law_told_6 : List MS :=
 [.asg 4 (.const .none)]
noncomputable def b_law_told_7 : List MS :=
 [.ite (.cmp .In (.var 3) (.lst [(.const (.str [105, 100, 101, 110, 116])), (.const (.str [97, 116, 45, 107, 101, 121, 119, 111, 114, 100])), (.const (.str [115, 116, 114, 105, 110, 103])), (.const (.str [119, 104, 105, 116, 101, 115, 112, 97, 99, 101])), (.const (.str [108, 105, 116, 101, 114, 97, 108]))])) b_law_told_5 b_law_told_6]
noncomputable def b_law_told_8 : List MS :=
 [.ite (.cmp .Eq (.var 3) (.const (.str [101, 114, 114, 111, 114]))) b_law_told_4 b_law_told_7]
noncomputable def b_law_told_9 : List MS :=
 [.ite (.cmp .Eq (.var 3) (.const (.str [104, 97, 115, 104]))) b_law_told_3 b_law_told_8]
noncomputable def b_law_told_10 : List MS :=
 [.ite (.cmp .Eq (.var 3) (.const (.str [100, 105, 109, 101, 110, 115, 105, 111, 110]))) b_law_told_2 b_law_told_9]
noncomputable def r_law_told_1 : List MS :=
 [.expr (.app (.var 1) (.tup [(.var 3), (.tup [(.attr (.var 2) "source_line"), (.attr (.var 2) "source_column")]), (.var 4)]))]
noncomputable def w_law_told_1 : MS :=
 .for1 2 (.var 0) (.asg 3 (.attr (.var 2) "type") :: .ite (.bop .Or [(.cmp .Eq (.var 3) (.const (.str [110, 117, 109, 98, 101, 114]))), (.cmp .Eq (.var 3) (.const (.str [112, 101, 114, 99, 101, 110, 116, 97, 103, 101])))]) b_law_told_1 b_law_told_10 :: r_law_told_1)
noncomputable def r_law_told_2 : List MS :=
 [.ret (.frz (.var 1))]
noncomputable def m_law_told : List MS :=
 (.asg 1 (.mlst []) :: w_law_told_1 :: r_law_told_2)
noncomputable def v_law : List Str := ["script", "text"]
noncomputable def p_law : List Str := ["script"]
noncomputable def m_law : List MS :=
 [.asg 1 (.meth .join (.const (.str [])) [(.ecomp "i" "n" (.call "_law_piece" [(.bin .Mod (.bin .Add (.bin .Mult (.var 1) (.const (.int 101))) (.bin .Mult (.const (.int 7)) (.var 0))) (.const (.int 999999937)))]) (.slc (.var 0) none (some (.const (.int 14)))))]),
 .ret (.cmp .Eq (.call "_law_told" [(.call "parse_component_value_list" [(.var 1)])]) (.call "_law_read" [(.var 1)]))]

end Mine
end

section
set_option tactic.hygienic false
set_option maxRecDepth 100000
set_option maxHeartbeats 0
set_option genInjectivity false
set_option genSizeOf false
namespace Mine
open PySem PySem.W

noncomputable def topRunT (tb : String → Option Builtin) (p : Program) (w : World) (n₀ : Nat) (ann : Option Value) : Nat → SharedT → Thread → Option SharedT
  | 0, _, _ => none
  | n + 1, s, t => match through t with
    | true => some s
    | false => match stepOk n₀ ann t with
      | false => none
      | true => match stepT (denote tb) p w s t with
        | some (s', t') => topRunT tb p w n₀ ann n s' t'
        | none => none
theorem topRunT_spec {tb : String → Option Builtin} {p : Program} {w : World} {n₀ : Nat} {ann : Option Value} : ∀ {n : Nat} {s s' : SharedT} {t : Thread}, topRunT tb p w n₀ ann n s t = some s' → topRun tb p w n₀ ann n s.abs t = some s'.abs
  | 0, _, _, _, h => by cases h
  | n + 1, s, s', t, h => by
    unfold topRunT at h
    unfold topRun
    cases ht : through t with
    | true => rw [ht] at h; cases h; rfl
    | false =>
      rw [ht] at h
      dsimp only at h ⊢
      cases hk : stepOk n₀ ann t with
      | false => rw [hk] at h; cases h
      | true =>
        rw [hk] at h
        dsimp only at h ⊢
        cases hs : stepT (denote tb) p w s t with
        | none => rw [hs] at h; cases h
        | some r => obtain ⟨s₂, t₂⟩ := r; rw [hs] at h; rw [stepT_spec hs]; exact topRunT_spec h
noncomputable def tree0 (P : Params) : BT := ((boot_heap P).objs.toList.foldl (fun (x : BT × Nat) o => (x.1.ins x.2 o, x.2 + 1)) (BT.nil, 0)).1
noncomputable def S0T (w : World) (os : OsState) : SharedT := ⟨tree0 w.params, 11, {}, Array.mk [], boot_drawn, boot_toks, os⟩
noncomputable def lawView (p : Program) : Program := { p with main := { p.main with body := p.main.body.drop 61 } }
noncomputable def lawLoose (p : Program) : List Str := p.boundNames.filter fun n => !(n == ("law" : Str))
noncomputable def looks (p : Program) (H₀ : Heap) (s : Shared) :=
  (staticsOk (importedModules p.main.body) H₀ s.heap && namesBound p s.heap && gensDone s && laidKept H₀ s.heap, openSeen (lawView p) (lawLoose p) (importedModules p.main.body) (fun s => xlAt (lawView p) [] s && recOk [] s) true s)
noncomputable def headR {α : Type} (chk : Shared → α) (p : Program) (S : SharedT) (H₀ : Heap) (w : World) :=
  (topRunT treeTable p w 11 (some (.ref 6)) 8000 S (topStub p)).map fun s => (looks p H₀ s.abs, chk s.abs)

theorem S0_abs (w : World) (os : OsState) : (S0T w os).abs = ⟨boot_heap w.params, Array.mk [], boot_drawn, boot_toks, os⟩ := by kernel_rfl
theorem boot_ns (P : Params) : ((boot_heap P).isNs mainGlobals, (boot_heap P).objs.size, (boot_heap P).nsMap mainGlobals "__annotations__") = (true, 11, some (.ref 6)) := by kernel_rfl

theorem left_ok {p : Program} {α : Type} {chk : Shared → α} {Ya : World → α} (hopen : opening p = plainProg p.main.scope.names) (hf : ∀ s, fenceModules? p s = some s)
    (h : ∀ (b : Bool) (w : World) (os : OsState), headR chk p (S0T (w.withFollow "special-get-raises" b) os) (boot_heap (w.withFollow "special-get-raises" b).params) (w.withFollow "special-get-raises" b) = some ((true, openGood (lawView p) (lawLoose p)), Ya (w.withFollow "special-get-raises" b))) :
    LeftO p (lawView p) (lawLoose p) (fun s => xlAt (lawView p) [] s && recOk [] s) chk Ya 8000 := by
  intro w
  have key : ∀ os, headR chk p (S0T w os) (boot_heap w.params) w = some ((true, openGood (lawView p) (lawLoose p)), Ya w) := by
    intro os
    have := h (w.params.followText "special-get-raises") w os
    rwa [World.withFollow_self] at this
  have ho := boot_open (p := p) (N := 8000) hopen rfl hf w
  unfold openEnds
  cases hfo : fencedOpening treeTable p w 8000 with
  | none => rw [hfo] at ho; cases ho
  | some s₀ =>
    rw [hfo] at ho
    obtain ⟨hp, gs, dr, tk, os⟩ := s₀
    simp only [Option.map_some, Option.some.injEq, Prod.mk.injEq] at ho
    obtain ⟨rfl, rfl, rfl, rfl⟩ := ho
    have k := key os
    unfold headR at k
    cases hr : topRunT treeTable p w 11 (some (.ref 6)) 8000 (S0T w os) (topStub p) with
    | none => rw [hr] at k; cases k
    | some sT =>
      rw [hr] at k
      have e := Option.some.inj k
      have k3 : chk sT.abs = Ya w := congrArg Prod.snd e
      have k12 : looks p (boot_heap w.params) sT.abs = _ := congrArg Prod.fst e
      have k1 : (staticsOk (importedModules p.main.body) (boot_heap w.params) sT.abs.heap && namesBound p sT.abs.heap && gensDone sT.abs && laidKept (boot_heap w.params) sT.abs.heap) = true := congrArg Prod.fst k12
      have k2 : openSeen (lawView p) (lawLoose p) (importedModules p.main.body) (fun s => xlAt (lawView p) [] s && recOk [] s) true sT.abs = openGood (lawView p) (lawLoose p) := congrArg Prod.snd k12
      have hs := topRunT_spec hr
      rw [S0_abs] at hs
      have hb := boot_ns w.params
      simp only [Prod.mk.injEq] at hb
      obtain ⟨b1, b2, b3⟩ := hb
      show ((topFrom treeTable p w 8000 ⟨boot_heap w.params, Array.mk [], boot_drawn, boot_toks, os⟩).map _) = _
      unfold topFrom
      dsimp only
      rw [b1, b2, b3]
      show (((topRun treeTable p w 11 (some (.ref 6)) 8000 _ (topStub p)).bind _).map _) = _
      rw [hs]
      rw [Option.bind_some, k1]
      simp only [Option.map_some, Option.some.injEq, Prod.mk.injEq]
      exact ⟨k2, k3⟩
end Mine
end

section
set_option tactic.hygienic false
set_option maxRecDepth 100000
set_option maxHeartbeats 0
namespace Mine
open PySem PySem.W
noncomputable def runX (p : Program) (S : SharedT) (w : World) := topRunT treeTable p w 11 (some (.ref 6)) 8000 S (topStub p)
lay_quick runX
end Mine
end

section
set_option tactic.hygienic false
set_option maxRecDepth 100000
set_option genInjectivity false
set_option genSizeOf false
namespace Mine
open PySem PySem.W PySem.Calls PyProof.Rows PySem.Builtin PySem.Builtin.Str PySem.NumText
noncomputable def plainPar (fd : FuncData) (ps : List Str) : Bool := fd.params.posonlyargs.isEmpty && fd.params.kwonlyargs.isEmpty && fd.params.vararg.isNone && fd.params.kwarg.isNone && fd.params.args.map (·.arg) == ps
noncomputable def gt (h : Heap) (ps : List Addr) (a : Addr) : Option Obj := if ps.contains a then none else h.get? a
noncomputable def cutH (h : Heap) (ps : List Addr) : Heap := { h with objs := h.objs.mapIdx fun a o => if ps.contains a then { o with data := .freed } else o }
noncomputable def frag (h : Heap) (ps as : List Addr) : Frag := as.filterMap fun a => (gt h ps a).map (a, ·)
noncomputable def rRef (v : Value) : Option { a : Addr // v = .ref a } := match v with
  | .ref a => some ⟨a, rfl⟩
  | _ => none
noncomputable def rStr (v : Value) : Option { q : Str × Tok // v = .str q.1 q.2 } := match v with
  | .str a b => some ⟨(a, b), rfl⟩
  | _ => none
noncomputable def rInt (v : Value) : Option { q : Int × Tok // v = .int q.1 q.2 } := match v with
  | .int a b => some ⟨(a, b), rfl⟩
  | _ => none
noncomputable def rBool (v : Value) : Option { b : Bool // v = .bool b } := match v with
  | .bool b => some ⟨b, rfl⟩
  | _ => none
noncomputable def dFun (d : Data) : Option { f : FuncData // d = .func f } := match d with
  | .func f => some ⟨f, rfl⟩
  | _ => none
noncomputable def dFields (d : Data) : Option { f : Array Value // d = .fields f } := match d with
  | .fields f => some ⟨f, rfl⟩
  | _ => none
noncomputable def dSeq (d : Data) : Option { q : Array Value × Nat // d = .seq q.1 q.2 } := match d with
  | .seq a b => some ⟨(a, b), rfl⟩
  | _ => none
noncomputable def dDict (d : Data) : Option { q : Array DictEntry × Nat // d = .dict q.1 q.2 } := match d with
  | .dict a b => some ⟨(a, b), rfl⟩
  | _ => none
noncomputable def dPlain (d : Data) : Option { _u : Unit // d = .plain } := match d with
  | .plain => some ⟨(), rfl⟩
  | _ => none
noncomputable def fVal (r : PySem.Builtin.ObjectAttr.Found) : Option { v : Value // r = .value v } := match r with
  | .value v => some ⟨v, rfl⟩
  | _ => none
noncomputable def fCls (r : CFound) : Option { v : Value // r = .val v } := match r with
  | .val v => some ⟨v, rfl⟩
  | _ => none
noncomputable def bStm (b : FuncBody) : Option { l : List Stmt // b = .stmts l } := match b with
  | .stmts l => some ⟨l, rfl⟩
  | _ => none
section
variable (K : Frag)
noncomputable def strVal (s : Str) : Option AttR := if (s.cps.toList.all (· < 1114112) && decide (s.cps.size ≤ 1000)) = true then some (.val (.str s.cps.toList)) else none
noncomputable def attSlot (C : Addr) (nm : Str) : Option AttR := (vS (findIn K (.ref C) nm)).bind fun f => (vS f.1).bind fun v => (rRef v.1).bind fun p =>
  if (specialIn K (.ref p.1) "__get__" == some (some (.builtin "member_descriptor.__get__")) && takesIn K (.ref p.1) == some true) = true then (slotIn K p.1 C).map .slot else none
noncomputable def attVal (C : Addr) (nm : Str) : Option AttR := (vS (findObj K C (some emptyDict) nm)).bind fun r => (fVal r.1).bind fun x => (rStr x.1).bind fun s => strVal s.1.1
noncomputable def attOf (C : Addr) (nm : Str) : Option AttR := if (plainGet K C nm && isClsIn K C) = true then (attSlot K C nm).or (attVal K C nm) else none
noncomputable def satOf (C : Addr) (nm : Str) : Option Nat :=
  if (findIn K (.ref C) "__setattr__" == some (some (.builtin "object.__setattr__")) && plainOver K C) = true then
    (vS (takerIn K C nm)).bind fun t => (vS t.1).bind fun v => (rRef v.1).bind fun p => if (typeIn K (.ref p.1) == some (.type "member_descriptor")) = true then (slotIn K p.1 C).bind fun i => if decide (i < 1000) = true then some i else none else none
  else none
noncomputable def statOf (h : Heap) (cls nm : Str) : Option Value := (vS (h.nsMap mainGlobals cls)).bind fun c => (rRef c.1).bind fun C =>
  if (specialIn K (.ref C.1) "__getattribute__" == some (some (.builtin "type.__getattribute__")) && readsIn K C.1 (.type "type")) = true then
    (vS (findCls K (.ref C.1) (.type "type") nm)).bind fun r => (fCls r.1).bind fun fv => if handedIn fv.1 = true then some fv.1 else none
  else none
end
noncomputable def funAt (g : Addr → Option Obj) (fv : Value) : Option FuncData := (rRef fv).bind fun a => (vS (g a.1)).bind fun o => (dFun o.1.data).map (·.1)
noncomputable def codeAt (g : Addr → Option Obj) (cd : Value) (q : Str) : Bool := (rRef cd).any fun c => (vS (g c.1)).any fun o => (dFields o.1.data).any fun vs => (vS (vs.1[1]? : Option Value)).any fun n => (rStr n.1).any fun m => m.1.1 == q
noncomputable def fdChk (g : Addr → Option Obj) (fd : FuncData) (ps vars : List Str) (ms : List MS) : Bool :=
  [codeAt g fd.code fd.qualname, !fd.scope.isCoroutine, !fd.scope.isGenerator, fd.scope.kind == .function, fd.globals == mainGlobals, fd.builtins == builtinsNs,
  fd.scope.names.all (fun x => !(x.2 == .cell)), vars.all (fun x => fd.scope.names.lookup x == some .local && !(x == ("__debug__" : Str))),
  plainPar fd ps, (bStm fd.body).any fun body => chkSs ms fd.scope vars body.1, decide vars.Nodup, ps.isPrefixOf vars].all fun x => x
noncomputable def fnChk (g : Addr → Option Obj) (fv : Value) (ps vars : List Str) (ms : List MS) : Bool := (vS (funAt g fv)).any fun fd => fdChk g fd.1 ps vars ms && fd.1.defaults == .none
noncomputable def fnChk1 (g : Addr → Option Obj) (fv : Value) (a b : Str) (vars : List Str) (ms : List MS) : Bool := (vS (funAt g fv)).any fun fd => fdChk g fd.1 [a, b] vars ms && !(a == b) &&
  (rRef fd.1.defaults).any fun t => (vS (g t.1)).any fun o => (dSeq o.1.data).any fun q => q.1.1 == #[.bool false]

noncomputable def clsChk (g : Addr → Option Obj) (K : Frag) (C : Addr) (ps vars : List Str) (ms : List MS) (own : List Str) : Bool :=
  makesIn K C && ((vS (findIn K (.ref C) "__init__")).any fun i => (vS i.1).any fun v => (rRef v.1).any fun f => typeIn K (.ref f.1) == some (.type "function") && fnChk g (.ref f.1) ps vars ms) &&
    ((own ++ [("source_column" : Str), ("source_line" : Str)]).zipIdx.all fun x => satOf K C x.1 == some x.2)
noncomputable def isSlot (i : Nat) : AttR → Bool
  | .slot j => j == i
  | _ => false
noncomputable def isTp (tp : List Nat) : AttR → Bool
  | .val (.str s) => s == tp
  | _ => false
noncomputable def tellChk (K : Frag) (C : Addr) (tp : List Nat) (fs : List Str) : Bool :=
  ((vS (attOf K C "type")).any fun r => isTp tp r.1) && fs.zipIdx.all fun x => (vS (attOf K C x.1)).any fun r => isSlot x.2 r.1
noncomputable def val (h : Heap) (nm : Str) : Value := (h.nsMap mainGlobals nm).getD .none
noncomputable def adr (h : Heap) (nm : Str) : Addr := ((h.nsMap mainGlobals nm).bind fun v => (rRef v).map (·.1)).getD 0

noncomputable def strIs (s : List Nat) (v : Value) : Bool := ((rStr v).any fun q => q.1.1 == sOf s) && s.all (· < 1114112) && decide (s.length ≤ 1000)
noncomputable def strsAre : List (List Nat) → List Value → Bool
  | [], vs => nil vs
  | s :: ss, vs => match vs with
    | [] => false
    | v :: vs => strIs s v && strsAre ss vs
noncomputable def seqChk (g : Addr → Option Obj) (k : String) (ss : List (List Nat)) (v : Value) : Bool := (rRef v).any fun a => (vS (g a.1)).any fun o => (dSeq o.1.data).any fun q =>
  (o.1.cls == .type k && o.1.dict.isNone && o.1.slots.isEmpty) && strsAre ss q.1.1.toList && decide (ss.length ≤ 1000)
noncomputable def dictAt (g : Addr → Option Obj) (v : Value) : List DictEntry := (((rRef v).bind fun a => (vS (g a.1)).bind fun o => (dDict o.1.data).map fun q => q.1.1.toList)).getD []
noncomputable def dctChk (g : Addr → Option Obj) (ks vs : List (List Nat)) (v : Value) : Bool := (rRef v).any fun a => (vS (g a.1)).any fun o => (dDict o.1.data).any fun q =>
  !(a.1 == sysModules) && (o.1.cls == .type "dict" && o.1.dict.isNone && o.1.slots.isEmpty) && strsAre ks (q.1.1.toList.map (·.key)) && strsAre vs (q.1.1.toList.map (·.val)) && decide (ks.length ≤ 1000)
noncomputable def tripF : Nat → List Value → Bool
  | 0, _ => false
  | n + 1, l => match l with
    | [] => true
    | a :: r => (rInt a).isSome && (match r with
      | [] => false
      | b :: r => (rInt b).isSome && (match r with
        | [] => false
        | _ :: r => tripF n r))
noncomputable def tripB (l : List Value) : Bool := tripF (l.length + 1) l
noncomputable def tabP (h : Heap) (c p : Addr) : Option (Addr × Addr × Array Value) := (vS (h.get? p)).bind fun t => (dFields t.1.data).bind fun ps => if (t.1.cls == .none && t.1.dict.isNone && t.1.slots.isEmpty && tripB ps.1.toList) = true then some (c, p, ps.1) else none
noncomputable def tabC (h : Heap) (c : Addr) : Option (Addr × Addr × Array Value) := (vS (h.get? c)).bind fun o => (dFields o.1.data).bind fun vs => (vS (vs.1[11]? : Option Value)).bind fun v => (rRef v.1).bind fun p => tabP h c p.1
noncomputable def tabOf (h : Heap) (nm : Str) : Option (Addr × Addr × Array Value) := (funAt h.get? (val h nm)).bind fun fd => (rRef fd.code).bind fun c => tabC h c.1
noncomputable def codeHeadChk (g : Addr → Option Obj) (c p : Addr) : Bool := (vS (g c)).any fun o => (dFields o.1.data).any fun vs => (rStr (vs.1.getD 18 .none)).any fun a => (rInt (vs.1.getD 7 .none)).any fun b => (rBool (vs.1.getD 9 .none)).any fun d => (rInt (vs.1.getD 10 .none)).any fun e =>
  !(c == p) && o.1.cls == .type "code" && (vs.1[11]? : Option Value) == some (.ref p) && vs.1.getD 11 .none == .ref p
noncomputable def joinFnChk (g : Addr → Option Obj) (fv : Value) (ge : GE) (vn : Str) (c : Addr) : Bool := fnChk g fv [vn] [vn] [.ret .bad] && ((vS (funAt g fv)).any fun fd => fd.1.code == .ref c && (bStm fd.1.body).any fun b => joinChk ge vn b.1)
noncomputable def biAll : List Bi := [.len, .ord, .chr, .int]
noncomputable def goodMC (h : Heap) (ps : List Addr) : Bool := (vS (h.nsMap mainGlobals "__builtins__")).any fun v => (rRef v.1).any fun b => (vS (gt h ps b.1)).any fun o =>
  !(b.1 == builtinsNs) && o.1.cls == .type "module" && o.1.dict == some builtinsNs && (dPlain o.1.data).isSome
noncomputable def goodChk (h : Heap) (ps : List Addr) : Bool :=
  h.isNs mainGlobals && h.isNs builtinsNs && h.isNs cStatics && !ps.contains mainGlobals && !ps.contains builtinsNs && !ps.contains cStatics && h.nsMap cStatics "sys.recursionlimit" == none &&
  biAll.all (fun f => h.nsMap mainGlobals f.name == none && h.nsMap builtinsNs f.name == some f.val) && h.nsMap mainGlobals "enumerate" == none && h.nsMap builtinsNs "enumerate" == some (.type "enumerate") &&
  (gt h ps sysModules).isSome && goodMC h ps
noncomputable def base (prog : Program) (w : World) (os : OsState) (h : Heap) (t : Addr × Addr × Array Value) : Base := ⟨prog, w, cutH h [t.2.1], os, h.nsMap mainGlobals, h.nsMap builtinsNs, [t]⟩
noncomputable def nmChk (h : Heap) (g : Addr → Option Obj) (nm : Str) (ps vars : List Str) (ms : List MS) : Bool := (h.nsMap mainGlobals nm).isSome && fnChk g (val h nm) ps vars ms
noncomputable def lookAt (h : Heap) (cs : List Str) : List Addr := cStatics :: cs.flatMap fun n => adr h n :: (match h.get? (adr h n) with
  | some ⟨_, _, .cls cd, _⟩ => cd.ns :: (match h.get? cd.ns with
      | some ⟨_, _, .dict es _, _⟩ => es.toList.filterMap fun e => (match e.val with | .ref a => some a | _ => none)
      | _ => [])
  | _ => [])

noncomputable def fns08 : List (Str × List Str × List Str × List MS) := [
  ("ascii_lower", p_ascii_lower, v_ascii_lower, m_ascii_lower), ("_number_end", p_number_end, v_number_end, m_number_end), ("_hex_end", p_hex_end, v_hex_end, m_hex_end), ("_is_name_start", p_is_name_start, v_is_name_start, m_is_name_start),
  ("_is_ident_start", p_is_ident_start, v_is_ident_start, m_is_ident_start), ("_consume_ident", p_consume_ident, v_consume_ident, m_consume_ident), ("_consume_quoted_string", p_consume_quoted_string, v_consume_quoted_string, m_consume_quoted_string),
  ("_consume_escape", p_consume_escape, v_consume_escape, m_consume_escape), ("_law_WORTH", p_law_WORTH, v_law_WORTH, m_law_WORTH), ("_law_BLANKS", p_law_BLANKS, v_law_BLANKS, m_law_BLANKS), ("_law_TAILS", p_law_TAILS, v_law_TAILS, m_law_TAILS),
  ("_law_ENDS", p_law_ENDS, v_law_ENDS, m_law_ENDS), ("_law_LETTERS", p_law_LETTERS, v_law_LETTERS, m_law_LETTERS), ("_law_NUMBERS", p_law_NUMBERS, v_law_NUMBERS, m_law_NUMBERS), ("_law_SIGNS", p_law_SIGNS, v_law_SIGNS, m_law_SIGNS),
  ("_law_hexed", p_law_hexed, v_law_hexed, m_law_hexed), ("_law_piece", p_law_piece, v_law_piece, m_law_piece), ("_law_mended", p_law_mended, v_law_mended, m_law_mended), ("_law_places", p_law_places, v_law_places, m_law_places),
  ("_law_folded", p_law_folded, v_law_folded, m_law_folded), ("_law_part", p_law_part, v_law_part, m_law_part), ("_law_starts", p_law_starts, v_law_starts, m_law_starts), ("_law_run", p_law_run, v_law_run, m_law_run),
  ("_law_number", p_law_number, v_law_number, m_law_number), ("_law_counted", p_law_counted, v_law_counted, m_law_counted), ("_law_quoted", p_law_quoted, v_law_quoted, m_law_quoted), ("_law_read", p_law_read, v_law_read, m_law_read),
  ("_law_plain", p_law_plain, v_law_plain, m_law_plain), ("_law_told", p_law_told, v_law_told, m_law_told), ("law", p_law, v_law, m_law)]
noncomputable def cls08 : List (Str × List Str × List Str × List MS × List Str) := [
  ("WhitespaceToken", p_WhitespaceToken_init, v_WhitespaceToken_init, m_WhitespaceToken_init, ["value"]), ("LiteralToken", p_WhitespaceToken_init, v_WhitespaceToken_init, m_WhitespaceToken_init, ["value"]),
  ("IdentToken", p_IdentToken_init, v_IdentToken_init, m_IdentToken_init, ["lower_value", "value"]), ("AtKeywordToken", p_IdentToken_init, v_IdentToken_init, m_IdentToken_init, ["lower_value", "value"]),
  ("HashToken", p_HashToken_init, v_HashToken_init, m_HashToken_init, ["is_identifier", "value"]), ("StringToken", p_StringToken_init, v_StringToken_init, m_StringToken_init, ["representation", "value"]),
  ("NumberToken", p_NumberToken_init, v_NumberToken_init, m_NumberToken_init, ["int_value", "is_integer", "representation", "value"]), ("PercentageToken", p_NumberToken_init, v_NumberToken_init, m_NumberToken_init, ["int_value", "is_integer", "representation", "value"]),
  ("DimensionToken", p_DimensionToken_init, v_DimensionToken_init, m_DimensionToken_init, ["int_value", "is_integer", "lower_unit", "representation", "unit", "value"]), ("ParseError", p_ParseError_init, v_ParseError_init, m_ParseError_init, ["kind", "message"])]
noncomputable def names08 : List Str := ["Node", "WhitespaceToken", "LiteralToken", "IdentToken", "AtKeywordToken", "HashToken", "StringToken", "NumberToken", "PercentageToken", "DimensionToken", "ParseError"]
noncomputable def tell08 : List (Str × List Nat × List Str) := [
  ("WhitespaceToken", [119, 104, 105, 116, 101, 115, 112, 97, 99, 101], ["value", "source_column", "source_line"]),
  ("LiteralToken", [108, 105, 116, 101, 114, 97, 108], ["value", "source_column", "source_line"]),
  ("IdentToken", [105, 100, 101, 110, 116], ["lower_value", "value", "source_column", "source_line"]),
  ("AtKeywordToken", [97, 116, 45, 107, 101, 121, 119, 111, 114, 100], ["lower_value", "value", "source_column", "source_line"]),
  ("HashToken", [104, 97, 115, 104], ["is_identifier", "value", "source_column", "source_line"]),
  ("StringToken", [115, 116, 114, 105, 110, 103], ["representation", "value", "source_column", "source_line"]),
  ("NumberToken", [110, 117, 109, 98, 101, 114], ["int_value", "is_integer", "representation", "value", "source_column", "source_line"]),
  ("PercentageToken", [112, 101, 114, 99, 101, 110, 116, 97, 103, 101], ["int_value", "is_integer", "representation", "value", "source_column", "source_line"]),
  ("DimensionToken", [100, 105, 109, 101, 110, 115, 105, 111, 110], ["int_value", "is_integer", "lower_unit", "representation", "unit", "value", "source_column", "source_line"]),
  ("ParseError", [101, 114, 114, 111, 114], ["kind", "message", "source_column", "source_line"])]
noncomputable def ksS : List (List Nat) := [[34], [92], [10], [13], [12]]
noncomputable def vsS : List (List Nat) := [[92, 34], [92, 92], [92, 65, 32], [92, 68, 32], [92, 67, 32]]
noncomputable def gS : GE := .get "_replacement_string_value" ksS vsS
noncomputable def nameL : List (List Nat) := [[115, 116, 97, 114, 116], [102, 105, 103, 117, 114, 101], [104, 121, 112, 104, 101, 110]]
noncomputable def digsL : List (List Nat) := [[48], [49], [50], [51], [52], [53], [54], [55], [56], [57]]

noncomputable def part08 (h : Heap) (c p : Addr) (g : Addr → Option Obj) (K : Frag) : List Bool :=
  [goodChk h [p], fns08.all (fun x => nmChk h g x.1 x.2.1 x.2.2.1 x.2.2.2), (h.nsMap mainGlobals "parse_component_value_list").isSome && fnChk1 g (val h "parse_component_value_list") "css" "skip_comments" v_parse m_parse,
   cls08.all (fun x => h.nsMap mainGlobals x.1 == some (.ref (adr h x.1)) && clsChk g K (adr h x.1) x.2.1 x.2.2.1 x.2.2.2.1 x.2.2.2.2),
   tell08.all (fun x => tellChk K (adr h x.1) x.2.1 x.2.2), (match statOf K h "Node" "__init__" with | some fv => fnChk g fv p_Node_init v_Node_init m_Node_init | none => false),
   (h.nsMap mainGlobals "_DIGITS").isSome && seqChk g "tuple" digsL (val h "_DIGITS"), (h.nsMap mainGlobals "_law_NAME").isSome && seqChk g "list" nameL (val h "_law_NAME"),
   (h.nsMap mainGlobals "_replacement_string_value").isSome && dctChk g ksS vsS (val h "_replacement_string_value"), codeHeadChk g c p,
   (h.nsMap mainGlobals "serialize_string_value").isSome && joinFnChk g (val h "serialize_string_value") gS "value" c, !(p == sysModules)]
noncomputable def chk08 (h : Heap) : Bool := match tabOf h "serialize_string_value" with
  | some (c, p, _) => (part08 h c p (gt h [p]) (frag h [p] (lookAt h names08))).all id
  | none => false
noncomputable def hash08 (s : Shared) : List Int := (dictAt s.heap.get? (val s.heap "_replacement_string_value")).map (·.hash)
noncomputable def obs08 (s : Shared) : Bool × List Int := (chk08 s.heap, hash08 s)
noncomputable def run08 (p : Program) (S : SharedT) (H₀ : Heap) (w : World) := headR obs08 p S H₀ w
end Mine
end

section
set_option tactic.hygienic false
set_option maxRecDepth 100000
set_option maxHeartbeats 0
namespace Mine
open PySem PySem.W PySem.Calls PyProof.Rows
noncomputable def cutC (f : List Bool → List Bool) (h : Heap) : Bool := match tabOf h "serialize_string_value" with
  | some (c, p, _) => (f (part08 h c p (gt h [p]) (frag h [p] (lookAt h names08)))).all id
  | none => false
noncomputable def chkA (h : Heap) : Bool := cutC (List.take 3) h
noncomputable def chkB (h : Heap) : Bool := cutC (List.drop 3) h
theorem all_cut {l : List Bool} {n : Nat} (a : (l.take n).all id = true) (b : (l.drop n).all id = true) : l.all id = true := by
  have := List.all_append (xs := l.take n) (ys := l.drop n) (f := id)
  rw [List.take_append_drop, a, b] at this
  exact this
theorem chk_ab {h : Heap} (a : chkA h = true) (b : chkB h = true) : chk08 h = true := by
  unfold chkA cutC at a
  unfold chkB cutC at b
  unfold chk08
  cases e : tabOf h "serialize_string_value" with
  | none => rw [e] at a; cases a
  | some t => rw [e] at a b; exact all_cut a b
noncomputable def obsB (s : Shared) : Bool × List Int := (chkB s.heap, hash08 s)
theorem run_join {p : Program} {S : SharedT} {H₀ : Heap} {w : World} {good : (Bool × _)} {hs : List Int} (e1 : headR obsB p S H₀ w = some (good, (true, hs)))
    (e2 : (topRunT treeTable p w 11 (some (.ref 6)) 8000 S (topStub p)).map (fun s => chkA s.abs.heap) = some true) : headR obs08 p S H₀ w = some (good, (true, hs)) := by
  unfold headR at *
  cases hr : topRunT treeTable p w 11 (some (.ref 6)) 8000 S (topStub p) with
  | none => rw [hr] at e2; cases e2
  | some s =>
    rw [hr] at e1 e2
    have e1 : (looks p H₀ s.abs, (chkB s.abs.heap, hash08 s.abs)) = (good, (true, hs)) := Option.some.inj e1
    have a : looks p H₀ s.abs = good := congrArg Prod.fst e1
    have b : chkB s.abs.heap = true := congrArg (fun x => x.2.1) e1
    have c : hash08 s.abs = hs := congrArg (fun x => x.2.2) e1
    show some (looks p H₀ s.abs, (chk08 s.abs.heap, hash08 s.abs)) = _
    rw [a, chk_ab (Option.some.inj e2) b, c]
theorem runA_t (w : World) (os : OsState) : (topRunT treeTable PySem.Challenge.pw_qv0004_08 (w.withFollow "special-get-raises" true) 11 (some (.ref 6)) 8000 (S0T (w.withFollow "special-get-raises" true) os) (topStub PySem.Challenge.pw_qv0004_08)).map (fun s => chkA s.abs.heap) = some true := by
  rw [Fast.te8941956224279638915]
  kernel_rfl
theorem runA_f (w : World) (os : OsState) : (topRunT treeTable PySem.Challenge.pw_qv0004_08 (w.withFollow "special-get-raises" false) 11 (some (.ref 6)) 8000 (S0T (w.withFollow "special-get-raises" false) os) (topStub PySem.Challenge.pw_qv0004_08)).map (fun s => chkA s.abs.heap) = some true := by
  rw [Fast.te8941956224279638915]
  kernel_rfl
theorem runB_t (w : World) (os : OsState) : headR obsB PySem.Challenge.pw_qv0004_08 (S0T (w.withFollow "special-get-raises" true) os) (boot_heap (w.withFollow "special-get-raises" true).params) (w.withFollow "special-get-raises" true) =
    some ((true, openGood (lawView PySem.Challenge.pw_qv0004_08) (lawLoose PySem.Challenge.pw_qv0004_08)), (true, ksS.map (fun k => hashStr (w.withFollow "special-get-raises" true) (sOf k)))) := by
  unfold headR
  rw [Fast.te8941956224279638915]
  kernel_rfl
theorem runB_f (w : World) (os : OsState) : headR obsB PySem.Challenge.pw_qv0004_08 (S0T (w.withFollow "special-get-raises" false) os) (boot_heap (w.withFollow "special-get-raises" false).params) (w.withFollow "special-get-raises" false) =
    some ((true, openGood (lawView PySem.Challenge.pw_qv0004_08) (lawLoose PySem.Challenge.pw_qv0004_08)), (true, ksS.map (fun k => hashStr (w.withFollow "special-get-raises" false) (sOf k)))) := by
  unfold headR
  rw [Fast.te8941956224279638915]
  kernel_rfl
theorem run_b (b : Bool) (w : World) (os : OsState) : headR obs08 PySem.Challenge.pw_qv0004_08 (S0T (w.withFollow "special-get-raises" b) os) (boot_heap (w.withFollow "special-get-raises" b).params) (w.withFollow "special-get-raises" b) =
    some ((true, openGood (lawView PySem.Challenge.pw_qv0004_08) (lawLoose PySem.Challenge.pw_qv0004_08)), (true, ksS.map (fun k => hashStr (w.withFollow "special-get-raises" b) (sOf k)))) := by
  cases b
  · exact run_join (runB_f w os) (runA_f w os)
  · exact run_join (runB_t w os) (runA_t w os)
end Mine
end

section
set_option maxRecDepth 100000
set_option maxHeartbeats 0
namespace Mine
open PySem PySem.W
theorem ws_row : PySem.Challenge.rw_qv0004_08.row.wellSaid = true := by
  unfold OpenRow.wellSaid OpenRow.partSaid looksOpen
  repeat' with_reducible refine look_both ?_ ?_
  all_goals kernel_rfl
theorem ws_law : PySem.Challenge.rw_qv0004_08.wellSaid = true := by
  unfold OpenLaw.wellSaid
  repeat' with_reducible refine look_both ?_ ?_
  · exact ws_row
  all_goals kernel_rfl
end Mine
end

section
set_option tactic.hygienic false
set_option genInjectivity false
set_option genSizeOf false
namespace Mine
open PySem PySem.W PySem.Calls PyProof.Rows

theorem sOf_toList (s : List Nat) : (sOf s).cps.toList = s := rfl
theorem sOf_length (s : List Nat) : (sOf s).length = s.length := by simp [Str.length]
theorem sOf_append (a b : List Nat) : sOf a ++ sOf b = sOf (a ++ b) := by
  show Str.append _ _ = _
  simp [Str.append]
theorem sOf_inj {a b : List Nat} (h : sOf a = sOf b) : a = b := by
  have := congrArg (fun s : Str => s.cps.toList) h
  simpa using this
theorem sok_append {a b : List Nat} (ha : sok a) (hb : sok b) (h : a.length + b.length ≤ 16777216) : sok (a ++ b) :=
  ⟨fun c hc => (List.mem_append.mp hc).elim (ha.1 c) (hb.1 c), by simpa using h⟩
theorem sok_sub {a b : List Nat} (ha : sok a) (h : ∀ c ∈ b, c ∈ a) (hl : b.length ≤ a.length) : sok b := ⟨fun c hc => ha.1 c (h c hc), Nat.le_trans hl ha.2⟩
theorem sok_one {c : Nat} (h : c < 1114112) : sok [c] := ⟨fun x hx => by simp at hx; subst hx; exact h, by simp⟩
theorem dec_contains (c : Nat) (b : List Nat) : decide (c ∈ b) = b.contains c := by simp
theorem sizeLine_is : sizeLine = 16777216 := by decide

noncomputable def ZIn (z : PH) (s : Shared) : Prop := ∀ a o, z a = some o → s.heap.get? a = some o
noncomputable def Out (B : Base) (z : PH) (r : PV) (s : Shared) (Q : Value → Shared → Prop) : Prop := ∀ v t, s.toks ≤ t → Rep B z r v → Q v { s with toks := t }

section
variable {B : Base} {z : PH} {s : Shared} {A : Around} {Q : Value → Shared → Prop} {a b r : PV} {va vb : Value} {E : Value → Shared → Prop}

theorem Room.handled {d A} (R : Room d A) : A.handled = none := R.h
theorem Room.units {d A} (R : Room d A) : A.units + 64 < cLine := by have := R.un; show A.units + 64 < 9900; lia

theorem Out.int {i : Int} (h : Out B z (.int i) s Q) {t : Nat} {u : Tok} (ht : s.toks ≤ t) : Q (.int i u) { s with toks := t } := h _ _ ht ⟨u, rfl⟩
theorem Out.bool {b : Bool} (h : Out B z (.bool b) s Q) {t : Nat} (ht : s.toks ≤ t) : Q (.bool b) { s with toks := t } := h _ _ ht rfl
theorem Out.str {x : List Nat} (h : Out B z (.str x) s Q) (hx : sok x) {t : Nat} {u : Tok} (ht : s.toks ≤ t) : Q (.str (sOf x) u) { s with toks := t } := h _ _ ht ⟨hx, u, rfl⟩

theorem small_mul {i j : Int} (h : (small i || small j) = true) : IntMulOk i j := by
  rcases Bool.or_eq_true_iff.mp h with h | h
  · refine IntMulOk.of_left (intBits_le_64 ?_ ?_) <;> simp [small] at h <;> lia
  · refine IntMulOk.of_right (intBits_le_64 ?_ ?_) <;> simp [small] at h <;> lia

theorem add_post {x y : List Nat} {t u : Tok} (sa : sok x) (sb : sok y) (q : x.length + y.length ≤ 16777216) (h : Out B z (.str (x ++ y)) s Q) :
    (if (sOf x).length == 0 then Made.val (.str (sOf y) u) else if (sOf y).length == 0 then Made.val (.str (sOf x) t) else Made.str (sOf x ++ sOf y)).post Q s := by
  rw [sOf_length, sOf_length, sOf_append]
  split
  · rename_i e
    have : x = [] := by simpa using e
    subst this
    exact (h.str sb (by first | exact Nat.le_refl _ | exact Nat.le_succ _ | lia))
  · split
    · rename_i e
      have : y = [] := by simpa using e
      subst this
      rw [List.append_nil] at h
      exact (h.str sa (by first | exact Nat.le_refl _ | exact Nat.le_succ _ | lia))
    · refine ⟨?_, (h.str (sok_append sa sb q) (by first | exact Nat.le_refl _ | exact Nat.le_succ _ | lia))⟩
      rw [sOf_length, sizeLine_is, List.length_append]; exact q


theorem addK_inv {K : PV → Prop} (h : addK a b K) : (∃ i j, a = .int i ∧ b = .int j ∧ K (.int (i + j))) ∨ ∃ x y, a = .str x ∧ b = .str y ∧ x.length + y.length ≤ 16777216 ∧ K (.str (x ++ y)) := by
  cases a with
  | int i => obtain ⟨j, rfl, k⟩ := onInt_inv h; exact .inl ⟨i, j, rfl, rfl, k⟩
  | str x => obtain ⟨y, rfl, k⟩ := onStr_inv h; exact .inr ⟨x, y, rfl, rfl, k⟩
  | _ => exact h.elim
theorem binK_ok {op : Operator} {K : PV → Prop} (hr : binK op a b K) (ra : Rep B z a va) (rb : Rep B z b vb) (h : ∀ r, K r → Out B z r s Q) :
    wpAny (model B.prog B.w) A (binaryOp op va vb) Q E s := by
  cases op with
  | Add =>
    rcases addK_inv hr with ⟨i, j, rfl, rfl, k⟩ | ⟨x, y, rfl, rfl, hl, k⟩
    · obtain ⟨t, rfl⟩ := ra; obtain ⟨u, rfl⟩ := rb
      exact P.add_int ((h _ k).int (by first | exact Nat.le_refl _ | exact Nat.le_succ _ | lia))
    · obtain ⟨sa, t, rfl⟩ := ra; obtain ⟨sb, u, rfl⟩ := rb
      exact P.add_str (add_post sa sb hl (h _ k))
  | Sub =>
    obtain ⟨i, rfl, hr⟩ := onInt_inv hr; obtain ⟨j, rfl, k⟩ := onInt_inv hr; obtain ⟨t, rfl⟩ := ra; obtain ⟨u, rfl⟩ := rb
    exact P.sub_int ((h _ k).int (by first | exact Nat.le_refl _ | exact Nat.le_succ _ | lia))
  | Mult =>
    obtain ⟨i, rfl, hr⟩ := onInt_inv hr; obtain ⟨j, rfl, q, k⟩ := onInt_inv hr; obtain ⟨t, rfl⟩ := ra; obtain ⟨u, rfl⟩ := rb
    exact P.mul_int ((h _ k).int (by first | exact Nat.le_refl _ | exact Nat.le_succ _ | lia)) (small_mul q)
  | FloorDiv =>
    obtain ⟨i, rfl, hr⟩ := onInt_inv hr; obtain ⟨j, rfl, q, k⟩ := onInt_inv hr; obtain ⟨t, rfl⟩ := ra; obtain ⟨u, rfl⟩ := rb
    rw [divI_is] at k
    exact floordiv_int q.2 ((h _ k).int (by first | exact Nat.le_refl _ | exact Nat.le_succ _ | lia)) (.inl (PyProof.noPylong_small q.1))
  | Mod =>
    obtain ⟨i, rfl, hr⟩ := onInt_inv hr; obtain ⟨j, rfl, q, k⟩ := onInt_inv hr; obtain ⟨t, rfl⟩ := ra; obtain ⟨u, rfl⟩ := rb
    rw [modI_is] at k
    exact mod_int' q ((h _ k).int (by first | exact Nat.le_refl _ | exact Nat.le_succ _ | lia))
  | _ => exact hr.elim
theorem aug_ok {K : PV → Prop} (hr : addK a b K) (ra : Rep B z a va) (rb : Rep B z b vb) (h : ∀ r, K r → Out B z r s Q) :
    wpAny (model B.prog B.w) A (inplaceOp .Add va vb) Q E s := by
  rcases addK_inv hr with ⟨i, j, rfl, rfl, k⟩ | ⟨x, y, rfl, rfl, hl, k⟩
  · obtain ⟨t, rfl⟩ := ra; obtain ⟨u, rfl⟩ := rb
    exact P.iadd_int ((h _ k).int (by first | exact Nat.le_refl _ | exact Nat.le_succ _ | lia))
  · obtain ⟨sa, t, rfl⟩ := ra; obtain ⟨sb, u, rfl⟩ := rb
    exact P.iadd_str (add_post sa sb hl (h _ k))

theorem neg_ok {i : Int} (ra : Rep B z (.int i) va) (h : Out B z (.int (-i)) s Q) : wpAny (model B.prog B.w) A (unaryOp .USub va) Q E s := by
  obtain ⟨t, rfl⟩ := ra
  exact P.neg_int (h.int (by first | exact Nat.le_refl _ | exact Nat.le_succ _ | lia))

theorem dec_B (b : Bool) : (dB b).dec = b := by cases b <;> rfl
theorem tr_ok {K : DP → Prop} (hr : tdK a K) (ra : Rep B z a va) {Q : Bool → Shared → Prop} (h : ∀ c : DP, K c → ∀ t, s.toks ≤ t → Q c.dec { s with toks := t }) : wpAny (model B.prog B.w) A (truthy va) Q E s := by
  cases a with
  | none => cases ra; exact fun xx xx xx => h dF hr s.toks (Nat.le_refl _)
  | bool b =>
    cases ra
    have := h _ hr s.toks (Nat.le_refl _)
    rw [dec_B] at this
    exact wpAny_truthy_bool this
  | int i =>
    obtain ⟨t, rfl⟩ := ra
    refine P.truthy_int ?_
    have := h _ hr s.toks (Nat.le_refl _)
    have e : (i != 0) = DP.dec ⟨i ≠ 0, inferInstance⟩ := by
      show _ = decide (i ≠ 0)
      by_cases q : i = 0 <;> simp [q]
    rw [e]; exact this
  | str x =>
    obtain ⟨sa, t, rfl⟩ := ra
    refine P.truthy_str (by rw [sOf_length]; have := sa.2; lia) ?_
    have e : (((sOf x).length : Int) != 0) = DP.dec ⟨x.isEmpty = false, inferInstance⟩ := by
      show _ = decide (x.isEmpty = false)
      rw [sOf_length]; cases x <;> simp
      lia
    rw [e]; exact h _ hr _ (by lia)
  | _ => exact hr.elim

mutual
theorem reads_of : ∀ {p : PV} {v : Value} {d : PyData}, Rep B z p v → toPD p = some d → ZIn z s → (∃ as, Reads s.heap v d as) ∧ d.canLay0 = true
  | .none, _, _, r, h, _ => by cases h; cases r; exact ⟨⟨_, Reads.none⟩, rfl⟩
  | .bool b, _, _, r, h, _ => by cases h; cases r; exact ⟨⟨_, Reads.bool b⟩, rfl⟩
  | .int i, _, _, r, h, _ => by cases h; obtain ⟨t, rfl⟩ := r; exact ⟨⟨_, Reads.int i t⟩, rfl⟩
  | .str x, _, _, r, h, _ => by
    cases h; obtain ⟨sx, t, rfl⟩ := r
    refine ⟨⟨_, Reads.str _ t⟩, ?_⟩
    show (sOf x).cps.all (· < 1114112) = true
    rw [← Array.all_toList]
    exact List.all_eq_true.mpr fun c hc => decide_eq_true (sx.1 c hc)
  | .tup vs, _, _, r, h, zi => by
    obtain ⟨a, n, xs, rfl, h2, h3, h4⟩ := r
    obtain ⟨ds, q, rfl⟩ := Option.map_eq_some_iff.mp h
    obtain ⟨⟨as, q1⟩, q2⟩ := readsL_of h3 q zi
    exact ⟨⟨_, reads_tuple_at (zi _ _ h2) rfl rfl q1⟩, q2⟩
  | .lst vs, _, _, r, h, zi => by
    obtain ⟨a, n, xs, rfl, h2, h3, h4⟩ := r
    obtain ⟨ds, q, rfl⟩ := Option.map_eq_some_iff.mp h
    obtain ⟨⟨as, q1⟩, q2⟩ := readsL_of h3 q zi
    exact ⟨⟨_, reads_list_at (zi _ _ h2) rfl rfl q1⟩, q2⟩
  | .node _ _, _, _, _, h, _ => by cases h
  | .dct _ _, _, _, _, h, _ => by cases h
  | .ref _, _, _, _, h, _ => by cases h
theorem readsL_of : ∀ {ps : List PV} {vs : List Value} {ds : List PyData}, RepL B z ps vs → toPDs ps = some ds → ZIn z s → (∃ as, ReadsAll s.heap vs ds as) ∧ PyData.canLayAll0 ds = true
  | [], _, _, r, h, _ => by cases h; cases r; exact ⟨⟨_, ReadsAll.nil⟩, rfl⟩
  | p :: ps, _, ds, r, h, zi => by
    obtain ⟨v, vs, rfl, h2, h3⟩ := r
    obtain ⟨x, hx, h⟩ := Option.bind_eq_some_iff.mp h
    obtain ⟨y, hy, h⟩ := Option.bind_eq_some_iff.mp h
    cases h
    obtain ⟨⟨as, q1⟩, q2⟩ := reads_of h2 hx zi
    obtain ⟨⟨bs, q3⟩, q4⟩ := readsL_of h3 hy zi
    exact ⟨⟨_, ReadsAll.cons q1 q3⟩, Bool.and_eq_true_iff.mpr ⟨q2, q4⟩⟩
end

theorem eqPD_ok {c : Bool} (hr : eqPD a b = some c) (ra : Rep B z a va) (rb : Rep B z b vb) (zi : ZIn z s) (hu : A.units + 64 < cLine) (h : Q (.bool c) s) :
    wpAny (model B.prog B.w) A (compareOp .Eq va vb) Q E s := by
  obtain ⟨x, hx, hr⟩ := Option.bind_eq_some_iff.mp hr
  obtain ⟨y, hy, hr⟩ := Option.bind_eq_some_iff.mp hr
  by_cases q : x.depth ≤ 60 ∧ y.depth ≤ 60
  · rw [if_pos q] at hr
    obtain ⟨⟨as, q1⟩, q2⟩ := reads_of ra hx zi
    obtain ⟨⟨bs, q3⟩, q4⟩ := reads_of rb hy zi
    cases hr
    exact eq_dataH q1 q3 (Bool.and_eq_true_iff.mpr ⟨q2, decide_eq_true (Nat.le_trans q.1 (by decide))⟩) (Bool.and_eq_true_iff.mpr ⟨q4, decide_eq_true (Nat.le_trans q.2 (by decide))⟩) hu h
  · rw [if_neg q] at hr; cases hr


theorem beq_dec {α : Type} [BEq α] [LawfulBEq α] [DecidableEq α] (x y : α) : (x == y) = DP.dec ⟨x = y, inferInstance⟩ := by
  show _ = decide (x = y)
  rw [Bool.eq_iff_iff]; simp
theorem eqK_ok {K : DP → Prop} (hr : eqK a b K) (ra : Rep B z a va) (rb : Rep B z b vb) (zi : ZIn z s) (hu : A.units + 64 < cLine) (h : ∀ c : DP, K c → Q (.bool c.dec) s) :
    wpAny (model B.prog B.w) A (compareOp .Eq va vb) Q E s := by
  cases a with
  | str x => cases b with
    | str y => obtain ⟨_, t, rfl⟩ := ra; obtain ⟨_, u, rfl⟩ := rb; exact P.eq_str (by show Q (.bool (x == y)) s; rw [beq_dec]; exact h _ hr)
    | none => obtain ⟨_, t, rfl⟩ := ra; cases rb; exact EqNone.eq_str_none (h dF hr)
    | _ => exact hr.elim
  | int x => cases b with
    | int y => obtain ⟨t, rfl⟩ := ra; obtain ⟨u, rfl⟩ := rb; exact P.eq_int (by rw [beq_dec]; exact h _ hr)
    | none => obtain ⟨t, rfl⟩ := ra; cases rb; exact EqNone.eq_int_none (h dF hr)
    | _ => exact hr.elim
  | bool x => cases b with
    | bool y => cases ra; cases rb; exact eq_bool (by rw [beq_dec]; exact h _ hr)
    | _ => exact hr.elim
  | none => cases b with
    | none => cases ra; cases rb; exact EqNone.eq_none_none (h dT hr)
    | str y => cases ra; obtain ⟨_, t, rfl⟩ := rb; exact EqNone.eq_none_str (h dF hr)
    | int y => cases ra; obtain ⟨t, rfl⟩ := rb; exact EqNone.eq_none_int (h dF hr)
    | _ => exact hr.elim
  | tup x => obtain ⟨c, e, k⟩ := hr; exact eqPD_ok e ra rb zi hu (by have := h _ k; rwa [dec_B] at this)
  | lst x => obtain ⟨c, e, k⟩ := hr; exact eqPD_ok e ra rb zi hu (by have := h _ k; rwa [dec_B] at this)
  | _ => exact hr.elim

theorem strsAre_of : ∀ {ps : List PV} {vs : List Value} {l : List (List Nat)}, RepL B z ps vs → allStr ps = some l → StrsAre vs (l.map sOf) ∧ ∀ x ∈ l, sok x
  | [], _, _, r, h => by cases h; cases r; exact ⟨.nil, fun xx h => nomatch h⟩
  | p :: ps, _, l, r, h => by
    obtain ⟨v, vs, rfl, h2, h3⟩ := r
    obtain ⟨s', q, h⟩ := Option.bind_eq_some_iff.mp h
    obtain ⟨l', q1, rfl⟩ := Option.map_eq_some_iff.mp h
    obtain ⟨q2, q3⟩ := strsAre_of h3 q1
    cases p with
    | str x =>
      cases q
      obtain ⟨sx, t, rfl⟩ := h2
      exact ⟨.cons _ _ q2, fun x hx => by rcases List.mem_cons.mp hx with rfl | hx; exact sx; exact q3 x hx⟩
    | _ => cases q

theorem any_sOf (l : List (List Nat)) (x : List Nat) : ((l.map sOf).any (· == sOf x)) = l.contains x := by
  rw [Bool.eq_iff_iff]
  simp only [List.any_map, List.any_eq_true, Function.comp, beq_iff_eq, List.contains_iff_mem]
  constructor
  · rintro ⟨y, hy, e⟩; rw [← sOf_inj e]; exact hy
  · intro h; exact ⟨x, h, rfl⟩

theorem PMapOf.heap {prog w z a f} {h : Heap} (m : PMapOf prog w z a f) (zi : ∀ a o, z a = some o → h.get? a = some o) : h.MapOf (strKind prog w) a f :=
by
  obtain ⟨o, es, ep, h1, h2, h3, h4, h5, _⟩ := m; exact ⟨o, es, ep, zi _ _ h1, h2, h3, h4, h5⟩

theorem assocL_isSome : ∀ {ks : List (List Nat)} {xs : List Value} {k : List Nat}, ks.length = xs.length → (assocL (sOf k) ks xs).isSome = ks.contains k
  | [], _, _, _ => rfl
  | c :: ks, [], _, h => nomatch h
  | c :: ks, v :: xs, k, h => by
    show (if sOf c = sOf k then some v else assocL (sOf k) ks xs).isSome = _
    by_cases hk : c = k
    · subst hk; simp
    · rw [if_neg (fun e => hk (sOf_inj e)), assocL_isSome (by simpa using h)]
      simp [List.contains_cons, Ne.symm hk]
theorem assocL_some : ∀ {ks : List (List Nat)} {ps : List PV} {xs : List Value} {k : List Nat} {p : PV}, RepL B z ps xs → assocP k ks ps = some p → ∃ v, assocL (sOf k) ks xs = some v ∧ Rep B z p v
  | [], ps, _, _, _, _, h => by cases ps <;> cases h
  | c :: ks, [], _, _, _, _, h => by cases h
  | c :: ks, q :: ps, _, k, p, r, h => by
    obtain ⟨v, vs, rfl, h2, h3⟩ := r
    replace h : (if c = k then some q else assocP k ks ps) = some p := h
    show ∃ w, (if sOf c = sOf k then some v else assocL (sOf k) ks vs) = some w ∧ _
    by_cases e : c = k
    · rw [if_pos e] at h; cases h; subst e; exact ⟨v, if_pos rfl, h2⟩
    · rw [if_neg e] at h; rw [if_neg (fun q => e (sOf_inj q))]; exact assocL_some h3 h
theorem assocL_none : ∀ {ks : List (List Nat)} {ps : List PV} {xs : List Value} {k : List Nat}, RepL B z ps xs → assocP k ks ps = none → assocL (sOf k) ks xs = none
  | [], ps, _, _, _, _ => rfl
  | c :: ks, [], _, _, r, h => by cases r; rfl
  | c :: ks, q :: ps, _, k, r, h => by
    obtain ⟨v, vs, rfl, h2, h3⟩ := r
    replace h : (if c = k then some q else assocP k ks ps) = none := h
    show (if sOf c = sOf k then some v else assocL (sOf k) ks vs) = none
    by_cases e : c = k
    · rw [if_pos e] at h; cases h
    · rw [if_neg e] at h; rw [if_neg (fun q => e (sOf_inj q))]; exact assocL_none h3 h

end
end Mine
end

section
set_option tactic.hygienic false
set_option genInjectivity false
set_option genSizeOf false
namespace Mine
open PySem PySem.W PySem.Calls PyProof.Rows
section
variable {B : Base} {z : PH} {s : Shared} {A : Around} {Q : Value → Shared → Prop} {a b r : PV} {va vb : Value} {E : Value → Shared → Prop} {d : Nat}

theorem none_dec (ra : Rep B z a va) : (va == Value.none) = isN a := by
  cases a with
  | none => cases ra; rfl
  | bool b => cases ra; rfl
  | int i => obtain ⟨t, rfl⟩ := ra; rfl
  | str i => obtain ⟨_, t, rfl⟩ := ra; rfl
  | tup vs => obtain ⟨_, _, _, rfl, _⟩ := ra; rfl
  | lst vs => obtain ⟨_, _, _, rfl, _⟩ := ra; rfl
  | node c vs => obtain ⟨_, _, _, _, rfl, _⟩ := ra; rfl
  | dct c vs => obtain ⟨_, _, rfl, _⟩ := ra; rfl
  | ref a => cases ra; rfl
theorem bne_dec {α : Type} [BEq α] [LawfulBEq α] [DecidableEq α] (x y : α) : (x != y) = DP.dec ⟨x ≠ y, inferInstance⟩ := by
  show _ = decide (x ≠ y)
  rw [Bool.eq_iff_iff]; simp
theorem cont_dec {α : Type} [BEq α] [LawfulBEq α] [DecidableEq α] (x : α) (l : List α) : l.contains x = DP.dec ⟨x ∈ l, inferInstance⟩ := by
  show _ = decide (x ∈ l)
  rw [Bool.eq_iff_iff]; simp
theorem not_dec (c : DP) : (!c.dec) = c.not.dec := by
  obtain ⟨p, i⟩ := c
  show (!decide p) = decide (¬ p)
  simp
theorem lt_chr (a b : Nat) : [a] < [b] ↔ a < b := by
  rw [List.cons_lt_cons_iff]; simp
theorem inS_ok {x : List Nat} {K : DP → Prop} (hr : inSK x b K) (ra : Rep B z (.str x) va) (rb : Rep B z b vb) (zi : ZIn z s) (h : ∀ c : DP, K c → ∀ t, s.toks ≤ t → Q (.bool c.dec) { s with toks := t }) :
    wpAny (model B.prog B.w) A (compareOp .In va vb) Q E s := by
  obtain ⟨_, t, rfl⟩ := ra
  cases b with
  | tup vs =>
    obtain ⟨y, n, xs, rfl, hz, hl, _⟩ := rb
    obtain ⟨l, q, hr⟩ := onStrs_inv hr
    refine in_tuple_strs ⟨_, zi _ _ hz, rfl, _, rfl⟩ (strsAre_of hl q).1 ?_
    rw [any_sOf, cont_dec]; exact h _ hr s.toks (Nat.le_refl _)
  | lst vs =>
    obtain ⟨y, n, xs, rfl, hz, hl, _⟩ := rb
    obtain ⟨l, q, hr⟩ := onStrs_inv hr
    refine in_list_strs (vs := xs.toList) ⟨_, zi _ _ hz, rfl, _, rfl⟩ (strsAre_of hl q).1 ?_
    rw [any_sOf, cont_dec]; exact h _ hr s.toks (Nat.le_refl _)
  | dct ks vs =>
    obtain ⟨y, xs, rfl, hs, hlen, hl, hm⟩ := rb
    refine wpAny_in_of (strKind_is _ _ _ _) hs (hm.heap zi) ?_
    rw [assocL_isSome (by rw [hl.length]; exact hlen), cont_dec]
    exact h _ hr _ (by lia)
  | str b =>
    obtain ⟨_, u, rfl⟩ := rb
    cases x with
    | nil => exact hr.elim
    | cons c r => cases r with
      | cons _ _ => exact hr.elim
      | nil =>
        refine in_str ?_
        rw [StrLaws.found_one, dec_contains, cont_dec]
        exact h _ hr s.toks (Nat.le_refl _)
  | _ => exact hr.elim
theorem in_ok {K : DP → Prop} (hr : inK a b K) (ra : Rep B z a va) (rb : Rep B z b vb) (zi : ZIn z s) (R : Room d A) (h : ∀ c : DP, K c → ∀ t, s.toks ≤ t → Q (.bool c.dec) { s with toks := t }) :
    wpAny (model B.prog B.w) A (compareOp .In va vb) Q E s := by
  cases a with
  | str x => exact inS_ok hr ra rb zi h
  | lst x =>
    cases b with
    | lst y =>
      replace hr : inLK (.lst x) (.lst y) K := hr
      unfold inLK at hr
      obtain ⟨d', xs', q1, q2, q, k⟩ := hr
      obtain ⟨⟨as, e1⟩, e2⟩ := reads_of ra q1 zi
      obtain ⟨⟨bs, e3⟩, e4⟩ := reads_of (p := .lst y) (d := .list xs') rb (by show (toPDs y).map PyData.list = _; rw [q2]; rfl) zi
      have := h _ k s.toks (Nat.le_refl _)
      rw [dec_B] at this
      refine SeqAt.in_list_reads e3 e1 (by simpa [PyData.canLay0] using e4) e2 ?_ this
      have := Nat.min_le_right (PyData.depthAll xs') d'.depth
      have := R.units
      show _ < 9900
      have h9 : cLine = 9900 := rfl
      lia
    | _ => replace hr : inLK _ _ _ := hr; unfold inLK at hr; exact hr.elim
  | _ => exact hr.elim
theorem notin_ok {K : DP → Prop} (hr : cmpK .NotIn a b K) (ra : Rep B z a va) (rb : Rep B z b vb) (zi : ZIn z s) (h : ∀ c : DP, K c → ∀ t, s.toks ≤ t → Q (.bool c.dec) { s with toks := t }) :
    wpAny (model B.prog B.w) A (compareOp .NotIn va vb) Q E s := by
  cases b with
  | tup vs =>
    obtain ⟨x, rfl, hr⟩ := onStr_inv hr
    obtain ⟨_, t, rfl⟩ := ra
    obtain ⟨y, n, xs, rfl, hz, hl, _⟩ := rb
    obtain ⟨l, q, hr⟩ := onStrs_inv hr
    refine notin_tuple_strs ⟨_, zi _ _ hz, rfl, _, rfl⟩ (strsAre_of hl q).1 ?_
    rw [any_sOf, cont_dec, not_dec]; exact h _ hr s.toks (Nat.le_refl _)
  | str b =>
    obtain ⟨x, rfl, hr⟩ := onStr_inv hr
    obtain ⟨_, t, rfl⟩ := ra
    obtain ⟨_, u, rfl⟩ := rb
    cases x with
    | nil => exact hr.elim
    | cons c r => cases r with
      | cons _ _ => exact hr.elim
      | nil =>
        refine notIn_str ?_
        rw [StrLaws.found_one, dec_contains, cont_dec, not_dec]
        exact h _ hr s.toks (Nat.le_refl _)
  | _ => exact hr.elim
theorem cmpK_ok {op : CmpOp} {K : DP → Prop} (hr : cmpK op a b K) (ra : Rep B z a va) (rb : Rep B z b vb) (zi : ZIn z s) (R : Room d A) (h : ∀ c : DP, K c → ∀ t, s.toks ≤ t → Q (.bool c.dec) { s with toks := t }) :
    wpAny (model B.prog B.w) A (compareOp op va vb) Q E s := by
  cases op with
  | Eq => exact eqK_ok hr ra rb zi R.units fun c k => h c k s.toks (Nat.le_refl _)
  | NotEq =>
    cases a with
    | str x =>
      obtain ⟨y, rfl, k⟩ := onStr_inv hr; obtain ⟨_, t, rfl⟩ := ra; obtain ⟨_, u, rfl⟩ := rb
      refine P.ne_str ?_
      show Q (.bool (x != y)) s
      rw [bne_dec]; exact h _ k s.toks (Nat.le_refl _)
    | int x =>
      obtain ⟨y, rfl, k⟩ := onInt_inv hr; obtain ⟨t, rfl⟩ := ra; obtain ⟨u, rfl⟩ := rb
      refine P.ne_int ?_
      rw [bne_dec]; exact h _ k s.toks (Nat.le_refl _)
    | _ => exact hr.elim
  | Lt =>
    obtain ⟨x, rfl, hr⟩ := onInt_inv hr; obtain ⟨y, rfl, k⟩ := onInt_inv hr; obtain ⟨t, rfl⟩ := ra; obtain ⟨u, rfl⟩ := rb
    exact P.lt_int (h _ k s.toks (Nat.le_refl _))
  | Gt =>
    cases a with
    | int x =>
      obtain ⟨y, rfl, k⟩ := onInt_inv hr; obtain ⟨t, rfl⟩ := ra; obtain ⟨u, rfl⟩ := rb
      exact P.gt_int (h _ k s.toks (Nat.le_refl _))
    | str x =>
      cases x with
      | nil => exact hr.elim
      | cons x r => cases r with
        | cons _ _ => exact hr.elim
        | nil =>
          obtain ⟨y, rfl, k⟩ := onStr_inv hr
          cases y with
          | nil => exact k.elim
          | cons y r => cases r with
            | cons _ _ => exact k.elim
            | nil =>
              obtain ⟨_, t, rfl⟩ := ra; obtain ⟨_, u, rfl⟩ := rb
              refine P.gt_str ?_
              show Q (.bool (decide ([y] < [x]))) s
              have e : (decide ([y] < [x])) = DP.dec ⟨y < x, inferInstance⟩ := by
                show _ = decide (y < x)
                rw [Bool.eq_iff_iff, decide_eq_true_eq, decide_eq_true_eq, lt_chr]
              rw [e]; exact h _ k s.toks (Nat.le_refl _)
    | _ => exact hr.elim
  | GtE =>
    obtain ⟨x, rfl, hr⟩ := onInt_inv hr; obtain ⟨y, rfl, k⟩ := onInt_inv hr; obtain ⟨t, rfl⟩ := ra; obtain ⟨u, rfl⟩ := rb
    exact P.ge_int (h _ k s.toks (Nat.le_refl _))
  | LtE =>
    cases a with
    | int x =>
      obtain ⟨y, rfl, k⟩ := onInt_inv hr; obtain ⟨t, rfl⟩ := ra; obtain ⟨u, rfl⟩ := rb
      exact P.le_int (h _ k s.toks (Nat.le_refl _))
    | str x =>
      cases x with
      | nil => exact hr.elim
      | cons x r => cases r with
        | cons _ _ => exact hr.elim
        | nil =>
          obtain ⟨y, rfl, k⟩ := onStr_inv hr
          cases y with
          | nil => exact k.elim
          | cons y r => cases r with
            | cons _ _ => exact k.elim
            | nil =>
              obtain ⟨_, t, rfl⟩ := ra; obtain ⟨_, u, rfl⟩ := rb
              refine P.le_str ?_
              show Q (.bool (!decide ([y] < [x]))) s
              have e : (!decide ([y] < [x])) = DP.dec ⟨x ≤ y, inferInstance⟩ := by
                show _ = decide (x ≤ y)
                rw [Bool.eq_iff_iff]
                simp only [Bool.not_eq_true', decide_eq_false_iff_not, decide_eq_true_eq, lt_chr]
                lia
              rw [e]; exact h _ k s.toks (Nat.le_refl _)
    | _ => exact hr.elim
  | Is =>
    cases b with
    | none =>
      cases rb
      refine is_none ?_
      rw [none_dec ra, ← dec_B (isN a)]; exact h _ hr s.toks (Nat.le_refl _)
    | _ => exact hr.elim
  | IsNot =>
    cases b with
    | none =>
      cases rb
      refine isNot_none ?_
      have e : (!(va == Value.none)) = DP.dec ⟨isN a = false, inferInstance⟩ := by
        rw [none_dec ra]
        show _ = decide (isN a = false)
        cases isN a <;> rfl
      rw [e]; exact h _ hr s.toks (Nat.le_refl _)
    | _ => exact hr.elim
  | In => exact in_ok hr ra rb zi R h
  | NotIn => exact notin_ok hr ra rb zi h
end
end Mine
end

section
set_option tactic.hygienic false
set_option genInjectivity false
set_option genSizeOf false
namespace Mine
open PySem PySem.W PySem.Calls PyProof.Rows PySem.Builtin PySem.Builtin.Str

section
variable {B : Base} {z : PH} {s : Shared} {A : Around} {Q : Value → Shared → Prop} {a b r : PV} {va vb : Value} {E : Value → Shared → Prop}

theorem seqIndex_nonneg {i : Int} {n : Nat} (h0 : 0 ≤ i) (h1 : i.toNat < n) : seqIndex? i n = some i.toNat := by
  unfold seqIndex?
  simp only []
  have h2 : ¬ i < 0 := by lia
  rw [if_neg h2]
  have h3 : (decide (0 ≤ i) && decide (i < (n : Int))) = true := by simp only [Bool.and_eq_true, decide_eq_true_eq]; lia
  rw [if_pos h3]

theorem idxK_ok {value slice : Expr} {K : PV → Prop} (hr : idxK a b K) (ra : Rep B z a va) (rb : Rep B z b vb) (zi : ZIn z s)
    (hs : subscripted slice false va vb = operate [va, vb] (getItem va vb)) (h : ∀ r, K r → Out B z r s Q) :
    wpAny (model B.prog B.w) A (subscriptTail value slice va vb) Q E s := by
  cases a with
  | str x =>
    obtain ⟨i, rfl, c, hc, k⟩ := onNat_inv hr
    obtain ⟨sx, t, rfl⟩ := ra; obtain ⟨u, rfl⟩ := rb
    have hlt : i < x.length := (List.getElem?_eq_some_iff.mp hc).1
    have hcm : c ∈ x := List.mem_of_getElem? hc
    refine tail_any (typeIs_str s _ _) slot_str_getitem.lookup (getItem_str (c := c) ?_ ?_ ((h _ k).str (x := [c]) (sok_one (sx.1 c hcm)) (by first | exact Nat.le_refl _ | exact Nat.le_succ _ | lia))) hs
    · have := sx.2
      simp only [Bool.or_eq_false_iff, decide_eq_false_iff_not]
      lia
    · rw [sOf_length, seqIndex_nonneg (Int.natCast_nonneg i) (by simpa using hlt)]
      simpa using hc
  | tup xs =>
    obtain ⟨i, rfl, p, hp, k⟩ := onNat_inv hr
    obtain ⟨x, n, vs, rfl, hz, hl, hsz⟩ := ra; obtain ⟨u, rfl⟩ := rb
    obtain ⟨v, hv, rv⟩ := hl.get hp
    have hlt : i < vs.size := by simpa using (List.getElem?_eq_some_iff.mp hv).1
    rw [sizeLine_is] at hsz
    exact tail_any ⟨_, zi _ _ hz, rfl⟩ slot_tuple_getitem.lookup (getItem_tuple ⟨_, zi _ _ hz, rfl, _, rfl⟩ (by lia) (by lia) (seqIndex_nonneg (Int.natCast_nonneg i) (by simpa using hlt)) (by simpa using hv) (h _ k _ _ (Nat.le_refl _) rv)) hs
  | lst xs =>
    obtain ⟨i, rfl, p, hp, k⟩ := onNat_inv hr
    obtain ⟨x, n, vs, rfl, hz, hl, hsz⟩ := ra; obtain ⟨u, rfl⟩ := rb
    obtain ⟨v, hv, rv⟩ := hl.get hp
    have hlt : i < vs.size := by simpa using (List.getElem?_eq_some_iff.mp hv).1
    rw [sizeLine_is] at hsz
    exact tail_any ⟨_, zi _ _ hz, rfl⟩ slot_list_getitem.lookup (wpAny_getItem_list ⟨_, zi _ _ hz, rfl, _, rfl⟩ (by lia) (by lia) (by simpa using hv) (h _ k _ _ (Nat.le_refl _) rv)) hs
  | dct ks ps =>
    obtain ⟨key, rfl, p, hp, k⟩ := onStr_inv hr
    obtain ⟨x, xs, rfl, hs', hlen, hl, hm⟩ := ra; obtain ⟨_, u, rfl⟩ := rb
    obtain ⟨v, hv, rv⟩ := assocL_some hl hp
    obtain ⟨o, es, ep, h1, h2, h3, h4⟩ := _root_.id hm
    exact tail_any ⟨_, zi _ _ h1, h2.1⟩ slot_dict_getitem.lookup (wpAny_getItem_of (strKind_is _ _ _ _) (hm.heap zi) hv (h _ k _ _ (Nat.le_succ _) rv)) hs
  | _ => exact hr.elim

theorem lo_inv {n : Nat} {l : PV} {vl : Value} {k : Nat → Prop} (h : loK l k) (rl : Rep B z l vl) : ∃ (a : Nat) (o : Option (Int × Tok)), vl = partValue o ∧ kms_lo (o.map (·.1)) n = min a n ∧ k a := by
  cases l with
  | none => cases rl; exact ⟨0, none, rfl, by simp [kms_lo], h⟩
  | int i => cases i with
    | ofNat a =>
      obtain ⟨t, rfl⟩ := rl
      refine ⟨a, some (_, t), rfl, ?_, h⟩
      simp only [Option.map_some, kms_lo]
      rw [if_neg (by simp)]; simp
    | negSucc _ => exact h.elim
  | _ => exact h.elim
theorem hi_inv {n : Nat} {l : PV} {vl : Value} {k : Nat → Prop} (h : hiK n l k) (rl : Rep B z l vl) : ∃ (a : Nat) (o : Option (Int × Tok)), vl = partValue o ∧ kms_hi (o.map (·.1)) n = min a n ∧ k a := by
  cases l with
  | none => cases rl; exact ⟨n, none, rfl, by simp [kms_hi], h⟩
  | int i => cases i with
    | ofNat a =>
      obtain ⟨t, rfl⟩ := rl
      refine ⟨a, some (_, t), rfl, ?_, h⟩
      simp only [Option.map_some, kms_hi]
      rw [if_neg (by simp)]; simp
    | negSucc m =>
      obtain ⟨t, rfl⟩ := rl
      refine ⟨n - (m + 1), some (_, t), rfl, ?_, h⟩
      simp only [Option.map_some, kms_hi]
      rw [if_pos (Int.negSucc_lt_zero m)]; lia
  | _ => exact h.elim
theorem cut_min {α : Type} (s : List α) (a b : Nat) : (s.drop (min a s.length)).take (min b s.length - min a s.length) = (s.drop a).take (b - a) := by
  rcases Nat.le_total a s.length with h | h
  · rw [Nat.min_eq_left h]
    rcases Nat.le_total b s.length with h' | h'
    · rw [Nat.min_eq_left h']
    · rw [Nat.min_eq_right h', List.take_of_length_le (by simp), List.take_of_length_le (by simp; lia)]
  · rw [Nat.min_eq_right h, List.drop_length, List.drop_eq_nil_of_le h]; simp

theorem part_of (o : Option (Int × Tok)) : IsPart (partValue o) (o.map (·.1)) := by
  cases o with
  | none => exact .none
  | some p => exact .int _ _

theorem strSlice_eq (l u : Option Int) (x : List Nat) : (strSliceIndices l u 1 x.length).filterMap ((sOf x).cps[·]?) = (x.drop (kms_lo l x.length)).take (kms_hi u x.length - kms_lo l x.length) := by
  have e : strSliceIndices l u 1 x.length = sliceRange (sliceBounds l u none x.length).1 (sliceBounds l u none x.length).2.1 1 := rfl
  rw [e, kms_bounds, sliceRange_one, pick_run]

theorem slcK_ok {value : Expr} {lo hi : Option Expr} {pos : Pos} {l u : PV} {vl vu : Value} {sl : Addr} {K : PV → Prop} (hr : slcK a l u K) (ra : Rep B z a va) (rl : Rep B z l vl) (ru : Rep B z u vu) (zi : ZIn z s)
    (hsl : s.heap.get? sl = some { cls := .type "slice", data := .fields #[vl, vu, .none] })
    (h1 : ∀ r, K r → Out B z r s Q)
    (h2 : ∀ r, K r → ∀ o, o.isFreed = false → Rep B (zadd z s.heap.objs.size o) r (.ref s.heap.objs.size) → Q (.ref s.heap.objs.size) { s with heap := s.heap.push o }) (hz : z s.heap.objs.size = none) :
    wpAny (model B.prog B.w) A (subscriptTail value (.Slice lo hi none pos) va (.ref sl)) Q E s := by
  cases a with
  | str x =>
    obtain ⟨sx, t, rfl⟩ := ra
    obtain ⟨ka, ol, rfl, el, hr⟩ := lo_inv (n := x.length) (k := fun a => hiK x.length u fun b => K (.str ((x.drop a).take (b - a)))) hr rl
    obtain ⟨kb, ou, rfl, eu, k⟩ := hi_inv hr ru
    refine tail_any (typeIs_str s _ _) slot_str_getitem.lookup (wpAny_getItem_str_slice (l := ol) (u := ou) (st := none) ⟨_, hsl, rfl, rfl⟩ rfl ?_) rfl
    have hsub : ∀ c ∈ (x.drop ka).take (kb - ka), c ∈ x := fun c hc => List.mem_of_mem_drop (List.mem_of_mem_take hc)
    have hlen : ((x.drop ka).take (kb - ka)).length ≤ x.length := by
      rw [List.length_take, List.length_drop]; lia
    have hp : (slicePicked (sOf x) ol ou none).filterMap ((sOf x).cps[·]?) = (x.drop ka).take (kb - ka) := by
      unfold slicePicked
      rw [sOf_length]
      show (strSliceIndices _ _ 1 _).filterMap _ = _
      rw [strSlice_eq, el, eu, cut_min]
    unfold sliceMade
    split
    · rename_i q
      have hq : (slicePicked (sOf x) ol ou none).length = x.length := by
        have := (Bool.and_eq_true_iff.mp q).2
        rw [sOf_length] at this
        simpa using this
      have : (x.drop ka).take (kb - ka) = x := by
        have e1 : (slicePicked (sOf x) ol ou none) = (List.range (min kb x.length - min ka x.length)).map (min ka x.length + ·) := by
          unfold slicePicked
          rw [sOf_length]
          show strSliceIndices _ _ 1 _ = _
          have e : strSliceIndices (ol.map (·.1)) (ou.map (·.1)) 1 x.length = sliceRange (sliceBounds (ol.map (·.1)) (ou.map (·.1)) none x.length).1 (sliceBounds (ol.map (·.1)) (ou.map (·.1)) none x.length).2.1 1 := rfl
          rw [e, kms_bounds, sliceRange_one, el, eu]
        rw [e1] at hq
        simp only [List.length_map, List.length_range] at hq
        rcases (by lia : ka = 0 ∨ x.length = 0) with h0 | h0
        · subst h0
          rw [List.drop_zero]
          exact List.take_of_length_le (by lia)
        · have : x = [] := List.length_eq_zero_iff.mp h0
          subst this
          simp
      have h1 := h1 _ k
      rw [this] at h1
      exact h1.str sx (by first | exact Nat.le_refl _ | exact Nat.le_succ _ | lia)
    · rw [hp]
      refine ⟨?_, ((h1 _ k).str (sok_sub sx hsub hlen) (by first | exact Nat.le_refl _ | exact Nat.le_succ _ | lia))⟩
      show (sOf _).length ≤ _
      rw [sOf_length, sizeLine_is]
      exact Nat.le_trans hlen sx.2
  | lst xs =>
    obtain ⟨x, n, vs, rfl, hzx, hl, hsz⟩ := ra
    obtain ⟨ka, ol, rfl, el, hr⟩ := lo_inv (n := xs.length) (k := fun a => hiK xs.length u fun b => K (.lst ((xs.drop a).take (b - a)))) hr rl
    obtain ⟨kb, ou, rfl, eu, k⟩ := hi_inv hr ru
    have elen : vs.toList.length = xs.length := hl.length
    refine tail_any ⟨_, zi _ _ hzx, rfl⟩ slot_list_getitem.lookup (wpAny_getItem_list_slice ⟨_, zi _ _ hzx, rfl, _, rfl⟩ ⟨_, hsl, rfl, rfl⟩ (part_of ol) (part_of ou) .none (by simp) ?_ hsz) rfl
    rw [kms_pick_eq]
    unfold kms_pick
    rw [elen, el, eu, ← elen, cut_min]
    refine h2 _ k _ rfl ⟨_, 0, _, rfl, zadd_self _ _ _, ?_, ?_⟩
    · exact RepL.mono (zadd_le hz) ((hl.drop ka).take (kb - ka))
    · have : ((vs.toList.drop ka).take (kb - ka)).length ≤ vs.size := by
        rw [List.length_take, List.length_drop, Array.length_toList]; lia
      simpa using Nat.le_trans this hsz
  | _ => exact hr.elim
end
end Mine
end

section
set_option tactic.hygienic false
set_option maxRecDepth 100000
set_option genInjectivity false
set_option genSizeOf false
namespace Mine
open PySem PySem.W PySem.Calls PyProof.Rows PySem.Builtin PySem.Builtin.Str PySem.NumText

namespace Hex
theorem blank_hex {c : Nat} (h : isHex c = true) : blank c = false := by
  refine blank_of ?_
  unfold isHex hexV at h
  split at h
  · lia
  · split at h
    · lia
    · split at h
      · lia
      · cases h
theorem digit_hex {c : Nat} (h : isHex c = true) : digit? c = some ((hexV c).getD 0) ∧ (hexV c).getD 0 < 16 ∧ c < 128 ∧ c ≠ 95 ∧ c ≠ 0 ∧ c ≠ 45 ∧ c ≠ 43 := by
  unfold isHex at h
  unfold digit?
  unfold hexV at h ⊢
  split at h
  · rename_i q
    rw [if_pos q]
    have e : (decide (48 ≤ c) && decide (c ≤ 57)) = true := by simp only [Bool.and_eq_true, decide_eq_true_eq]; lia
    rw [if_pos e]
    simp only [Option.getD_some, true_and]
    lia
  · rename_i q0
    rw [if_neg q0]
    split at h
    · rename_i q
      rw [if_pos q]
      have e0 : ¬ ((decide (48 ≤ c) && decide (c ≤ 57)) = true) := by simp only [Bool.and_eq_true, decide_eq_true_eq]; lia
      have e : (decide (97 ≤ c) && decide (c ≤ 122)) = true := by simp only [Bool.and_eq_true, decide_eq_true_eq]; lia
      rw [if_neg e0, if_pos e]
      simp only [Option.getD_some, true_and]
      lia
    · rename_i q1
      rw [if_neg q1]
      split at h
      · rename_i q
        rw [if_pos q]
        have e0 : ¬ ((decide (48 ≤ c) && decide (c ≤ 57)) = true) := by simp only [Bool.and_eq_true, decide_eq_true_eq]; lia
        have e1 : ¬ ((decide (97 ≤ c) && decide (c ≤ 122)) = true) := by simp only [Bool.and_eq_true, decide_eq_true_eq]; lia
        have e : (decide (65 ≤ c) && decide (c ≤ 90)) = true := by simp only [Bool.and_eq_true, decide_eq_true_eq]; lia
        rw [if_neg e0, if_neg e1, if_pos e]
        simp only [Option.getD_some, true_and]
        lia
      · cases h
theorem step_hex {ds : Array Nat} {b : Bool} {c : Nat} (h : isHex c = true) : NumText.step 16 (ds, b) c = some (ds.push ((hexV c).getD 0), true) := by
  obtain ⟨h1, h2, h3, h4, h5, _⟩ := digit_hex h
  unfold NumText.step
  rw [if_neg (by rw [beq_iff_eq]; lia), h1]
  exact if_pos h2
theorem foldl_hex : ∀ (cs : List Nat) (ds : Array Nat), (∀ c ∈ cs, isHex c = true) → cs.foldlM (NumText.step 16) (ds, true) = some (cs.foldl (fun acc c => acc.push ((hexV c).getD 0)) ds, true)
  | [], _, _ => rfl
  | c :: cs, ds, h => by
    rw [List.foldlM_cons, step_hex (h c (.head _))]
    show cs.foldlM (NumText.step 16) (ds.push _, true) = _
    exact foldl_hex cs _ fun x hx => h x (.tail _ hx)
theorem digits_hex {cs : List Nat} (h : ∀ c ∈ cs, isHex c = true) (hne : cs ≠ []) : digits? 16 cs = some (cs.foldl (fun acc c => acc.push ((hexV c).getD 0)) #[]) := by
  cases cs with
  | nil => exact absurd rfl hne
  | cons c cs =>
    unfold digits?
    rw [List.foldlM_cons, step_hex (h c (.head _))]
    show (cs.foldlM (NumText.step 16) ((#[] : Array Nat).push _, true)).bind _ = _
    rw [foldl_hex cs _ fun x hx => h x (.tail _ hx)]
    rfl
theorem push_hex : ∀ (cs : List Nat) (ds : Array Nat), (cs.foldl (fun acc c => acc.push ((hexV c).getD 0)) ds).foldl (fun acc d => acc * 16 + d) 0 = cs.foldl (fun acc c => acc * 16 + (hexV c).getD 0) (ds.foldl (fun acc d => acc * 16 + d) 0)
  | [], _ => rfl
  | c :: cs, ds => by
    rw [List.foldl_cons, push_hex cs (ds.push _), List.foldl_cons]
    congr 1
    simp
theorem drop_hex {cs : List Nat} (h : ∀ c ∈ cs, isHex c = true) : cs.dropWhile blank = cs := by
  cases cs with
  | nil => rfl
  | cons c cs => rw [List.dropWhile_cons, blank_hex (h c (.head _))]; rfl
set_option tactic.hygienic true in
theorem based_hex {cs : List Nat} (h : ∀ c ∈ cs, isHex c = true) : based 16 cs = (16, false, cs) := by
  unfold based
  split
  · rename_i p hp
    have : p ≠ 16 := by
      unfold prefix? at hp
      split at hp
      · rename_i c r
        have hc := h c (.tail _ (.head _))
        have hc2 : c ≠ 120 ∧ c ≠ 88 := by
          constructor
          · rintro rfl; exact absurd hc (by decide)
          · rintro rfl; exact absurd hc (by decide)
        have e : ((c == 120) || (c == 88)) = false := by simp [hc2.1, hc2.2]
        rw [e] at hp
        simp only [Bool.false_eq_true, if_false] at hp
        split at hp
        · cases hp; decide
        · split at hp
          · cases hp; decide
          · cases hp
      · cases hp
    have e : ((16 : Nat) == 0 || (16 : Nat) == p) = false := by simp [Ne.symm this]
    rw [e]; rfl
  · rfl
theorem read_hex {cs : List Nat} (h : ∀ c ∈ cs, isHex c = true) (hne : cs ≠ []) : (int_private% "readNumeral") 0 16 cs = (int_private% "Numeral.value") (hexNum cs : Int) := by
  rw [readNumeral_eq, drop_hex h]
  have es : sign cs = (false, cs) := by
    cases cs with
    | nil => exact absurd rfl hne
    | cons c cs => exact sign_of (digit_hex (h c (.head _))).2.2.2.2.2.1 (digit_hex (h c (.head _))).2.2.2.2.2.2
  rw [es, based_hex h]
  dsimp only
  rw [drop_hex fun c hc => h c (List.mem_reverse.mp hc), List.reverse_reverse, digits_hex h hne]
  unfold judge
  simp only []
  rw [push_hex]
  rfl

theorem wp_text {M : Model} {A : Around} {E : Value → Shared → Prop} {s : Shared} {Q : Value → Shared → Prop} {v : Value} {text : List Nat} {n : Int}
    (hs : (text.takeWhile (· != 0)).length ≤ 640) (hr : (int_private% "readNumeral") 0 16 (text.takeWhile (· != 0)) = (int_private% "Numeral.value") n)
    (ha : ((text.takeWhile (· != 0)).length == text.length) = true) (h : Q (.int n s.toks) { s with toks := s.toks + 1 }) :
    wpAny M A ((int_private% "intFromText") v text 16) Q E s := by
  obtain ⟨hp, g, d, tk, os⟩ := s
  repeat (any_goals (first
    | assumption
    | (with_reducible refine wpAny_ite_true (decide_eq_true hs) ?_)
    | (with_reducible refine wpAny_ite_true (decide_eq_true ha) ?_)
    | wp_step))
  all_goals (try rw [hr])
  all_goals (try dsimp only)
  repeat (any_goals (first
    | assumption
    | (with_reducible refine wpAny_ite_true (decide_eq_true hs) ?_)
    | (with_reducible refine wpAny_ite_true (decide_eq_true ha) ?_)
    | wp_step))

theorem text_hex {x : List Nat} (h : ∀ c ∈ x, isHex c = true) : numTextOf (sOf x) = x ∧ numSeenOf (sOf x) = x := by
  have e1 : numTextOf (sOf x) = x := by
    refine if_pos ?_
    rw [← Array.all_toList, List.all_eq_true]
    intro c hc
    have := digit_hex (h c hc)
    exact decide_eq_true (by lia)
  refine ⟨e1, ?_⟩
  show (numTextOf (sOf x)).takeWhile _ = _
  rw [e1]
  exact takeWhile_all fun c hc => bne_iff_ne.mpr (digit_hex (h c hc)).2.2.2.2.1
set_option maxHeartbeats 4000000 in
theorem gives_hex {x : List Nat} {u u' : Tok} (h : ∀ c ∈ x, isHex c = true) (hne : x ≠ []) (hl : x.length ≤ 640) : Gives (Builtin.«int.__new__» ⟨[.type "int", .str (sOf x) u, .int 16 u'], []⟩) (.int (hexNum x)) :=
  .of_wp fun M A E s Q hQ => by
    obtain ⟨hp, g, d, tk, os⟩ := s
    have f1 := F.conv_sub_int
    have f2 := F.madeHere_int
    have f6 : typeOf (.str (sOf x) u) = pure (.type "str") := rfl
    obtain ⟨e1, e2⟩ := text_hex h
    have hs : (numSeenOf (sOf x)).length ≤ 640 := by rw [e2]; exact hl
    have hr : (int_private% "readNumeral") 0 16 (numSeenOf (sOf x)) = (int_private% "Numeral.value") (hexNum x : Int) := by rw [e2]; exact read_hex h hne
    have ha : ((numSeenOf (sOf x)).length == (numTextOf (sOf x)).length) = true := by rw [e1, e2]; exact beq_self_eq_true _
    have hk := KIN.Hid.mk (And.intro hs (And.intro hr ha))
    clear hs hr ha hl h hne e1 e2
    repeat (any_goals (first
      | assumption
      | ((with_reducible show wpAny _ _ ((int_private% "intFromText") _ _ _) _ _ _); refine wp_text hk.out.1 hk.out.2.1 hk.out.2.2 ?_)
      | wp_step))
    all_goals first | exact ⟨_, rfl, hQ⟩ | skip
theorem typeCall_int_2 (a b : Value) : checkTypeCall "int" ⟨[a, b], []⟩ = pure () := by kernel_rfl
theorem newCall_int_2 (a b : Value) : checkBuiltinCall "int.__new__" ⟨[.type "int", a, b], []⟩ = pure () := by kernel_rfl
end Hex

section
variable {B : Base} {z : PH} {s : Shared} {A : Around} {Q : Value → Shared → Prop} {r : PV} {E : Value → Shared → Prop}


theorem RepL.one_inv {z : PH} {p : PV} {vs : List Value} (h : RepL B z [p] vs) : ∃ v, vs = [v] ∧ Rep B z p v := by
  obtain ⟨v, vs', rfl, h1, h2⟩ := h
  cases h2
  exact ⟨v, rfl, h1⟩
theorem RepL.two_inv {z : PH} {p q : PV} {vs : List Value} (h : RepL B z [p, q] vs) : ∃ v u, vs = [v, u] ∧ Rep B z p v ∧ Rep B z q u := by
  obtain ⟨v, vs', rfl, h1, h2⟩ := h
  obtain ⟨u, rfl, h3⟩ := RepL.one_inv h2
  exact ⟨v, u, rfl, h1, h3⟩
theorem RepL.three_inv {z : PH} {p q o : PV} {vs : List Value} (h : RepL B z [p, q, o] vs) : ∃ v u y, vs = [v, u, y] ∧ Rep B z p v ∧ Rep B z q u ∧ Rep B z o y := by
  obtain ⟨v, vs', rfl, h1, h2⟩ := h
  obtain ⟨u, y, rfl, h3⟩ := RepL.two_inv h2
  exact ⟨v, u, y, rfl, h1, h3⟩

theorem biK_ok {f : Bi} {ps : List PV} {vs : List Value} {K : PV → Prop} (hr : biK f ps K) (ra : RepL B z ps vs) (zi : ZIn z s) (h : ∀ r, K r → Out B z r s Q) :
    wpAny (model B.prog B.w) A (call f.val vs) Q E s := by
  cases f with
  | len =>
    cases ps with
    | nil => exact hr.elim
    | cons x r => cases r with
      | cons _ _ => exact hr.elim
      | nil =>
        obtain ⟨v, rfl, rx⟩ := RepL.one_inv ra
        cases x with
        | str s' =>
          obtain ⟨sx, t, rfl⟩ := rx
          refine PyProof.Rows.len_str ?_ ?_
          · rw [sOf_length]; have := sx.2; lia
          · rw [sOf_length]; exact ((h _ hr).int (by first | exact Nat.le_refl _ | exact Nat.le_succ _ | lia))
        | lst s' =>
          obtain ⟨x, n, xs, rfl, hz, hl, hsz⟩ := rx
          rw [sizeLine_is] at hsz
          have e := hl.length
          rw [Array.length_toList] at e
          refine call_len_list ⟨_, zi _ _ hz, rfl, _, rfl⟩ (by lia) ?_
          rw [e]; exact ((h _ hr).int (by first | exact Nat.le_refl _ | exact Nat.le_succ _ | lia))
        | _ => exact hr.elim
  | ord =>
    cases ps with
    | nil => exact hr.elim
    | cons x r => cases r with
      | cons _ _ => exact hr.elim
      | nil =>
        obtain ⟨v, rfl, rx⟩ := RepL.one_inv ra
        obtain ⟨s', rfl, k⟩ := onStr_inv hr
        cases s' with
        | nil => exact k.elim
        | cons c r => cases r with
          | cons _ _ => exact k.elim
          | nil =>
            obtain ⟨sx, t, rfl⟩ := rx
            exact P.ord_of_char ((h _ k).int (by first | exact Nat.le_refl _ | exact Nat.le_succ _ | lia))
  | chr =>
    cases ps with
    | nil => exact hr.elim
    | cons x r => cases r with
      | cons _ _ => exact hr.elim
      | nil =>
        obtain ⟨v, rfl, rx⟩ := RepL.one_inv ra
        obtain ⟨i, rfl, q, k⟩ := onNat_inv hr
        obtain ⟨t, rfl⟩ := rx
        refine P.chr_of_int ?_ ((h _ k).str (x := [_]) (sok_one (by simpa using q)) (by first | exact Nat.le_refl _ | exact Nat.le_succ _ | lia))
        simp only [Bool.or_eq_false_iff, decide_eq_false_iff_not]; lia
  | int =>
    cases ps with
    | nil => exact hr.elim
    | cons x r => cases r with
      | nil =>
        obtain ⟨v, rfl, rx⟩ := RepL.one_inv ra
        obtain ⟨s', rfl, q, i, hn, k⟩ := onStr_inv hr
        obtain ⟨sx, t, rfl⟩ := rx
        exact KIN.call_text hn (by rw [sOf_length]; exact q) ((h _ k).int (by first | exact Nat.le_refl _ | exact Nat.le_succ _ | lia))
      | cons y r => cases r with
        | cons _ _ => exact hr.elim
        | nil =>
          obtain ⟨v, u, rfl, rx, ry⟩ := RepL.two_inv ra
          obtain ⟨s', rfl, hr⟩ := onStr_inv hr
          obtain ⟨i, rfl, ⟨q1, q2, q3, q4⟩, k⟩ := onInt_inv hr
          obtain ⟨sx, t, rfl⟩ := rx; obtain ⟨t', rfl⟩ := ry
          subst q3
          exact callType_new F.called_int F.newNe_int (Hex.typeCall_int_2 _ _) (Hex.newCall_int_2 _ _) (fun obj => F.args_object_init_3 obj _ _) F.entry_int_new
            (Hex.gives_hex (fun c hc => List.all_eq_true.mp q4 c hc) q2 q1).meets (show (Made.int _).post _ s from ⟨rfl, ((h _ k).int (by first | exact Nat.le_refl _ | exact Nat.le_succ _ | lia))⟩)
end
end Mine
end

section
set_option tactic.hygienic false
set_option maxRecDepth 100000
set_option genInjectivity false
set_option genSizeOf false
namespace Mine
open PySem PySem.W PySem.Calls PyProof.Rows PySem.Builtin PySem.Builtin.Str PySem.NumText
section
variable {B : Base} {z : PH} {s : Shared} {A : Around} {Q : Value → Shared → Prop} {r o : PV} {E : Value → Shared → Prop}

theorem startsAt_eq (x p : List Nat) (i : Nat) : (decide (i + (sOf p).length ≤ (sOf x).length) && subAt (sOf x) (sOf p) i) = startsAt x p i := by
  rw [StrLaws.subAt_eq, sOf_length, sOf_length]
  unfold startsAt
  rw [Bool.and_comm]

theorem fromIndex_nonneg {i : Int} {n : Nat} (h : 0 ≤ i) : fromIndex n i = i.toNat := by
  unfold fromIndex
  rw [if_neg (by lia)]
  congr 1
  lia

theorem sw_items {x : Str} {i : Nat} : ∀ {vs : List Value} {ys : List (List Nat)}, StrsAre vs (ys.map sOf) → vs.length = ys.length := by
  intro vs ys h
  generalize e : ys.map sOf = zs at h
  induction h generalizing ys with
  | nil => cases ys <;> simp_all
  | cons y t h ih =>
    cases ys with
    | nil => simp at e
    | cons a ys => simp at e; simp [ih e.2]

set_option tactic.hygienic true in
theorem sw_tuple {x : Str} {t : Tok} {a : Addr} {i : Int} {u : Tok} {o : Obj} {xs : Array Value} {n : Nat} {ys : List Str} (h0 : 0 ≤ i) (ho : s.heap.get? a = some o) (hc : o.cls = .type "tuple") (hd : o.data = .seq xs n)
   (hx : StrsAre xs.toList ys) (hq : Q (.bool (ys.any fun p => decide (i.toNat + p.length ≤ x.length) && subAt x p i.toNat)) s) :
   wpAny (model B.prog B.w) A («str.startswith» ⟨[.str x t, .ref a, .int i u], []⟩) (fun fin s' => ∃ v, fin = .done (.ret v) ∧ Q v s') E s := by
  obtain ⟨hp, g, d, tk, os⟩ := s
  have hT : Shared.TypeIs ⟨hp, g, d, tk, os⟩ (.ref a) "tuple" := ⟨o, ho, hc⟩
  have hS : isSubtype o.cls (.type "tuple") = pure true := by rw [hc, isSubtype_type]; kernel_rfl
  have hI := F.slot_int_index.lookup
  unfold «str.startswith» affixEntry
  repeat wp_step
  rw [hd]
  repeat wp_step
  rw [hd]
  repeat wp_step
  have e1 : (Max.max 0 (if i < 0 then i + (x.length : Int) else i)).toNat = i.toNat := by
    rw [if_neg (by lia)]; lia
  have e2 : Min.min ((x.length : Int)).toNat x.length = x.length := by lia
  rw [e1, e2]
  refine wpAny_forIn_array' _ (fun rest b s' => s' = ⟨hp, g, d, tk, os⟩ ∧ ∃ zs, StrsAre rest zs ∧ b = (none, ()) ∧ Q (.bool (zs.any fun p => decide (i.toNat + p.length ≤ x.length) && subAt x p i.toNat)) ⟨hp, g, d, tk, os⟩) _ ?_ ?_ xs _ ⟨rfl, ys, hx, rfl, hq⟩
  · rintro v rest b s' ⟨rfl, zs, hz, rfl, hq'⟩
    cases hz with
    | cons y t' hz' =>
      rename_i ys'
      dsimp only [asStr?]
      refine wpAny_bind (wpAny_pure ?_)
      dsimp only
      by_cases hb : (decide (i.toNat + y.length ≤ x.length) && subAt x y i.toNat) = true
      · rw [if_pos hb]
        refine wpAny_bind (wpAny_pure (wpAny_pure ?_))
        dsimp only
        refine wpAny_pure ⟨_, rfl, ?_⟩
        rw [List.any_cons, hb, Bool.true_or] at hq'
        exact hq'
      · rw [if_neg hb]
        refine wpAny_pure ⟨rfl, ys', hz', rfl, ?_⟩
        rw [List.any_cons, Bool.eq_false_iff.mpr hb, Bool.false_or] at hq'
        exact hq'
  · rintro b s' ⟨rfl, zs, hz, rfl, hq'⟩
    cases hz
    dsimp only
    exact wpAny_pure ⟨_, rfl, hq'⟩

theorem any_starts (x : List Nat) (i : Nat) (l : List (List Nat)) : ((l.map sOf).any fun p => decide (i + p.length ≤ (sOf x).length) && subAt (sOf x) p i) = l.any fun p => startsAt x p i := by
  rw [List.any_map]
  congr 1
  funext p
  exact startsAt_eq x p i

theorem gives_rfind4 (x y : Str) (i j : Int) (t u v w : Tok) (hi : 0 ≤ i) (hj : 0 ≤ j) : Gives («str.rfind» ⟨[.str x t, .str y u, .int i v, .int j w], []⟩)
    (.int (match lastOccurrence x y i.toNat (min j.toNat x.length) with | some k => (k : Int) | none => -1)) := by
  show Gives (match lastOccurrence x y (fromIndex x.length i) (min (fromIndex x.length j) x.length) with | some k => retInt k | none => (do rule "str.rfind.not-found"; retInt (-1))) _
  rw [fromIndex_nonneg hi, fromIndex_nonneg hj]
  cases lastOccurrence x y i.toNat (min j.toNat x.length) with
  | none => exact .rule (.of_eq rfl)
  | some k => exact .of_eq rfl
theorem gives_count4 (x y : Str) (i j : Int) (t u v w : Tok) (hi : 0 ≤ i) (hj : 0 ≤ j) : Gives («str.count» ⟨[.str x t, .str y u, .int i v, .int j w], []⟩)
    (.int (occurrences x y i.toNat (min j.toNat x.length) (x.length + 1)).length) := by
  show Gives (retInt (occurrences x y (fromIndex x.length i) (min (fromIndex x.length j) x.length) (x.length + 1)).length) _
  rw [fromIndex_nonneg hi, fromIndex_nonneg hj]
  exact .of_eq rfl

theorem glued_empty (l : List (List Nat)) : glued (sOf []) (l.map sOf) = sOf l.flatten := by
  have key : ∀ (l : List (List Nat)) (acc : Array Nat), (l.map sOf).foldl (fun acc p => acc ++ (sOf []).cps ++ p.cps) acc = acc ++ l.flatten.toArray := by
    intro l
    induction l with
    | nil => intro acc; simp
    | cons a l ih =>
      intro acc
      have := ih (acc ++ a.toArray)
      simp at this
      simp [this]
  cases l with
  | nil => rfl
  | cons a l =>
    unfold glued
    simp only [List.map_cons, List.drop_succ_cons, List.drop_zero, List.headD_cons]
    rw [key]
    simp

theorem strPairs_of : ∀ {vs : List Value} {ys : List Str}, StrsAre vs ys → ∃ l : List (Str × Tok), vs = strValues l ∧ l.map (·.1) = ys
  | _, _, .nil => ⟨[], rfl, rfl⟩
  | _, _, .cons y t h => by obtain ⟨l, a, b⟩ := strPairs_of h; exact ⟨(y, t) :: l, by rw [a]; rfl, by rw [← b]; rfl⟩
theorem fold_len (l : List (List Nat)) : ∀ n, ((l.map sOf).toArray.foldl (fun a p => a + p.length + (sOf []).length) n) = n + l.flatten.length := by
  induction l with
  | nil => intro n; simp
  | cons a l ih =>
    intro n
    simp only [List.map_cons, List.foldl_toArray', List.foldl_cons, sOf_length, List.length_nil, Nat.add_zero, List.flatten_cons, List.length_append] at ih ⊢
    have := ih (n + a.length)
    simp at this
    simp [this]
    lia

noncomputable def Mt.id : Mt → String
  | .startswith => "str.startswith" | .rfind => "str.rfind" | .count => "str.count" | .join => "str.join" | .get => "dict.get"
noncomputable def Mt.ty : Mt → String
  | .get => "dict" | _ => "str"

theorem get_end {ks : List (List Nat)} {ps : List PV} {xs : List Value} {k : List Nat} {dv : PV} {u : Value} (hl : RepL B z ps xs) (hd : Rep B z dv u) (h : Out B z ((assocP k ks ps).getD dv) s Q) :
    Q ((assocL (sOf k) ks xs).getD u) { s with toks := s.toks + 1 } := by
  cases hk : assocP k ks ps with
  | none =>
    rw [assocL_none hl hk]
    rw [hk] at h
    exact h _ _ (Nat.le_succ _) hd
  | some p =>
    obtain ⟨x, e1, e2⟩ := assocL_some hl hk
    rw [e1]
    rw [hk] at h
    exact h _ _ (Nat.le_succ _) e2


theorem recv_type {f : Mt} {ov : Value} {P : Prop} (h : onRecv f o P) (ra : Rep B z o ov) (zi : ZIn z s) : s.TypeIs ov f.ty ∧ (∀ a, ov = .ref a → ∃ ob, s.heap.get? a = some ob ∧ ob.dict = none) ∧ P := by
  cases f with
  | get =>
    cases o with
    | dct ks ps =>
      obtain ⟨x, xs, rfl, hs, hlen, hl, o, es, ep, h1, h2, h3, _⟩ := ra
      exact ⟨⟨_, zi _ _ h1, h2.1⟩, fun a e => by cases e; exact ⟨_, zi _ _ h1, h2.2.1⟩, h⟩
    | _ => exact h.elim
  | _ =>
    obtain ⟨x, rfl, k⟩ := onStr_inv h
    obtain ⟨_, t, rfl⟩ := ra
    exact ⟨typeIs_str s _ _, (fun a e => nomatch e), k⟩

theorem methK_ok {f : Mt} {ps : List PV} {vs : List Value} {ov : Value} {K : PV → Prop} (hr : methK f o ps K) (ro : Rep B z o ov) (ra : RepL B z ps vs) (zi : ZIn z s) (h : ∀ r, K r → Out B z r s Q) :
    wpAny (model B.prog B.w) A (call (.builtin f.id) (ov :: vs)) Q E s := by
  cases f with
  | startswith =>
    obtain ⟨x, rfl, hr⟩ := onStr_inv hr
    obtain ⟨p, y, rfl, hr⟩ := on2_inv hr
    obtain ⟨_, t, rfl⟩ := ro
    obtain ⟨v, u, rfl, rp, ry⟩ := RepL.two_inv ra
    obtain ⟨i, rfl, k⟩ := onNat_inv hr
    obtain ⟨t'', rfl⟩ := ry
    have q : (0 : Int) ≤ i := Int.natCast_nonneg i
    cases p with
    | str p =>
      obtain ⟨_, t', rfl⟩ := rp
      refine call_gives F.slot_str_startswith (typeIs_str _ _ _) F.entry_str_startswith (F.args_str_startswith_3 _ _ _) (gives_str_startswith_from _ _ _ _ _ _) ?_
      rw [fromIndex_nonneg q, startsAt_eq]
      exact ((h _ k).bool (by first | exact Nat.le_refl _ | exact Nat.le_succ _ | lia))
    | tup p =>
      obtain ⟨l, hl, k⟩ := onStrs_inv k
      obtain ⟨a, n, xs, rfl, hz, hxs, _⟩ := rp
      refine wpAny_call_entry F.slot_str_startswith (typeIs_str _ _ _) F.entry_str_startswith ?_ (F.args_str_startswith_3 _ _ _)
      refine sw_tuple q (zi _ _ hz) rfl rfl (strsAre_of hxs hl).1 ?_
      rw [any_starts]
      exact ((h _ k).bool (by first | exact Nat.le_refl _ | exact Nat.le_succ _ | lia))
    | _ => exact k.elim
  | rfind =>
    obtain ⟨x, rfl, hr⟩ := onStr_inv hr
    obtain ⟨p, a, b, rfl, hr⟩ := on3_inv hr
    obtain ⟨p, rfl, hr⟩ := onStr_inv hr
    obtain ⟨c, rfl, hr⟩ := onChr_inv hr
    obtain ⟨i, rfl, hr⟩ := onNat_inv hr
    obtain ⟨j, rfl, k⟩ := onNat_inv hr
    obtain ⟨_, t, rfl⟩ := ro
    obtain ⟨v, u, y, rfl, ⟨_, t', rfl⟩, ⟨t'', rfl⟩, ⟨t3, rfl⟩⟩ := RepL.three_inv ra
    refine call_gives F.slot_str_rfind (typeIs_str _ _ _) F.entry_str_rfind (F.args_str_rfind_4 _ _ _ _) (gives_rfind4 _ _ _ _ _ _ _ _ (Int.natCast_nonneg i) (Int.natCast_nonneg j)) ?_
    rw [sOf_length]
    exact ((h _ k).int (by first | exact Nat.le_refl _ | exact Nat.le_succ _ | lia))
  | count =>
    obtain ⟨x, rfl, hr⟩ := onStr_inv hr
    obtain ⟨p, a, b, rfl, hr⟩ := on3_inv hr
    obtain ⟨p, rfl, hr⟩ := onStr_inv hr
    obtain ⟨c, rfl, hr⟩ := onChr_inv hr
    obtain ⟨i, rfl, hr⟩ := onNat_inv hr
    obtain ⟨j, rfl, k⟩ := onNat_inv hr
    obtain ⟨_, t, rfl⟩ := ro
    obtain ⟨v, u, y, rfl, ⟨_, t', rfl⟩, ⟨t'', rfl⟩, ⟨t3, rfl⟩⟩ := RepL.three_inv ra
    refine call_gives F.slot_str_count (typeIs_str _ _ _) F.entry_str_count (F.args_str_count_4 _ _ _ _) (gives_count4 _ _ _ _ _ _ _ _ (Int.natCast_nonneg i) (Int.natCast_nonneg j)) ?_
    rw [sOf_length]
    exact ((h _ k).int (by first | exact Nat.le_refl _ | exact Nat.le_succ _ | lia))
  | join =>
    obtain ⟨x, rfl, hr⟩ := onStr_inv hr
    obtain ⟨_, t, rfl⟩ := ro
    cases x with
    | cons _ _ => exact hr.elim
    | nil =>
    obtain ⟨p, rfl, hr⟩ := on1_inv hr
    obtain ⟨v, rfl, rp⟩ := RepL.one_inv ra
    obtain ⟨ps, rfl, l, hl, q, k⟩ := onLst_inv hr
    obtain ⟨a, n, xs, rfl, hz, hxs, _⟩ := rp
    have h := h _ k
    obtain ⟨e1, e2⟩ := strsAre_of hxs hl
    obtain ⟨lp, e3, e4⟩ := strPairs_of e1
    have hx : xs = (strValues lp).toArray := by rw [← e3]
    have hsok : sok l.flatten := ⟨fun c hc => by obtain ⟨y, hy, hc⟩ := List.mem_flatten.mp hc; exact (e2 y hy).1 c hc, q⟩
    refine call_meets F.slot_str_join (typeIs_str _ _ _) F.entry_str_join (F.args_str_join_2 _ _) (meets_str_join_list _ _ a lp ?_) ⟨⟨_, zi _ _ hz, rfl, _, by rw [hx]⟩, ?_⟩
    · rw [e4, fold_len, Nat.zero_add]
      unfold tooLong
      rw [sizeLine_is]
      exact decide_eq_false (by lia)
    · unfold joinMade
      split
      · rename_i p
        have : l = [p.1.cps.toList] := by
          have : l.map sOf = [p.1] := by rw [← e4]; rfl
          cases l with
          | nil => simp at this
          | cons x l =>
            simp at this
            rw [← this.1, this.2]
        subst this
        have := h.str hsok (t := s.toks) (u := p.2) (Nat.le_refl _)
        simp only [List.flatten_cons, List.flatten_nil, List.append_nil] at this
        exact this
      · rw [e4, glued_empty]
        exact ⟨by rw [sOf_length, sizeLine_is]; exact q, (h.str hsok (by first | exact Nat.le_refl _ | exact Nat.le_succ _ | lia))⟩
  | get =>
    cases o with
    | dct ks pv =>
      obtain ⟨key, dv, rfl, hr⟩ := on2_inv hr
      obtain ⟨k0, rfl, k⟩ := onStr_inv hr
      obtain ⟨a, xs, rfl, hs, hlen, hl, hm⟩ := ro
      obtain ⟨v, u, rfl, ⟨_, t', rfl⟩, hd⟩ := RepL.two_inv ra
      have hm' := hm.heap zi
      refine call_meetsIn F.slot_dict_get hm'.typeIs F.entry_dict_get (F.args_dict_get_3 _ _ _) (meets_dict_get_default (strKind B.prog B.w) a (strKind_is _ _ _ t') hs u) ⟨_, hm', ?_⟩
      exact get_end hl hd (h _ k)
    | _ => exact hr.elim
end
end Mine
end

section
set_option tactic.hygienic false
set_option maxRecDepth 100000
set_option genInjectivity false
set_option genSizeOf false
namespace Mine
open PySem PySem.W PySem.Calls PyProof.Rows PySem.Builtin PySem.Builtin.Str PySem.NumText

theorem getL_get : ∀ {ρ : Loc} {i : Nat} {v : PV}, getL ρ i = some v → ρ[i]? = some (some v)
  | [], _, _, h => by cases h
  | _ :: _, 0, _, h => congrArg some h
  | _ :: r, n + 1, _, h => by rw [List.getElem?_cons_succ]; exact getL_get (ρ := r) h
theorem setL_set : ∀ (ρ : Loc) (i : Nat) (v : PV), setL ρ i v = ρ.set i (some v)
  | [], _, _ => rfl
  | _ :: _, 0, _ => rfl
  | o :: r, n + 1, v => congrArg (o :: ·) (setL_set r n v)
structure EnvOK (env : Env) (vars : List Str) (sc : Scope) (L : Addr) : Prop where
  hsc : env.scope = sc
  kind : sc.kind = .function
  hL : env.locals = L
  g : env.globals = mainGlobals
  b : env.builtins = builtinsNs
  loc : ∀ x ∈ vars, sc.names.lookup x = some .local ∧ (x == ("__debug__" : Str)) = false
  nd : vars.Nodup

structure GoodB (B : Base) : Prop where
  mg : B.heap.Ns mainGlobals B.mg
  mb : B.heap.Ns builtinsNs B.mb
  nolimit : B.heap.NoLimit
  bi : ∀ f : Bi, B.mg f.name = none ∧ B.mb f.name = some f.val
  en : B.mg "enumerate" = none ∧ B.mb "enumerate" = some (.type "enumerate")
  sysm : ∃ o, B.heap.get? sysModules = some o

noncomputable def AttSem (B : Base) (c : Addr) (nm : Str) : AttR → Prop
  | .slot i => ∀ (A : Around) (E : Value → Shared → Prop) (Q : Value → Shared → Prop) (s : Shared) (x d : Addr) (sl : Array (Option Value)) (v : Value), BaseIn B s →
      s.heap.get? x = some ⟨.ref c, some d, .plain, sl⟩ → s.heap.get? d = some emptyDict → sl[i]? = some (some v) → handedIn v = true → (∀ t, s.toks ≤ t → Q v { s with toks := t }) → wpAny (model B.prog B.w) A (getAttr (.ref x) nm true) Q E s
  | .val p => ∀ (A : Around) (E : Value → Shared → Prop) (Q : Value → Shared → Prop) (s : Shared) (x d : Addr) (sl : Array (Option Value)), BaseIn B s →
      s.heap.get? x = some ⟨.ref c, some d, .plain, sl⟩ → s.heap.get? d = some emptyDict → (∀ v t, s.toks ≤ t → Rep B B.heap.get? p v → Q v { s with toks := t }) → wpAny (model B.prog B.w) A (getAttr (.ref x) nm true) Q E s
noncomputable def SatSem (B : Base) (c : Addr) (nm : Str) (i : Nat) : Prop :=
  ∀ (A : Around) (E : Value → Shared → Prop) (Q : Unit → Shared → Prop) (s : Shared) (x d L : Addr) (m : Str → Option Value) (sl : Array (Option Value)) (v : Value), BaseIn B s → B.heap.get? x = none →
    s.heap.get? x = some ⟨.ref c, some d, .plain, sl⟩ → s.heap.get? d = some emptyDict → s.heap.Ns L m → x ≠ L →
    (∀ h' t, s.toks ≤ t → (∀ b o, b ≠ x → b ≠ L → s.heap.get? b = some o → h'.get? b = some o) → h'.Ns L m →
      h'.get? x = some ⟨.ref c, some d, .plain, (sl ++ Array.replicate (i + 1 - sl.size) none).setIfInBounds i (some v)⟩ → Q () { s with heap := h', toks := t }) →
    wpAny (model B.prog B.w) A (setAttr (.ref x) nm v) Q E s
noncomputable def StatSem (B : Base) (cls nm : Str) (fv : Value) : Prop :=
  ∃ C, B.mg cls = some (.ref C) ∧ ∀ (A : Around) (E : Value → Shared → Prop) (Q : Value × List Value → Shared → Prop) (s : Shared) (pl : Sem Bool), BaseIn B s →
    (∀ t, s.toks ≤ t → Q (fv, []) { s with toks := t }) → wpAny (model B.prog B.w) A (getMethod (.ref C) nm pl) Q E s

structure GoodT (B : Base) (T : Tab) : Prop where
  att : ∀ c nm r, T.att c nm = some r → AttSem B c nm r
  sat : ∀ c nm i, T.sat c nm = some i → SatSem B c nm i
  stat : ∀ c nm v, T.stat c nm = some v → StatSem B c nm v

noncomputable def padd (P : PH) (a : Addr) (o : Obj) : PH := fun b => if b = a then some o else P b

section
variable {B : Base} {T : Tab} {z z' P : PH} {vars : List Str} {L : Addr} {ρ : Loc} {H H' : AH} {s s' : Shared} {A : Around} {d : Nat} {env : Env} {sc : Scope}

theorem StC.bin (S : StC B z P H s) : BaseIn B s := fun a o e => S.zin a o (S.base a o e)

theorem St.toCall (S : St B z P vars L ρ H s) : ∃ o, StC B z (padd P L o) H s ∧ s.heap.get? L = some o := by
  obtain ⟨m, ⟨o, es, ep, ho, r⟩, _⟩ := S.loc
  refine ⟨o, ⟨S.c.base, S.c.zin, fun a x e => ?_, S.c.hin, S.c.os, S.c.gens, S.c.tk⟩, ho⟩
  unfold padd at e
  split at e
  · rename_i q; subst q; cases e; exact ⟨ho, S.lz, S.lh⟩
  · exact S.c.pin a x e
theorem St.ofCall {o : Obj} (S : St B z P vars L ρ H s) (ho : s.heap.get? L = some o) (hle : zle z z') (S' : StC B z' (padd P L o) H' s') : St B z' P vars L ρ H' s' := by
  have hL := S'.pin L o (by simp [padd])
  refine ⟨⟨S'.base, S'.zin, fun a x e => ?_, S'.hin, S'.os, S'.gens, S'.tk⟩, hL.2.1, S.lp, hL.2.2, ?_⟩
  · have ha : a ≠ L := by rintro rfl; rw [S.lp] at e; cases e
    exact S'.pin a x (by simp [padd, ha, e])
  · obtain ⟨m, ⟨o', es, ep, ho', r⟩, l⟩ := S.loc
    rw [ho] at ho'; cases ho'
    exact ⟨m, ⟨o, es, ep, hL.1, r⟩, l.mono hle⟩

noncomputable def PE (B : Base) (P : PH) (vars : List Str) (L : Addr) (ρ : Loc) (z : PH) (Q : PV → AH → Prop) : Value → Shared → Prop :=
  fun v s' => ∃ z' p H', zle z z' ∧ St B z' P vars L ρ H' s' ∧ Rep B z' p v ∧ Q p H'
noncomputable def PEs (B : Base) (P : PH) (vars : List Str) (L : Addr) (ρ : Loc) (z : PH) (Q : List PV → AH → Prop) : List Value → Shared → Prop :=
  fun vs s' => ∃ z' ps H', zle z z' ∧ St B z' P vars L ρ H' s' ∧ RepL B z' ps vs ∧ Q ps H'
noncomputable def PT (B : Base) (P : PH) (vars : List Str) (L : Addr) (ρ : Loc) (z : PH) (Q : DP → AH → Prop) : Bool → Shared → Prop :=
  fun b s' => ∃ z' H' c, zle z z' ∧ St B z' P vars L ρ H' s' ∧ c.dec = b ∧ Q c H'

theorem PE.le {Q : PV → AH → Prop} {v : Value} (h : zle z z') (x : PE B P vars L ρ z' Q v s) : PE B P vars L ρ z Q v s :=
  by obtain ⟨a, p, H, h1, h2⟩ := x; exact ⟨a, p, H, h.trans h1, h2⟩
theorem PEs.le {Q : List PV → AH → Prop} {v : List Value} (h : zle z z') (x : PEs B P vars L ρ z' Q v s) : PEs B P vars L ρ z Q v s :=
  by obtain ⟨a, p, H, h1, h2⟩ := x; exact ⟨a, p, H, h.trans h1, h2⟩
theorem PT.le {Q : DP → AH → Prop} {v : Bool} (h : zle z z') (x : PT B P vars L ρ z' Q v s) : PT B P vars L ρ z Q v s :=
  by obtain ⟨a, H, c, h1, h2⟩ := x; exact ⟨a, H, c, h.trans h1, h2⟩

theorem St.out {r : PV} {Q : PV → AH → Prop} (S : St B z P vars L ρ H s) (h : Q r H) : Out B z r s (PE B P vars L ρ z Q) :=
  fun xx xx ht hr => ⟨z, r, H, zle.refl z, S.toks ht, hr, h⟩
theorem St.zi (S : St B z P vars L ρ H s) : ZIn z s := S.c.zin

theorem no (x : Value) (s : Shared) {p : Prop} (h : NoExc x s) : p := h.elim

theorem EnvOK.scope_kind (V : EnvOK env vars sc L) : env.scope.kind = .function := by rw [V.hsc, V.kind]
theorem EnvOK.local {x : Str} (V : EnvOK env vars sc L) (h : x ∈ vars) : env.kindOf x = some .local := by
  unfold Env.kindOf; rw [V.hsc]; exact (V.loc x h).1
theorem EnvOK.glb {x : Str} (V : EnvOK env vars sc L) (h : glb sc x = true) : env.kindOf x = some .globalImplicit ∧ (x == ("__debug__" : Str)) = false := by
  unfold Mine.glb at h
  simp only [Bool.and_eq_true, beq_iff_eq, Bool.not_eq_true'] at h
  refine ⟨?_, h.1.2⟩
  unfold Env.kindOf; rw [V.hsc]; exact h.1.1

theorem var_ok {M : Model} {i : Nat} {id : Str} {pos : Pos} {v : PV} {E : Value → Shared → Prop} {Q : Value → Shared → Prop} (V : EnvOK env vars sc L) (S : St B z P vars L ρ H s) (hc : locOk vars i id = true) (hv : getL ρ i = some v)
    (h : ∀ x, Rep B z v x → Q x s) : wpAny M A (eval (.Name id pos) env) Q E s := by
  unfold locOk at hc
  have hi : vars[i]? = some id := by simpa using hc
  have hm : id ∈ vars := List.mem_of_getElem? hi
  obtain ⟨m, hn, hl⟩ := S.loc
  obtain ⟨x, hx, hr⟩ := hl i id v hi (getL_get hv)
  refine wpAny_Name (wpAny_loadName_local V.scope_kind (V.local hm) (by rw [V.hL]; exact hn) hx (h x hr)) (V.loc id hm).2
theorem ldvar_ok {M : Model} {i : Nat} {id : Str} {v : PV} {E : Value → Shared → Prop} {Q : Value → Shared → Prop} (V : EnvOK env vars sc L) (S : St B z P vars L ρ H s) (hc : locOk vars i id = true) (hv : getL ρ i = some v)
    (h : ∀ x, Rep B z v x → Q x s) : wpAny M A (loadName env id) Q E s := by
  unfold locOk at hc
  have hi : vars[i]? = some id := by simpa using hc
  have hm : id ∈ vars := List.mem_of_getElem? hi
  obtain ⟨m, hn, hl⟩ := S.loc
  obtain ⟨x, hx, hr⟩ := hl i id v hi (getL_get hv)
  exact wpAny_loadName_local V.scope_kind (V.local hm) (by rw [V.hL]; exact hn) hx (h x hr)
theorem glob_ok {M : Model} {id : Str} {pos : Pos} {v : Value} {E : Value → Shared → Prop} {Q : Value → Shared → Prop} (V : EnvOK env vars sc L) (G : GoodB B) (hb : BaseIn B s) (hc : glb sc id = true) (hv : B.mg id = some v)
    (h : Q v s) : wpAny M A (eval (.Name id pos) env) Q E s :=
  Name_function_global V.scope_kind (V.glb hc).1 (loadGlobal_global (by rw [V.g]; exact G.mg.keeps hb) hv h) (V.glb hc).2
theorem bi_name {M : Model} {f : Bi} {pos : Pos} {E : Value → Shared → Prop} {Q : Value → Shared → Prop} (V : EnvOK env vars sc L) (G : GoodB B) (hb : BaseIn B s) (hc : glb sc f.name = true)
    (h : Q f.val s) : wpAny M A (eval (.Name f.name pos) env) Q E s :=
  Name_function_global V.scope_kind (V.glb hc).1 (loadGlobal_builtin (by rw [V.g]; exact G.mg.keeps hb) (G.bi f).1 (by rw [V.b]; exact G.mb.keeps hb) (G.bi f).2 h) (V.glb hc).2

theorem en_name {M : Model} {pos : Pos} {E : Value → Shared → Prop} {Q : Value → Shared → Prop} (V : EnvOK env vars sc L) (G : GoodB B) (hb : BaseIn B s) (hc : glb sc "enumerate" = true)
    (h : Q (.type "enumerate") s) : wpAny M A (eval (.Name "enumerate" pos) env) Q E s :=
  Name_function_global V.scope_kind (V.glb hc).1 (loadGlobal_builtin (by rw [V.g]; exact G.mg.keeps hb) G.en.1 (by rw [V.b]; exact G.mb.keeps hb) G.en.2 h) (V.glb hc).2

theorem store_ok {M : Model} {i : Nat} {id : Str} {v : PV} {x : Value} {E : Value → Shared → Prop} {Q : Unit → Shared → Prop} (V : EnvOK env vars sc L) (S : St B z P vars L ρ H s) (hc : locOk vars i id = true) (hr : Rep B z v x)
    (h : ∀ h', St B z P vars L (setL ρ i v) H { s with heap := h', toks := s.toks + 1 } → Q () { s with heap := h', toks := s.toks + 1 }) : wpAny M A (storeName env id x) Q E s := by
  unfold locOk at hc
  have hi : vars[i]? = some id := by simpa using hc
  have hm : id ∈ vars := List.mem_of_getElem? hi
  obtain ⟨m, hn, hl⟩ := S.loc
  refine wpAny_storeName_local (V.local hm) (by rw [V.hL]; exact hn) (fun h' hns hs => h h' ?_) ?_
  · rw [V.hL] at hns hs
    rw [setL_set]; exact S.setLoc (Nat.le_succ _) V.nd hi m hl hns hs hr
  · rw [V.scope_kind]; rfl

theorem spliced_all {M : Model} {trees : List (Bool × Sem Value)} {E : Value → Shared → Prop} {f : Value} {Q : Args → Shared → Prop} (hp : trees.any (·.1) = false)
    (h : wpAny M A (spliced trees) (fun vs s' => Q ⟨vs, []⟩ s') E s) : wpAny M A (evalArgs f true trees []) Q E s := by
  cases trees with
  | nil =>
    unfold evalArgs
    refine wpAny_bind ?_
    refine wpAny_mono h (fun vs s' h' => ?_) fun xx xx x => x
    refine wpAny_bind (wpAny_pure ?_)
    refine wpAny_holding ?_
    exact wpAny_bind (wpAny_pure (wpAny_bind (wpAny_pure (wpAny_pure h'))))
  | cons t r =>
    obtain ⟨b, x⟩ := t
    simp only [List.any_cons, Bool.or_eq_false_iff] at hp
    obtain ⟨rfl, _⟩ := hp
    exact evalArgs_plain h

theorem callWith_ok {pos : Pos} {fv : Value} {trees : List (Bool × Sem Value)} {E : Value → Shared → Prop} {Q : Value → Shared → Prop} (hp : trees.any (·.1) = false) (hk : KeepOk B fv)
    (h : wpAny (model B.prog B.w) A (spliced trees) (fun vs s' => BaseIn B s' ∧ wpAny (model B.prog B.w) A (call fv vs) Q E s') E s) :
    wpAny (model B.prog B.w) A (callWith pos fv [] trees []) Q E s := by
  unfold callWith
  refine wpAny_bind (wpAny_holding (wpAny_mono (spliced_all (Q := fun x s' => x.kw = [] ∧ BaseIn B s' ∧ wpAny (model B.prog B.w) A (call fv x.pos) Q E s') hp (wpAny_mono h (fun vs s' h' => ⟨rfl, h'⟩) fun xx xx x => x)) (fun x s₁ h₁ => wpAny_bind (wpAny_standAt ?_)) fun xx xx x => x))
  obtain ⟨e1, hb, hc⟩ := h₁
  have tail : ∀ {t : Sem Value}, wpAny (model B.prog B.w) A t Q E s₁ → wpAny (model B.prog B.w) A (t >>= fun r => holding [r] point >>= fun xx => pure r) Q E s₁ :=
    fun ht => wpAny_bind (wpAny_mono ht (fun r s₂ hr => wpAny_bind (wpAny_holding (wpAny_point (wpAny_pure hr)))) fun xx xx x => x)
  rw [hp]
  refine wpAny_bind (hk A s₁ E _ hb fun k hk' => ?_)
  rw [e1]
  rcases hk' with rfl | rfl
  · show wpAny _ _ (if _ then _ else _) _ _ _
    split
    · exact tail hc
    · exact tail (wpAny_keep hc)
  · exact tail hc

theorem starEach_cons {e : Expr} {es : List Expr} (h : star1 e = false) : starEach (e :: es) env = (false, eval e env) :: starEach es env := by
  cases e <;> first | rfl | cases h
theorem starEach_plain : ∀ {es : List ME} {xs : List Expr}, chkEs es sc vars xs = true → (starEach xs env).any (·.1) = false
  | [], xs, h => by cases nil_inv h; rfl
  | _ :: _, [], h => by cases h
  | m :: ms, e :: es, h => by
    obtain ⟨h1, h3⟩ := Bool.and_eq_true_iff.mp h
    obtain ⟨_, h2⟩ := Bool.and_eq_true_iff.mp h1
    rw [starEach_cons (by simpa using h3)]
    show (false || _) = false
    rw [Bool.false_or]; exact starEach_plain h2
theorem backTo_plain {pos : Pos} {trees : List (Bool × Sem Value)} (h : trees.any (·.1) = false) : (backTo pos trees).any (·.1) = false := by
  unfold backTo
  rw [List.any_map]
  exact h
theorem backTo_cons {pos : Pos} {x : Sem Value} {r : List (Bool × Sem Value)} : backTo pos ((false, x) :: r) = (false, x) :: backTo pos r := rfl
end
end Mine
end

section
set_option tactic.hygienic false
set_option maxRecDepth 100000
set_option genInjectivity false
set_option genSizeOf false
namespace Mine
open PySem PySem.W PySem.Calls PyProof.Rows PySem.Builtin PySem.Builtin.Str PySem.NumText

section
variable {B : Base} {T : Tab} {z z' P : PH} {vars : List Str} {L : Addr} {ρ : Loc} {H H' : AH} {s s' : Shared} {A : Around} {d : Nat} {env : Env} {sc : Scope} {E : Value → Shared → Prop}

theorem cPV_inv {v : PV} {c : Const} (h : cPV v c = true) : (v = .none ∧ c = .none) ∨ (∃ b, v = .bool b ∧ c = .bool b) ∨ (∃ i, v = .int i ∧ c = .int i) ∨ ∃ x, v = .str x ∧ c = .str (sOf x) ∧ sok x := by
  cases v with
  | none => cases c with
    | none => exact .inl ⟨rfl, rfl⟩
    | _ => exact Bool.noConfusion h
  | bool a => cases c with
    | bool b => exact .inr (.inl ⟨a, rfl, congrArg _ (beq_iff_eq.mp h).symm⟩)
    | _ => exact Bool.noConfusion h
  | int a => cases c with
    | int b => exact .inr (.inr (.inl ⟨a, rfl, congrArg _ (beq_iff_eq.mp h).symm⟩))
    | _ => exact Bool.noConfusion h
  | str x => cases c with
    | str y =>
      obtain ⟨h12, h3⟩ := Bool.and_eq_true_iff.mp h
      obtain ⟨h1, h2⟩ := Bool.and_eq_true_iff.mp h12
      exact .inr (.inr (.inr ⟨x, rfl, congrArg Const.str (by rw [beq_iff_eq.mp h1]), fun c hc => of_decide_eq_true (List.all_eq_true.mp h2 c hc), Nat.le_trans (of_decide_eq_true h3) (by decide)⟩))
    | _ => exact Bool.noConfusion h
  | _ => exact Bool.noConfusion h
theorem const_pv {v : PV} {c : Const} {k : Nat} {pos : Pos} {Q : Value → Shared → Prop} {M : Model} (hc : cPV v c = true) (h : ∀ x t, s.toks ≤ t → (∀ z, Rep B z v x) → Q x { s with toks := t }) : wpAny M A (eval (.Constant c k pos) env) Q E s := by
  rcases cPV_inv hc with ⟨rfl, rfl⟩ | ⟨b, rfl, rfl⟩ | ⟨i, rfl, rfl⟩ | ⟨x, rfl, rfl, hx⟩
  · exact wpAny_Constant_none (h _ _ (Nat.le_refl _) fun xx => rfl)
  · exact fun xx xx xx => h _ _ (Nat.le_refl _) fun xx => rfl
  · exact wpAny_Constant_int (h _ _ (Nat.le_succ _) fun xx => ⟨_, rfl⟩)
  · exact Constant_str (h _ _ (Nat.le_succ _) fun xx => ⟨hx, _, rfl⟩)
theorem const_ok {v : PV} {c : Const} {k : Nat} {pos : Pos} {Q : Value → Shared → Prop} {M : Model} (hc : cPV v c = true) (h : Out B z v s Q) : wpAny M A (eval (.Constant c k pos) env) Q E s :=
  const_pv (B := B) hc fun x t ht hr => h x t ht (hr z)

theorem not_slice {y : Expr} {o i : Value} (h : isSlc y = false) : subscripted y false o i = operate [o, i] (getItem o i) := by
  cases y <;> first | rfl | cases h

theorem base_plain {o : Expr} {name : Str} (h : plainBase o = true) : attributeBase o name env (eval o env) = eval o env := by
  rcases Bool.or_eq_true_iff.mp h with h | h
  · obtain ⟨q, _⟩ := Option.isSome_iff_exists.mp h
    rw [q.2]; rfl
  · obtain ⟨q, _⟩ := Option.isSome_iff_exists.mp h
    rw [q.2]; rfl
theorem base_call {o : Expr} {name : Str} (h : callBase o = true) : attributeBase o name env (eval o env) = eval o env := by
  rcases Bool.or_eq_true_iff.mp h with h | h
  · obtain ⟨q, _⟩ := Option.isSome_iff_exists.mp h
    rw [q.2]; rfl
  · obtain ⟨q, h⟩ := any_inv h
    obtain ⟨a, _⟩ := Option.isSome_iff_exists.mp h
    rw [q.2, a.2]; rfl

theorem few_ok {es : List ME} {xs : List Expr} {pos : Pos} (hc : chkEs es sc vars xs = true) (hl : xs.length < 25) :
    ((backTo pos (starEach xs env)).all (fun x => !x.1) && (backToKw pos (keywordEach [] env)).all (fun x => x.1.isSome)
      && decide (xs.length + ([] : List Keyword).length + (if ([] : List Keyword).isEmpty then 0 else 1) < 30)) = true := by
  have h1 := backTo_plain (pos := pos) (starEach_plain (env := env) hc)
  have h2 : ((backTo pos (starEach xs env)).all fun x => !x.1) = true := by
    rw [List.all_eq_true]
    intro x hx
    rw [List.any_eq_false] at h1
    simpa using h1 x hx
  rw [h2]
  have h3 : (decide (xs.length + ([] : List Keyword).length + (if ([] : List Keyword).isEmpty then 0 else 1) < 30)) = true := decide_eq_true (by show xs.length + 0 + 0 < 30; lia)
  rw [h3]
  rfl

theorem rep_handed : ∀ {p : PV} {v : Value}, Rep B z p v → handedIn v = true
  | .none, _, r => by cases r; rfl
  | .bool _, _, r => by cases r; rfl
  | .int _, _, r => by obtain ⟨t, rfl⟩ := r; rfl
  | .str _, _, r => by obtain ⟨_, t, rfl⟩ := r; rfl
  | .tup _, _, r => by obtain ⟨_, _, _, rfl, _⟩ := r; rfl
  | .lst _, _, r => by obtain ⟨_, _, _, rfl, _⟩ := r; rfl
  | .node _ _, _, r => by obtain ⟨_, _, _, _, rfl, _⟩ := r; rfl
  | .dct _ _, _, r => by obtain ⟨_, _, rfl, _⟩ := r; rfl
  | .ref _, _, r => by cases r; rfl

theorem Room.A1 (R : Room d A) : A.handled = none := R.h

theorem testChain2 {M : Model} {l r1 r2 : Expr} {p1 p2 : CmpOp} {pos : Pos} {whole : Sem Value} {Q : Bool → Shared → Prop} (hm : behindInMarks p2 r2 = false)
    (h : wpAny M A (eval l env) (fun a s₁ => wpAny M A (eval r1 env) (fun b s₂ => wpAny M A (compareOp p1 a b) (fun c s₃ => wpAny M A (truthy c) (fun t s₄ =>
      if t then wpAny M A (eval r2 env) (fun u s₅ => wpAny M A (compareOp p2 b u) (fun c' s₆ => wpAny M A (truthy c') Q E s₆) E s₅) E s₄ else Q false s₄) E s₃) E s₂) E s₁) E s) :
    wpAny M A (isTrue (.Compare l [p1, p2] [r1, r2] pos) env whole) Q E s := by
  rw [arm_isTrue_Compare]
  refine wpAny_bind (wpAny_mono h (fun a s₁ h₁ => ?_) fun xx xx x => x)
  show wpAny M A (do
    let rv ← holding [a] (eval r1 env)
    standAt pos
    let c ← holding [a, rv] (compareOp p1 a rv)
    release [a, rv] [c]
    if ← holding [c, rv] (truthy c) then testChain pos rv [p2] [markedBehindIn p2 r2 (eval r2 env)] else pure false) Q E s₁
  refine wpAny_bind (wpAny_holding (wpAny_mono h₁ (fun b s₂ h₂ => ?_) fun xx xx x => x))
  refine wpAny_bind (wpAny_standAt ?_)
  refine wpAny_bind (wpAny_holding (wpAny_mono h₂ (fun c s₃ h₃ => ?_) fun xx xx x => x))
  refine wpAny_bind (wpAny_release ?_)
  refine wpAny_bind (wpAny_holding (wpAny_mono h₃ (fun t s₄ h₄ => ?_) fun xx xx x => x))
  cases t
  · exact wpAny_pure h₄
  · rw [markedBehindIn_of_false hm]
    show wpAny M A (do
      let rv ← holding [b] (eval r2 env)
      standAt pos
      let c ← operate [b, rv] (compareOp p2 b rv)
      holding [c] (truthy c)) Q E s₄
    refine wpAny_bind (wpAny_holding (wpAny_mono h₄ (fun u s₅ h₅ => ?_) fun xx xx x => x))
    refine wpAny_bind (wpAny_standAt ?_)
    exact wpAny_bind (wpAny_operating (wpAny_mono h₅ (fun c' s₆ h₆ => wpAny_holding h₆) fun xx xx x => x))

theorem Attribute_ok {M : Model} {id n : Str} {p pos : Pos} {Q : Value → Shared → Prop}
    (h : wpAny M A (eval (.Name id p) env) (fun o s₁ => wpAny M A (getAttr o n true) Q E s₁) E s) : wpAny M A (eval (.Attribute (.Name id p) n pos) env) Q E s := by
  rw [arm_eval_Attribute]
  refine wpAny_bind (wpAny_mono h (fun o s₁ h₁ => ?_) fun xx xx x => x)
  refine wpAny_bind (wpAny_standAt (wpAny_bind (wpAny_holding (wpAny_mono h₁ (fun r s₂ h₂ => ?_) fun xx xx x => x))))
  exact wpAny_bind (wpAny_pure (wpAny_pure h₂))

theorem scall_ok {c n : Str} {p apos pos : Pos} {xs : List Expr} {es : List ME} {fv : Value} {Q : Value → Shared → Prop} (V : EnvOK env vars sc L) (G : GoodB B) (hb : BaseIn B s) (hg : glb sc c = true) (hs : StatSem B c n fv)
    (hc : chkEs es sc vars xs = true) (hl : xs.length < 25) (hline : (apos.endLine == pos.line) = true)
    (h : ∀ t, s.toks ≤ t → wpAny (model B.prog B.w) A (callWith pos fv [] (backTo pos (starEach xs env)) []) Q E { s with toks := t }) :
    wpAny (model B.prog B.w) A (eval (.Call (.Attribute (.Name c p) n apos) xs [] pos) env) Q E s := by
  obtain ⟨C, hC, hm⟩ := hs
  rw [arm_eval_Call]
  refine wpAny_bind (glob_ok V G hb hg hC ?_)
  refine wpAny_bind (wpAny_standAt ?_)
  have hform : methodCallForm (xs.length + ([] : List Keyword).length) (backTo pos (starEach xs env)) (backToKw pos (keywordEach [] env)) = true := few_ok hc hl
  have hpos : methodCallPos true (.Name c p) env apos pos = pure pos := by unfold methodCallPos; simp [hline]
  unfold methodCall
  rw [hform]
  refine wpAny_bind (wpAny_holding (hm A E _ s _ hb fun t ht => ?_))
  exact wpAny_bind (wpAny_of_eq hpos (h t ht))

end
end Mine
end

section
set_option tactic.hygienic false
set_option maxRecDepth 100000
set_option genInjectivity false
set_option genSizeOf false
namespace Mine
open PySem PySem.W PySem.Calls PyProof.Rows PySem.Builtin PySem.Builtin.Str PySem.NumText

section
variable {B : Base} {T : Tab} {d : Nat} {z z' P : PH} {vars : List Str} {L : Addr} {ρ : Loc} {H : AH} {s s' : Shared} {A : Around}

theorem padd_none {a b : Addr} {o : Obj} (h : P b = none) (hab : b ≠ a) : padd P a o b = none := by simp [padd, hab, h]

theorem St.pushPin (S : St B z P vars L ρ H s) {o : Obj} (hf : o.isFreed = false) : St B z (padd P s.heap.objs.size o) vars L ρ H { s with heap := s.heap.push o } := by
  have S1 := S.keeps (t := s.toks) (Nat.le_refl _) (fun xx xx e => Heap.get?_push_of_some o e)
  refine ⟨⟨S1.c.base, S1.c.zin, fun a x e => ?_, S1.c.hin, S1.c.os, S1.c.gens, S1.c.tk⟩, S1.lz, padd_none S1.lp (Nat.ne_of_lt S.llt), S1.lh, S1.loc⟩
  unfold padd at e
  split at e
  · rename_i q; subst q; cases e; exact ⟨Heap.get?_push_size _ hf, S.c.zfresh, S.c.hfresh⟩
  · exact S1.c.pin a x e
theorem St.repin {it : Addr} {o o' : Obj} {h' : Heap} {t : Nat} (S : St B z (padd P it o) vars L ρ H s) (hP : P it = none) (ht : s.toks ≤ t) (hs : Heap.SameBut it s.heap h') (ho : h'.get? it = some o') :
    St B z (padd P it o') vars L ρ H { s with heap := h', toks := t } := by
  have hit := S.c.pin it o (by simp [padd])
  have hL : L ≠ it := by rintro rfl; have := S.lp; simp [padd] at this
  refine ⟨⟨S.c.base, fun a x e => ?_, fun a x e => ?_, fun a x e => ?_, S.c.os, S.c.gens, ⟨Nat.lt_of_lt_of_le S.c.tk.1 ht, S.c.tk.2⟩⟩, S.lz, ?_, S.lh, ?_⟩
  · exact (hs.2 a (by rintro rfl; rw [hit.2.1] at e; cases e)).trans (S.c.zin a x e)
  · unfold padd at e
    split at e
    · rename_i q; subst q; cases e; exact ⟨ho, hit.2⟩
    · rename_i q
      have := S.c.pin a x (by simp [padd, q, e])
      exact ⟨(hs.2 a q).trans this.1, this.2⟩
  · obtain ⟨a1, oo, a2, a3⟩ := S.c.hin a x e
    exact ⟨a1, oo, (hs.2 a (by rintro rfl; rw [hit.2.2] at e; cases e)).trans a2, a3⟩
  · have := S.lp
    simp [padd, hL] at this ⊢
    exact this
  · obtain ⟨m, a1, a2⟩ := S.loc
    exact ⟨m, a1.sameBut hs hL, a2⟩
theorem St.unpin {it : Addr} {o : Obj} {h' : Heap} {t : Nat} (S : St B z (padd P it o) vars L ρ H s) (hP : P it = none) (ht : s.toks ≤ t) (hs : Heap.ExtBut it s.heap h') :
    St B z P vars L ρ H { s with heap := h', toks := t } := by
  have hit := S.c.pin it o (by simp [padd])
  have hL : L ≠ it := by rintro rfl; have := S.lp; simp [padd] at this
  refine ⟨⟨S.c.base, fun a x e => ?_, fun a x e => ?_, fun a x e => ?_, S.c.os, S.c.gens, ⟨Nat.lt_of_lt_of_le S.c.tk.1 ht, S.c.tk.2⟩⟩, S.lz, ?_, S.lh, ?_⟩
  · exact hs a x (by rintro rfl; rw [hit.2.1] at e; cases e) (S.c.zin a x e)
  · have q : a ≠ it := by rintro rfl; rw [hP] at e; cases e
    have := S.c.pin a x (by simp [padd, q, e])
    exact ⟨hs a x q this.1, this.2⟩
  · obtain ⟨a1, oo, a2, a3⟩ := S.c.hin a x e
    exact ⟨a1, oo, hs a _ (by rintro rfl; rw [hit.2.2] at e; cases e) a2, a3⟩
  · have := S.lp
    simp [padd, hL] at this
    exact this
  · obtain ⟨m, a1, a2⟩ := S.loc
    exact ⟨m, a1.extBut hs hL, a2⟩

structure Iter (B : Base) (z : PH) (it : Addr) (xs : List PV) (st : Nat → Obj → Prop) : Prop where
  item : ∀ (i : Nat) (z' : PH) (s : Shared) (A : Around) (Q : Option Value → Shared → Prop) (E : Value → Shared → Prop) (p : PV) (o : Obj), xs[i]? = some p → zle z z' → ZIn z' s → A.handled = none → s.heap.get? it = some o → st i o →
    (∀ v h' t o', s.toks ≤ t → Heap.SameBut it s.heap h' → h'.get? it = some o' → st (i + 1) o' → Rep B z' p v → Q (some v) { s with heap := h', toks := t }) → wpAny (model B.prog B.w) A (pyNext (.ref it)) Q E s
  done : ∀ (i : Nat) (z' : PH) (s : Shared) (A : Around) (Q : Option Value → Shared → Prop) (E : Value → Shared → Prop) (o : Obj), xs[i]? = none → zle z z' → ZIn z' s → A.handled = none → s.heap.get? it = some o → st i o →
    (∀ h', Heap.ExtBut it s.heap h' → Q none { s with heap := h' }) → wpAny (model B.prog B.w) A (pyNext (.ref it)) Q E s
  self : ∀ (i : Nat) (s : Shared) (A : Around) (Q : Value → Shared → Prop) (E : Value → Shared → Prop) (o : Obj), s.heap.get? it = some o → st i o → Q (.ref it) s → wpAny (model B.prog B.w) A (pyIter (.ref it)) Q E s

theorem str_item {x : List Nat} {i : Nat} {p : PV} (h : (x.map fun c => PV.str [c])[i]? = some p) : ∃ c, x[i]? = some c ∧ p = .str [c] := by
  rw [List.getElem?_map, Option.map_eq_some_iff] at h
  obtain ⟨c, h1, h2⟩ := h
  exact ⟨c, h1, h2.symm⟩

set_option tactic.hygienic true in
theorem iter_make {x : PV} {v : Value} {xs : List PV} {E : Value → Shared → Prop} {Q : Value → Shared → Prop} (hx : pItems x = some xs) (rx : Rep B z x v) (zi : ZIn z s) (hz : z s.heap.objs.size = none) 
    (h : ∀ o st, o.isFreed = false → Iter B z s.heap.objs.size xs st → st 0 o → Q (.ref s.heap.objs.size) { s with heap := s.heap.push o }) : wpAny (model B.prog B.w) A (pyIter v) Q E s := by
  unfold pItems at hx
  split at hx
  · rename_i y
    cases hx
    obtain ⟨sy, t, rfl⟩ := rx
    have hget : ∀ i : Nat, (sOf y).cps[i]? = y[i]? := fun i => by simp
    cases ha : (sOf y).cps.all (· < 128) with
    | true =>
      refine wpAny_pyIter_ascii ha (h _ (fun i o => o.cls = .type "str_ascii_iterator" ∧ o.data = .fields #[.str (sOf y) t, .int i 0]) rfl ?_ ⟨rfl, rfl⟩)
      refine ⟨fun i z' s A Q E p o hp hle zi hA ho hst hQ => ?_, fun i z' s A Q E o hp hle zi hA ho hst hQ => ?_, fun i s A Q E o ho hst hQ => ?_⟩
      · obtain ⟨c, hc, rfl⟩ := str_item hp
        refine wpAny_pyNext_ascii_item ⟨o, ho, hst.1, hst.2⟩ (by rw [hget]; exact hc) ?_
        rintro h' ⟨o', ho', h1, h2⟩ hs
        exact hQ _ h' _ o' (Nat.le_succ _) hs ho' ⟨h1, h2⟩ ⟨sok_one (sy.1 c (List.mem_of_getElem? hc)), _, rfl⟩
      · have : y[i]? = none := by simpa using hp
        exact wpAny_pyNext_ascii_end hA ⟨o, ho, hst.1, hst.2⟩ (by rw [hget]; exact this) hQ
      · exact wpAny_pyIter_striter_ascii ⟨o, ho, hst.1, hst.2⟩ hQ
    | false =>
      refine wpAny_pyIter_wide ha (h _ (fun i o => o.cls = .type "str_iterator" ∧ o.data = .fields #[.str (sOf y) t, .int i 0]) rfl ?_ ⟨rfl, rfl⟩)
      refine ⟨fun i z' s A Q E p o hp hle zi hA ho hst hQ => ?_, fun i z' s A Q E o hp hle zi hA ho hst hQ => ?_, fun i s A Q E o ho hst hQ => ?_⟩
      · obtain ⟨c, hc, rfl⟩ := str_item hp
        refine wpAny_pyNext_wide_item ⟨o, ho, hst.1, hst.2⟩ (by rw [hget]; exact hc) ?_
        rintro h' ⟨o', ho', h1, h2⟩ hs
        exact hQ _ h' _ o' (Nat.le_succ _) hs ho' ⟨h1, h2⟩ ⟨sok_one (sy.1 c (List.mem_of_getElem? hc)), _, rfl⟩
      · have : y[i]? = none := by simpa using hp
        exact wpAny_pyNext_wide_end hA ⟨o, ho, hst.1, hst.2⟩ (by rw [hget]; exact this) hQ
      · exact wpAny_pyIter_striter_wide ⟨o, ho, hst.1, hst.2⟩ hQ
  · cases hx
    obtain ⟨a, n, vs, rfl, hz1, hl, hsz⟩ := rx
    have hne : a ≠ s.heap.objs.size := by rintro rfl; rw [hz] at hz1; cases hz1
    refine wpAny_pyIter_list (items := vs) ⟨_, zi _ _ hz1, rfl, _, rfl⟩ (h _ (fun i o => o.cls = .type "list_iterator" ∧ o.data = .fields #[.ref a, .int i 0]) rfl ?_ ⟨rfl, rfl⟩)
    refine ⟨fun i z' s A Q E p o hp hle zi hA ho hst hQ => ?_, fun i z' s A Q E o hp hle zi hA ho hst hQ => ?_, fun i s A Q E o ho hst hQ => ?_⟩
    · obtain ⟨v, hv, rv⟩ := hl.get hp
      refine wpAny_pyNext_list_item ⟨o, ho, hst.1, hst.2⟩ ⟨_, zi _ _ (hle _ _ hz1), rfl, _, rfl⟩ (x := v) (by rw [← Array.getElem?_toList]; exact hv) ?_
      rintro h' ⟨o', ho', h1, h2⟩ hs
      exact hQ _ h' _ o' (Nat.le_refl _) hs ho' ⟨h1, h2⟩ (rv.mono hle)
    · have hn : vs[i]? = none := by
        have h1 := List.getElem?_eq_none_iff.mp hp
        have h2 := hl.length
        rw [Array.length_toList] at h2
        simp; lia
      exact wpAny_pyNext_list_end hA ⟨o, ho, hst.1, hst.2⟩ ⟨_, zi _ _ (hle _ _ hz1), rfl, _, rfl⟩ hn hQ
    · exact wpAny_pyIter_listiter ⟨o, ho, hst.1, hst.2⟩ hQ
  · cases hx
end
end Mine
end

section
set_option tactic.hygienic false
set_option maxRecDepth 100000
set_option genInjectivity false
set_option genSizeOf false
namespace Mine
open PySem PySem.W PySem.Calls PyProof.Rows PySem.Builtin PySem.Builtin.Str PySem.NumText

section
variable {B : Base} {T : Tab} {d : Nat} {z z' P P' : PH} {vars : List Str} {L : Addr} {ρ : Loc} {H : AH} {s s' : Shared} {A : Around}

theorem padd_self (P : PH) (a : Addr) (o : Obj) : padd P a o a = some o := by simp [padd]
theorem padd_ne {P : PH} {a b : Addr} {o : Obj} (h : b ≠ a) : padd P a o b = P b := by simp [padd, h]
theorem padd_comm {P : PH} {a b : Addr} {o p : Obj} (h : a ≠ b) : padd (padd P a o) b p = padd (padd P b p) a o := by
  funext c
  unfold padd
  by_cases h1 : c = a
  · subst h1; simp [h]
  · simp [h1]

theorem St.chgI {isI : Addr → Prop} {h' : Heap} {t : Nat} (S : St B z P vars L ρ H s) (sub : ∀ b o, P' b = some o → ¬ isI b ∧ P b = some o) (hi : ∀ b, isI b → z b = none ∧ H b = none ∧ b ≠ L)
    (ht : s.toks ≤ t) (hs : ∀ b o, ¬ isI b → s.heap.get? b = some o → h'.get? b = some o) : St B z P' vars L ρ H { s with heap := h', toks := t } := by
  refine ⟨⟨S.c.base, fun b x e => ?_, fun b x e => ?_, fun b x e => ?_, S.c.os, S.c.gens, ⟨Nat.lt_of_lt_of_le S.c.tk.1 ht, S.c.tk.2⟩⟩, S.lz, ?_, S.lh, ?_⟩
  · exact hs b x (fun h => by rw [(hi b h).1] at e; cases e) (S.c.zin b x e)
  · obtain ⟨n, q⟩ := sub b x e
    have := S.c.pin b x q
    exact ⟨hs b x n this.1, this.2⟩
  · obtain ⟨a1, oo, a2, a3⟩ := S.c.hin b x e
    exact ⟨a1, oo, hs b _ (fun h => by rw [(hi b h).2.1] at e; cases e) a2, a3⟩
  · cases hp : P' L with
    | none => rfl
    | some o => have := (sub _ _ hp).2; rw [S.lp] at this; cases this
  · obtain ⟨m, a1, a2⟩ := S.loc
    exact ⟨m, a1.at' fun o x => hs L o (fun h => (hi L h).2.2 rfl) x, a2⟩
theorem St.chg {a : Addr} {h' : Heap} {t : Nat} (S : St B z P vars L ρ H s) (sub : ∀ b o, P' b = some o → P b = some o) (hP : P' a = none) (hz : z a = none) (hh : H a = none) (hL : L ≠ a)
    (ht : s.toks ≤ t) (hs : Heap.ExtBut a s.heap h') : St B z P' vars L ρ H { s with heap := h', toks := t } :=
  S.chgI (isI := (· = a)) (fun b o e => ⟨fun h => (by rw [h, hP] at e; cases e), sub b o e⟩) (fun b h => by rw [h]; exact ⟨hz, hh, Ne.symm hL⟩) ht hs
theorem St.chgPin {a : Addr} {o o' : Obj} {h' : Heap} {t : Nat} (S : St B z P vars L ρ H s) (hp : P a = some o) (ht : s.toks ≤ t) (hs : Heap.SameBut a s.heap h') (ho : h'.get? a = some o') :
    St B z (padd P a o') vars L ρ H { s with heap := h', toks := t } := by
  have hit := S.c.pin a o hp
  have hL : L ≠ a := by rintro rfl; have := S.lp; rw [hp] at this; cases this
  refine ⟨⟨S.c.base, fun b x e => ?_, fun b x e => ?_, fun b x e => ?_, S.c.os, S.c.gens, ⟨Nat.lt_of_lt_of_le S.c.tk.1 ht, S.c.tk.2⟩⟩, S.lz, ?_, S.lh, ?_⟩
  · exact (hs.2 b (by rintro rfl; rw [hit.2.1] at e; cases e)).trans (S.c.zin b x e)
  · unfold padd at e
    split at e
    · rename_i q; subst q; cases e; exact ⟨ho, hit.2⟩
    · rename_i q
      have := S.c.pin b x e
      exact ⟨(hs.2 b q).trans this.1, this.2⟩
  · obtain ⟨a1, oo, a2, a3⟩ := S.c.hin b x e
    exact ⟨a1, oo, (hs.2 b (by rintro rfl; rw [hit.2.2] at e; cases e)).trans a2, a3⟩
  · rw [padd_ne hL]; exact S.lp
  · obtain ⟨m, a1, a2⟩ := S.loc
    exact ⟨m, a1.sameBut hs hL, a2⟩

theorem StC.toSt {m : Str → Option Value} (S : StC B z P H s) (hz : z L = none) (hp : P L = none) (hh : H L = none) (hn : s.heap.Ns L m) (hl : LocRep B z vars ρ m) : St B z P vars L ρ H s :=
  ⟨S, hz, hp, hh, m, hn, hl⟩

theorem closure_none {scope : Scope} {env : Env} (h : ∀ x ∈ scope.names, x.2 ≠ .free) : closureFor scope env = pure [] := closureFor_none h
theorem relabel_none {scope : Scope} {env : Env} (h : ∀ x ∈ scope.names, x.2 ≠ .free) : relabel scope env = scope := by
  unfold relabel
  rw [map_eq_self (l := scope.names) (fun x hx => by
    obtain ⟨n, k⟩ := x
    have : (k == NameKind.free) = false := by simpa using h _ hx
    simp [this])]

structure CompOK (csc : Scope) (x : Str) : Prop where
  free : ∀ y ∈ csc.names, y.2 ≠ .free
  cell : ∀ y ∈ csc.names, y.2 ≠ .cell
  kind : csc.kind = .function
  names : ∀ y ∈ csc.names, y.2 = .local → csc.names.lookup y.1 = some .local
  hx : csc.names.lookup x = some .local
  dbg : (x == ("__debug__" : Str)) = false
theorem compOk_ok {csc : Scope} {x : Str} (h : compOk csc x = true) : CompOK csc x := by
  unfold compOk at h
  simp only [Bool.and_eq_true, List.all_eq_true, Bool.or_eq_true, Bool.not_eq_true', bne_iff_ne, ne_eq, beq_iff_eq] at h
  obtain ⟨⟨⟨⟨⟨h1, h2⟩, h3⟩, h4⟩, h5⟩, h6⟩ := h
  refine ⟨fun y hy => (h1 y hy).1, fun y hy => (h1 y hy).2, h2, fun y hy hl => ?_, h4, h6⟩
  rcases h3 y hy with h | h
  · exact absurd hl h
  · exact h

theorem loc1 (x : Str) : locOk [x] 0 x = true := by simp [locOk]
theorem set_one {ρ : Loc} {p : PV} (h : ρ.length = 1) : setL ρ 0 p = [some p] := by
  cases ρ with
  | nil => cases h
  | cons a r => cases r with
    | nil => rfl
    | cons => cases h
theorem comp_alloc {csc : Scope} {env : Env} {lv : List Str} {Q : Value → Env → Shared → Prop} {E : Value → Shared → Prop} (hcell : ∀ y ∈ csc.names, y.2 ≠ .cell) (hkind : csc.kind = .function) (S : St B z P vars L ρ H s)
    (h : ∀ (D K : Addr) (oL : Obj) (s' : Shared), D ≠ K → L ≠ K → L ≠ D → P D = none → P K = none → s.heap.get? L = some oL → St B z (padd (padd P D { cls := .type "list", data := .seq #[] }) L oL) lv K (lv.map fun xx => none) H s' →
      Q (.ref D) (newEnv csc K env.globals [] env.qual none .none (some env) 0) s') :
    wpAny (model B.prog B.w) A (newList []) (fun acc s₃ => wpAny (model B.prog B.w) A (newFunctionEnv csc env.globals [] [] env.qual none .none (some env)) (fun cenv s₄ => Q acc cenv s₄) E s₃) E s := by
  refine wpAny_newObj_type (wpAny_newFunctionEnv hcell (by intro y hy; cases hy) (fun h₁ hns₁ hsb₁ => ?_) hkind)
  have S₁ := S.pushPin (o := { cls := .type "list", dict := none, data := .seq ([] : List Value).toArray }) rfl
  obtain ⟨oL, SC, hoL⟩ := S₁.toCall
  have hLD : L ≠ s.heap.objs.size := Nat.ne_of_lt S.llt
  have hsz : (s.heap.push { cls := .type "list", dict := none, data := .seq ([] : List Value).toArray }).objs.size = s.heap.objs.size + 1 := Heap.size_push ..
  have hDK : s.heap.objs.size ≠ (s.heap.push { cls := .type "list", dict := none, data := .seq ([] : List Value).toArray }).objs.size := by rw [hsz]; exact Nat.ne_of_lt (Nat.lt_succ_self _)
  have hLK : L ≠ (s.heap.push { cls := .type "list", dict := none, data := .seq ([] : List Value).toArray }).objs.size := by rw [hsz]; exact Nat.ne_of_lt (Nat.lt_succ_of_lt S.llt)
  have hKp := SC.pfresh
  refine h _ _ oL _ hDK hLK hLD S.c.pfresh ?_ ?_ ((SC.keeps (Nat.le_add_right _ _) fun b x e => ?_).toSt SC.zfresh hKp SC.hfresh hns₁ fun i y p hy hp => ?_)
  · exact (padd_ne (Ne.symm hDK)).symm.trans ((padd_ne (Ne.symm hLK)).symm.trans hKp)
  · obtain ⟨_, ⟨o', _, _, ho', _⟩, _⟩ := S.loc
    exact ho'.trans ((Heap.get?_push_of_some { cls := .type "list", dict := none, data := .seq ([] : List Value).toArray } ho').symm.trans hoL)
  · exact hsb₁.extBut b x (Nat.ne_of_lt (Heap.lt_size e)) (Heap.get?_push_of_some _ e)
  · rw [List.getElem?_map] at hp
    cases hq : lv[i]? with
    | none => rw [hq] at hp; cases hp
    | some q => rw [hq] at hp; cases hp

theorem comp_fin {isI : Addr → Prop} {PI PP : PH} {lv : List Str} {ρ' : Loc} {H' : AH} {D K : Addr} {oL dO : Obj} {s₃ : Shared} {h' : Heap} (S : St B z PI vars L ρ H s) (hoL : s.heap.get? L = some oL) (le : zle z z')
    (hP : ∀ b, isI b → P b = none) (hPI : ∀ b, ¬ isI b → PI b = P b) (hIn : ∀ b, isI b → ∃ o, PI b = some o) (hLD : L ≠ D) (hLK : L ≠ K) (hD : ¬ isI D) (hK : ¬ isI K) (hin : ∀ b, isI b → ∃ o, PP b = some o)
    (S₃ : St B z' PP lv K ρ' H' s₃) (hPD : PP D = some dO) (hPP : ∀ b, ¬ isI b → b ≠ D → PP b = padd P L oL b) (hs : ∀ b o, ¬ isI b → s₃.heap.get? b = some o → h'.get? b = some o) :
    ∃ oK m, St B z' (padd (padd P D dO) K oK) vars L ρ H' { s₃ with heap := h' } ∧ h'.Ns K m := by
  have hL : ¬ isI L := fun h => by obtain ⟨o, e⟩ := hIn L h; rw [S.lp] at e; cases e
  have hPL : P L = none := (hPI L hL).symm.trans S.lp
  have S₄ : St B z' (padd (padd P D dO) L oL) lv K ρ' H' { s₃ with heap := h', toks := s₃.toks } := by
    refine S₃.chgI (fun b o e => ?_) (fun b h => ?_) (Nat.le_refl _) hs
    · by_cases h3 : b = L
      · subst h3; rw [padd_self] at e; exact ⟨hL, by rw [hPP b hL hLD, padd_self]; exact e⟩
      · rw [padd_ne h3] at e
        by_cases h2 : b = D
        · subst h2; rw [padd_self] at e; exact ⟨hD, hPD.trans e⟩
        · rw [padd_ne h2] at e
          have n : ¬ isI b := fun h => by rw [hP b h] at e; cases e
          exact ⟨n, by rw [hPP b n h2, padd_ne h3]; exact e⟩
    · obtain ⟨o, e⟩ := hin b h
      exact ⟨(S₃.c.pin b o e).2.1, (S₃.c.pin b o e).2.2, fun q => hK (q ▸ h)⟩
  obtain ⟨oK, SK, _⟩ := S₄.toCall
  rw [padd_comm hLK] at SK
  have hiL := SK.pin L oL (padd_self ..)
  have hPL' : padd (padd P D dO) K oK L = none := by rw [padd_ne hLK, padd_ne hLD]; exact hPL
  obtain ⟨m₀, hn₀, hl₀⟩ := S.loc
  obtain ⟨mK, hnK, _⟩ := S₄.loc
  refine ⟨oK, mK, ⟨⟨SK.base, SK.zin, fun b o' e => SK.pin b o' ?_, SK.hin, SK.os, SK.gens, SK.tk⟩, hiL.2.1, hPL', hiL.2.2, m₀, hn₀.at' fun o' e => ?_, hl₀.mono le⟩, hnK⟩
  · rw [padd_ne fun h => by rw [h, hPL'] at e; cases e]; exact e
  · rw [hoL] at e; cases e; exact hiL.1

theorem compLoop_T {R : Result → Shared → Prop} {elt target iter : Expr} {scope : Scope} {pos : Pos} {it acc : Value} {env : Env} (I : Nat → Shared → Prop)
    (turn : ∀ n s, I n s → wpAny (model B.prog B.w) A (pyNext it) (fun r s₁ => match r with
      | none => R (.ok .next) s₁
      | some v => wpAny (model B.prog B.w) A (letOwnedTupleGo target it v) (fun xx s₁' => wpAny (model B.prog B.w) A (assign target env v) (fun xx s₂ => wpAny (model B.prog B.w) A (eval elt env) (fun x s₃ =>
          wpAny (model B.prog B.w) A (call (.builtin "list.append") [acc, x]) (fun xx s₄ => ∃ m, m < n ∧ I m s₄) (notedBy (model B.prog B.w) A env fun e s' => R (.error e) s') s₃)
          (notedBy (model B.prog B.w) A env fun e s' => R (.error e) s') s₂) (notedBy (model B.prog B.w) A env fun e s' => R (.error e) s') s₁') (notedBy (model B.prog B.w) A env fun e s' => R (.error e) s') s₁) (notedBy (model B.prog B.w) A env fun e s' => R (.error e) s') s)
    (n : Nat) (h : I n s) : codeAny (model B.prog B.w) A (.compLoop (.ListComp elt [⟨target, iter, [], 0⟩] scope pos) 0 it acc env) R s := by
  refine codeAny_loop rfl I (fun n s hI => ?_) n h
  show wpAny _ _ ((compTurn (.ListComp elt [⟨target, iter, [], 0⟩] scope pos) 0 it acc env).onRaise (fun x => do noteFrame x env; theTreesLotGoes x)) _ _ s
  refine wpAny_noted ?_
  rw [compTurn_list1]
  refine wpAny_bind (wpAny_standAt (wpAny_bind (wpAny_mono (turn n s hI) (fun r s₁ h₁ => ?_) fun xx xx h' => h')))
  cases r with
  | none => exact wpAny_pure h₁
  | some v =>
    refine wpAny_bind (wpAny_mono h₁ (fun xx s₁' h₁' => ?_) fun xx xx h' => h')
    refine wpAny_bind (wpAny_mono h₁' (fun xx s₂ h₂ => ?_) fun xx xx h' => h')
    refine wpAny_bind (wpAny_bind (wpAny_mono h₂ (fun x s₃ h₃ => ?_) fun xx xx h' => h'))
    exact wpAny_bind (wpAny_mono h₃ (fun xx s₄ h₄ => wpAny_pure (wpAny_pure ⟨rfl, h₄⟩)) fun xx xx h' => h')


theorem mapW_mapI {f : PV → (PV → AH → Prop) → AH → Prop} : ∀ (xs : List PV) (i : Nat), mapW f xs = mapI (fun xx => f) i xs
  | [], _ => rfl
  | x :: xs, i => by
    funext Q H
    show f x (fun r H' => mapW f xs _ H') H = _
    rw [mapW_mapI xs (i + 1)]
    rfl

theorem padd_notI {isI : Addr → Prop} {a b : Addr} {o : Obj} (n : ¬ isI a) (h : isI b) : padd P a o b = P b := padd_ne fun e => n (by rw [← e]; exact h)

noncomputable def CompI (B : Base) (z P : PH) (lv : List Str) (isI : Addr → Prop) (Inv : Nat → PH → Prop) (f : Nat → PV → (PV → AH → Prop) → AH → Prop) (xs : List PV) (Qm : List PV → AH → Prop) (D L K : Addr) (oL : Obj) (n : Nat) (s : Shared) : Prop :=
  ∃ k z' PP vs nn ρ' H' rs, zle z z' ∧ St B z' PP lv K ρ' H' s ∧ ρ'.length = lv.length ∧ Inv k PP ∧ PP D = some { cls := .type "list", data := .seq vs nn } ∧ (∀ b, ¬ isI b → b ≠ D → PP b = padd P L oL b) ∧
    RepL B z' rs vs.toList ∧ rs.length = k ∧ k ≤ xs.length ∧ mapI f k (xs.drop k) (fun rs' H'' => Qm (rs ++ rs') H'') H' ∧ n = xs.length - k

theorem comp_gen {f : Nat → PV → (PV → AH → Prop) → AH → Prop} {elt iter tgt : Expr} {lv : List Str} {pos : Pos} {csc : Scope} {env : Env} {itv : Value} {isI : Addr → Prop} {PI : PH} {Inv : Nat → PH → Prop} {xs : List PV} {Qm : List PV → AH → Prop}
    {RR : Value → Addr → Result → Shared → Prop} {E : Value → Shared → Prop} (hcell : ∀ y ∈ csc.names, y.2 ≠ .cell) (hkind : csc.kind = .function) (VC : ∀ K, EnvOK (compEnvC csc [] K env) lv csc K)
    (S : St B z PI vars L ρ H s) (hPI : ∀ b, ¬ isI b → PI b = P b) (hP : ∀ b, isI b → P b = none) (hinv : Inv 0 PI) (hext : ∀ k PP PP', Inv k PP → (∀ b, isI b → PP' b = PP b) → Inv k PP') (hin : ∀ k PP, Inv k PP → ∀ b, isI b → ∃ o, PP b = some o)
    (hsz : xs.length ≤ 1000000)
    (hself : ∀ {PP : PH} {z : PH} {K : Addr} {ρ : Loc} {H : AH} {s : Shared} {Q E : Value → Shared → Prop}, St B z PP lv K ρ H s → Inv 0 PP → Q itv s → wpAny (model B.prog B.w) A (pyIter itv) Q E s)
    (hend : ∀ {k : Nat} {z' PP : PH} {K : Addr} {ρ' : Loc} {H' : AH} {s : Shared} {RQ : Option Value → Shared → Prop} {E : Value → Shared → Prop}, zle z z' → St B z' PP lv K ρ' H' s → Inv k PP → xs[k]? = none →
      (∀ h', (∀ b o, ¬ isI b → s.heap.get? b = some o → h'.get? b = some o) → RQ none { s with heap := h' }) → wpAny (model B.prog B.w) A (pyNext itv) RQ E s)
    (hturn : ∀ {k : Nat} {z' PP : PH} {K : Addr} {ρ' : Loc} {H' : AH} {s : Shared} {p : PV} {Q : PV → AH → Prop} {RQ : Option Value → Shared → Prop} {F E : Value → Shared → Prop}, zle z z' → EnvOK (compEnvC csc [] K env) lv csc K → St B z' PP lv K ρ' H' s → ρ'.length = lv.length → Inv k PP → xs[k]? = some p → f k p Q H' →
      (∀ v s₁, wpAny (model B.prog B.w) A (letOwnedTupleGo tgt itv v) (fun xx s₁' => wpAny (model B.prog B.w) A (assign tgt (compEnvC csc [] K env) v) (fun xx s₂ => wpAny (model B.prog B.w) A (eval elt (compEnvC csc [] K env)) F E s₂) E s₁') E s₁ → RQ (some v) s₁) →
      (∀ x z'' PP' ρ'' H'' r s'', zle z' z'' → St B z'' PP' lv K ρ'' H'' s'' → ρ''.length = lv.length → Inv (k + 1) PP' → (∀ b, ¬ isI b → PP' b = PP b) → Rep B z'' r x → Q r H'' → F x s'') → wpAny (model B.prog B.w) A (pyNext itv) RQ E s)
    (hm : mapI f 0 xs Qm H)
    (hRR : ∀ (D K : Addr) (z' : PH) (H' : AH) (s' : Shared) (rs : List PV) (vs : Array Value) (n : Nat) (oK : Obj) (m : Str → Option Value), zle z z' → D ≠ K →
      P D = none → P K = none →
      St B z' (padd (padd P D { cls := .type "list", data := .seq vs n }) K oK) vars L ρ H' s' → s'.heap.Ns K m → RepL B z' rs vs.toList → rs.length = xs.length → Qm rs H' → RR (.ref D) K (.ok .next) s') :
    wpAny (model B.prog B.w) A (newList []) (fun acc s₃ => wpAny (model B.prog B.w) A (newFunctionEnv csc env.globals [] [] env.qual none .none (some env)) (fun cenv s₄ =>
      codeAny (model B.prog B.w) A (.compStart (.ListComp elt [⟨tgt, iter, [], 0⟩] csc pos) 0 itv acc { cenv with scope := relabel csc env }) (RR acc cenv.locals) s₄) E s₃) E s := by
  refine comp_alloc (lv := lv) (Q := fun acc cenv s₄ => codeAny (model B.prog B.w) A (.compStart (.ListComp elt [⟨tgt, iter, [], 0⟩] csc pos) 0 itv acc { cenv with scope := relabel csc env }) (RR acc cenv.locals) s₄) hcell hkind S fun D K oL s' hDK hLK hLD hD hK hoL SF => ?_
  have nI : ∀ b, PI b = none → ¬ isI b := fun b e h => by obtain ⟨o, q⟩ := hin 0 PI hinv b h; rw [e] at q; cases q
  have nD := nI D hD
  have nL := nI L S.lp
  have hi0 : Inv 0 (padd (padd PI D { cls := .type "list", data := .seq #[] }) L oL) := hext 0 PI _ hinv fun b h => (padd_notI nL h).trans (padd_notI nD h)
  have loop : codeAny (model B.prog B.w) A (.compLoop (.ListComp elt [⟨tgt, iter, [], 0⟩] csc pos) 0 itv (.ref D) (compEnvC csc [] K env)) (RR (.ref D) K) s' := by
    refine compLoop_T (CompI B z P lv isI Inv f xs Qm D L K oL) ?_ xs.length
      ⟨0, z, _, #[], 0, _, H, [], zle.refl z, SF, List.length_map .., hi0, by rw [padd_ne (Ne.symm hLD), padd_self], fun b h1 h2 => ?_, rfl, rfl, Nat.zero_le _, hm, rfl⟩
    · rintro n s₃ ⟨k, z₃, PP, vs, nn, ρ₃, H₃, rs, le₃, S₃, hρ, hI, hPPD, hPP, hrs, hlk, hkle, hmk, rfl⟩
      cases hk : xs[k]? with
      | none =>
        refine hend le₃ S₃ hI hk fun h' hx => ?_
        have hkl : xs.length ≤ k := List.getElem?_eq_none_iff.mp hk
        rw [List.drop_eq_nil_of_le hkl] at hmk
        obtain ⟨oK, mK, SL, hnK⟩ := comp_fin S hoL le₃ hP hPI (hin 0 PI hinv) hLD hLK nD (nI K hK) (hin k PP hI) S₃ hPPD hPP hx
        exact hRR D K z₃ H₃ _ rs vs nn oK mK le₃ hDK ((hPI D nD).symm.trans hD) ((hPI K (nI K hK)).symm.trans hK) SL hnK hrs (hlk.trans (Nat.le_antisymm hkle hkl)) (by rw [← List.append_nil rs]; exact hmk)
      | some p =>
        have hlt : k < xs.length := (List.getElem?_eq_some_iff.mp hk).1
        rw [List.drop_eq_getElem_cons hlt, (List.getElem?_eq_some_iff.mp hk).2] at hmk
        refine hturn le₃ (VC K) S₃ hρ hI hk hmk (fun v s₁ hv => hv) fun y z₆ PP' ρ₆ H₆ r s₆ le₆ S₆ hρ' hI' hPP' hry hq => ?_
        have hD6 := (hPP' D nD).trans hPPD
        have hvl : vs.size = k := by
          have := hrs.length
          rw [Array.length_toList] at this
          rw [← hlk]; first | exact this | exact this.symm
        refine wpAny_list_append_plain ⟨nn, (S₆.c.pin D _ hD6).1⟩ ?_ (by rw [hvl]; exact Nat.le_of_lt (Nat.lt_of_lt_of_le (Nat.lt_of_lt_of_le hlt hsz) (by decide : 1000000 ≤ sizeLine)))
        rintro h7 ⟨n7, hn7⟩ hs7
        refine ⟨xs.length - (k + 1), Nat.sub_lt_sub_left hlt (Nat.lt_succ_self k), k + 1, z₆, _, _, n7, ρ₆, H₆, rs ++ [r], le₃.trans le₆, S₆.chgPin (t := s₆.toks) hD6 (Nat.le_refl _) hs7 hn7, hρ', hext _ _ _ hI' fun b h => padd_notI nD h, padd_self .., fun b h1 h2 => ?_, ?_, ?_, hlt, ?_, rfl⟩
        · rw [padd_ne h2, hPP' b h1]; exact hPP b h1 h2
        · rw [Array.toList_push]; exact (hrs.mono le₆).append (RepL.single hry)
        · rw [List.length_append, hlk]; rfl
        · refine cast (congrArg (fun Q => mapI f (k + 1) (xs.drop (k + 1)) Q H₆) (funext fun rs' => ?_)) hq
          rw [List.append_assoc]; rfl
    · by_cases h3 : b = L
      · subst h3; rw [padd_self, padd_self]
      · rw [padd_ne h3, padd_ne h2, padd_ne h3]; exact hPI b h1
  exact codeAny_compStart_list loop (hself SF hi0 loop)

theorem comp_core {f : PV → (PV → AH → Prop) → AH → Prop} {elt iter : Expr} {x : Str} {px pos : Pos} {csc sc : Scope} {env : Env} {it : Addr} {o : Obj} {xs : List PV} {stt : Nat → Obj → Prop} {Qm : List PV → AH → Prop}
    {RR : Value → Addr → Result → Shared → Prop} {E : Value → Shared → Prop}
    (C : CompOK csc x) (V : EnvOK env vars sc L) (R : Room d A) (IT : Iter B z it xs stt) (S : St B z (padd P it o) vars L ρ H s) (hP : P it = none) (hst : stt 0 o) (hsz : xs.length ≤ 1000000)
    (helt : ∀ {y : PV} {H : AH} {Q : PV → AH → Prop} {z P : PH} {L' : Addr} {env' : Env} {s : Shared}, EnvOK env' [x] csc L' → f y Q H → St B z P [x] L' [some y] H s →
      wpAny (model B.prog B.w) A (eval elt env') (PE B P [x] L' [some y] z Q) NoExc s)
    (hm : mapW f xs Qm H)
    (hRR : ∀ (D K : Addr) (z' : PH) (H' : AH) (s' : Shared) (rs : List PV) (vs : Array Value) (n : Nat) (oK : Obj) (m : Str → Option Value), zle z z' → D ≠ K →
      P D = none → P K = none →
      St B z' (padd (padd P D { cls := .type "list", data := .seq vs n }) K oK) vars L ρ H' s' → s'.heap.Ns K m → RepL B z' rs vs.toList → rs.length = xs.length → Qm rs H' → RR (.ref D) K (.ok .next) s') :
    wpAny (model B.prog B.w) A (newList []) (fun acc s₃ => wpAny (model B.prog B.w) A (newFunctionEnv csc env.globals [] [] env.qual none .none (some env)) (fun cenv s₄ =>
      codeAny (model B.prog B.w) A (.compStart (.ListComp elt [⟨.Name x px, iter, [], 0⟩] csc pos) 0 (.ref it) acc { cenv with scope := relabel csc env }) (RR acc cenv.locals) s₄) E s₃) E s := by
  have hlit : ∀ b, b = it → padd P it o b = some o := fun b h => by rw [h]; exact padd_self ..
  refine comp_gen (isI := (· = it)) (Inv := fun k PP => ∃ oI, PP it = some oI ∧ stt k oI) (f := fun xx => f) (lv := [x]) C.cell C.kind (fun K => ⟨relabel_none C.free, C.kind, rfl, V.g, V.b, fun y hy => ?_, List.nodup_cons.mpr ⟨fun h => (by cases h), List.nodup_nil⟩⟩) S (fun b h => padd_ne h) (fun b h => h ▸ hP) ⟨o, padd_self .., hst⟩
    (fun k PP PP' hi he => ?_) (fun k PP hi b hb => ?_) hsz (fun S hi hq => ?_) (fun le S hi hk hq => ?_) (fun le VC S hρ hi hk hf hR hF => ?_) (mapW_mapI xs 0 ▸ hm) hRR
  · rw [List.mem_singleton] at hy; subst hy; exact ⟨C.hx, C.dbg⟩
  · obtain ⟨oI, h1, h2⟩ := hi; exact ⟨oI, (he it rfl).trans h1, h2⟩
  · obtain ⟨oI, h1, _⟩ := hi; exact ⟨oI, hb ▸ h1⟩
  · obtain ⟨oI, h1, h2⟩ := hi; exact IT.self 0 _ _ _ _ oI (S.c.pin it oI h1).1 h2 hq
  · obtain ⟨oI, h1, h2⟩ := hi; exact IT.done _ _ _ A _ _ oI hk le S.zi R.h (S.c.pin it oI h1).1 h2 hq
  · obtain ⟨oI, h1, h2⟩ := hi
    refine IT.item _ _ _ A _ _ _ oI hk le S.zi R.h (S.c.pin it oI h1).1 h2 fun v h' t o' ht hs ho' hst' hr => hR _ _ (wpAny_pure (wpAny_assign_Name (store_ok VC (S.chgPin h1 ht hs ho') (i := 0) (loc1 _) hr fun h'' S₅ => ?_)))
    rw [set_one hρ] at S₅
    refine wpAny_mono (helt VC hf S₅) ?_ (fun xx xx => no _ _)
    rintro y s₆ ⟨z₆, r, H₆, le₆, S₆, hry, hq⟩
    exact hF y z₆ _ _ H₆ r s₆ le₆ S₆ rfl ⟨o', padd_self .., hst'⟩ (fun b h => padd_ne h) hry hq

theorem not_set {e : Expr} {env : Env} (h : isSet e = false) : ∀ x, foldedSetIterable e env x = pure x := by
  intro x
  cases e <;> first | rfl | cases h

theorem comp_done {xs rs : List PV} {D K : Addr} {vs : Array Value} {n : Nat} {oK : Obj} {h' : Heap} {Q : PV → AH → Prop} {z₁ : PH} (le₁ : zle z z₁) (le : zle z₁ z') (hDK : D ≠ K) (hPD : P D = none) (hPK : P K = none)
    (SK : St B z' (padd (padd P D { cls := .type "list", data := .seq vs n }) K oK) vars L ρ H s) (hrs : RepL B z' rs vs.toList) (hl : rs.length = xs.length) (hx : xs.length ≤ 1000000)
    (hs : Heap.SameBut K s.heap h') (hq : Q (.lst rs) H) : PE B P vars L ρ z Q (.ref D) { s with heap := h' } := by
  have S3 := SK.unpin (t := s.toks) (by rw [padd_ne (Ne.symm hDK)]; exact hPK) (Nat.le_refl _) hs.extBut
  have hD := S3.c.pin D _ (padd_self ..)
  have S4 := S3.unpin (h' := h') (t := s.toks) hPD (Nat.le_refl _) (fun xx xx xx e => e)
  have hne : D ≠ L := by rintro rfl; have := S3.lp; rw [padd_self] at this; cases this
  refine ⟨_, .lst rs, H, le₁.trans (le.trans (zadd_le hD.2.1)), S4.freeze hD.1 hD.2.1 hPD hD.2.2 hne, ⟨D, n, vs, rfl, zadd_self _ _ _, hrs.mono (zadd_le hD.2.1), ?_⟩, hq⟩
  have := hrs.length
  rw [Array.length_toList] at this
  rw [sizeLine_is]; omega
end
end Mine
end

section
set_option tactic.hygienic false
set_option maxRecDepth 100000
set_option genInjectivity false
set_option genSizeOf false
namespace Mine
open PySem PySem.W PySem.Calls PyProof.Rows PySem.Builtin PySem.Builtin.Str PySem.NumText

section
variable {B : Base} {T : Tab} {d : Nat} {z z' P P' PP : PH} {vars : List Str} {L : Addr} {ρ : Loc} {H : AH} {s s' : Shared} {A : Around} {E : Value → Shared → Prop}

theorem St.chgPins {e it : Addr} {oe oi oe' oi' : Obj} {h' : Heap} {t : Nat} (S : St B z PP vars L ρ H s) (he : PP e = some oe) (hi : PP it = some oi) (ht : s.toks ≤ t)
    (hk : ∀ b o, b ≠ e → b ≠ it → s.heap.get? b = some o → h'.get? b = some o) (he' : h'.get? e = some oe') (hi' : h'.get? it = some oi') (hne : e ≠ it) :
    St B z (padd (padd PP e oe') it oi') vars L ρ H { s with heap := h', toks := t } := by
  have ie := S.c.pin e oe he
  have ii := S.c.pin it oi hi
  have hLe : L ≠ e := by rintro rfl; have := S.lp; rw [he] at this; cases this
  have hLi : L ≠ it := by rintro rfl; have := S.lp; rw [hi] at this; cases this
  refine ⟨⟨S.c.base, fun b x h => ?_, fun b x h => ?_, fun b x h => ?_, S.c.os, S.c.gens, ⟨Nat.lt_of_lt_of_le S.c.tk.1 ht, S.c.tk.2⟩⟩, S.lz, ?_, S.lh, ?_⟩
  · exact hk b x (by rintro rfl; rw [ie.2.1] at h; cases h) (by rintro rfl; rw [ii.2.1] at h; cases h) (S.c.zin b x h)
  · by_cases h1 : b = it
    · subst h1; rw [padd_self] at h; cases h; exact ⟨hi', ii.2⟩
    · rw [padd_ne h1] at h
      by_cases h2 : b = e
      · subst h2; rw [padd_self] at h; cases h; exact ⟨he', ie.2⟩
      · rw [padd_ne h2] at h
        have := S.c.pin b x h
        exact ⟨hk b x h2 h1 this.1, this.2⟩
  · obtain ⟨a1, oo, a2, a3⟩ := S.c.hin b x h
    exact ⟨a1, oo, hk b _ (by rintro rfl; rw [ie.2.2] at h; cases h) (by rintro rfl; rw [ii.2.2] at h; cases h) a2, a3⟩
  · rw [padd_ne hLi, padd_ne hLe]; exact S.lp
  · obtain ⟨m, a1, a2⟩ := S.loc
    exact ⟨m, a1.at' fun o x => hk L o hLe hLi x, a2⟩

noncomputable def enumObj (it : Addr) (i : Int) (old : Value) : Obj := { cls := .type "enumerate", dict := none, data := .fields #[.none, .bool false, .ref it, rawInt i, .none, old], slots := #[] }
noncomputable def LIter (o : Obj) (l : Addr) (i : Nat) : Prop := o.cls = .type "list_iterator" ∧ o.data = .fields #[.ref l, .int i 0]
theorem listIter_iff {h : Heap} {it l : Addr} {i : Nat} {o : Obj} (ho : h.get? it = some o) : h.IsListIter it l i ↔ LIter o l i := by
  constructor
  · rintro ⟨o', ho', h1⟩; rw [ho] at ho'; cases ho'; exact h1
  · intro h1; exact ⟨o, ho, h1⟩

theorem enum_make {xs : List PV} {v : Value} {Q : Value → Shared → Prop} (S : St B z P vars L ρ H s) (rx : Rep B z (.lst xs) v)
    (h : ∀ (e it l : Addr) (oi : Obj) (vs : Array Value) (n : Nat) (h' : Heap), e ≠ it → P e = none → P it = none → z l = some { cls := .type "list", data := .seq vs n } → RepL B z xs vs.toList → LIter oi l 0 →
      St B z (padd (padd P e (enumObj it 0 .none)) it oi) vars L ρ H { s with heap := h' } → Q (.ref e) { s with heap := h' }) :
    wpAny (model B.prog B.w) A (call (.type "enumerate") [v]) Q E s := by
  obtain ⟨l, n, vs, rfl, hz1, hl, hsz⟩ := rx
  have hls : s.heap.IsList l vs := ⟨_, S.c.zin _ _ hz1, rfl, n, rfl⟩
  refine call_enumerate_list hls fun h' he hit hsz' hk => ?_
  obtain ⟨oi, hoi, hli⟩ := id hit
  have S1 := S.keeps (t := s.toks) (Nat.le_refl _) hk
  have lt : s.heap.objs.size < s.heap.objs.size + 1 := Nat.lt_succ_self _
  have fr : ∀ a, s.heap.objs.size ≤ a → z a = none ∧ P a = none ∧ H a = none ∧ a ≠ L := by
    intro a ha
    refine ⟨?_, ?_, ?_, ?_⟩
    · cases hq : z a with
      | none => rfl
      | some o => exact absurd (S.c.zlt hq) (Nat.not_lt.mpr ha)
    · cases hq : P a with
      | none => rfl
      | some o => exact absurd (Heap.lt_size (S.c.pin _ o hq).1) (Nat.not_lt.mpr ha)
    · cases hq : H a with
      | none => rfl
      | some o => obtain ⟨_, o, h, _⟩ := S.c.hin _ _ hq; exact absurd (Heap.lt_size h) (Nat.not_lt.mpr ha)
    · rintro rfl; exact absurd S.llt (Nat.not_lt.mpr ha)
  obtain ⟨f1, f2, f3, f4⟩ := fr (s.heap.objs.size + 1) (Nat.le_succ _)
  obtain ⟨g1, g2, g3, g4⟩ := fr s.heap.objs.size (Nat.le_refl _)
  have hne : s.heap.objs.size + 1 ≠ s.heap.objs.size := Nat.succ_ne_self _
  refine h _ _ l oi vs n h' hne f2 g2 hz1 hl hli ⟨⟨S1.c.base, S1.c.zin, fun b x q => ?_, S1.c.hin, S1.c.os, S1.c.gens, S1.c.tk⟩, S1.lz, ?_, S1.lh, S1.loc⟩
  · by_cases h1 : b = s.heap.objs.size
    · subst h1; rw [padd_self] at q; cases q; exact ⟨hoi, g1, g3⟩
    · rw [padd_ne h1] at q
      by_cases h2 : b = s.heap.objs.size + 1
      · subst h2; rw [padd_self] at q; cases q; exact ⟨he, f1, f3⟩
      · rw [padd_ne h2] at q; exact S1.c.pin b x q
  · rw [padd_ne (Ne.symm g4), padd_ne (Ne.symm f4)]; exact S1.lp

theorem enum_turn {sc : Scope} {env : Env} {e it l : Addr} {oi : Obj} {k n : Nat} {old : Value} {xs : List PV} {vs : Array Value} {p : PV} {x y : Str} {px py tp : Pos} {q : Nat} {ix iy : Nat} {Q : Unit → Shared → Prop} {RQ : Option Value → Shared → Prop}
    (hR : ∀ v s₁, wpAny (model B.prog B.w) A (letOwnedTupleGo (.Tuple [.Name x px, .Name y py] q tp) (.ref e) v) (fun xx s₁' => wpAny (model B.prog B.w) A (assign (.Tuple [.Name x px, .Name y py] q tp) env v) Q E s₁') E s₁ → RQ (some v) s₁)
    (V : EnvOK env vars sc L) (hx : locOk vars ix x = true) (hy : locOk vars iy y = true) (hA : A.handled = none) (S : St B z PP vars L ρ H s) (he : PP e = some (enumObj it k old)) (hi : PP it = some oi) (hoi : LIter oi l k) (hne : e ≠ it)
    (hzl : z l = some { cls := .type "list", data := .seq vs n }) (hrl : RepL B z xs vs.toList) (hk : xs[k]? = some p)
    (hq : ∀ h' t oi' old', s.toks ≤ t → LIter oi' l (k + 1) → St B z (padd (padd PP e (enumObj it ((k + 1 : Nat) : Int) old')) it oi') vars L (setL (setL ρ ix (.int k)) iy p) H { s with heap := h', toks := t } → Q () { s with heap := h', toks := t }) :
    wpAny (model B.prog B.w) A (pyNext (.ref e)) RQ E s := by
  have ie := S.c.pin e _ he
  have ii := S.c.pin it _ hi
  have hls : s.heap.IsList l vs := ⟨_, S.c.zin _ _ hzl, rfl, n, rfl⟩
  obtain ⟨v, hv, rv⟩ := hrl.get hk
  have hvk : vs[k]? = some v := by rw [← Array.getElem?_toList]; exact hv
  have hie : e < s.heap.objs.size := Heap.lt_size ie.1
  refine wpAny_pyNext_enum_item (e := e) (it := it) (i := k) ie.1 ((listIter_iff ii.1).mpr hoi) hls hvk hne fun h₁ heo hit₁ ht₁ hz₁ hk₁ => ?_
  refine hR _ _ (wpAny_letOwnedTupleGo_enum heo fun h₂ he₂ hs₂ => ?_)
  dsimp only at hs₂ ⊢
  have ht₂ : h₂.IsTuple s.heap.objs.size #[.int k s.toks, v] := ⟨_, (hs₂.2 _ (Nat.ne_of_gt hie)).trans ht₁, rfl, _, rfl⟩
  have hit₂ := hit₁.extBut hs₂.extBut (Ne.symm hne)
  obtain ⟨oi', hoi', hli'⟩ := id hit₂
  have S2 : St B z (padd (padd PP e (enumObj it ((k + 1 : Nat) : Int) v)) it oi') vars L ρ H { s with heap := h₂, toks := s.toks + 1 } := by
    refine S.chgPins he hi (Nat.le_succ _) (fun b o h1 h2 hb => hs₂.extBut b o h1 (hk₁ b o h1 h2 hb)) he₂ hoi' hne
  refine wpAny_assign_Tuple hA ht₂ rfl rfl fun h₃ hx₃ => ?_
  dsimp only at hx₃ ⊢
  have S3 := S2.keeps (t := s.toks + 1) (h' := h₃) (Nat.le_refl _) fun b o hb => hx₃ b o (Nat.ne_of_lt (Heap.lt_size hb)) hb
  show wpAny _ A (do holding [v] (assign (.Name x px) env (.int k s.toks)); do holding [] (assign (.Name y py) env v); pure ()) _ _ _
  refine wpAny_bind (wpAny_holding (wpAny_assign_Name (store_ok V S3 hx (v := .int k) ⟨_, rfl⟩ fun h₄ S4 => ?_)))
  refine wpAny_bind (wpAny_holding (wpAny_assign_Name (store_ok V S4 hy rv fun h₅ S5 => wpAny_pure ?_)))
  exact hq h₅ _ oi' v (by dsimp only; omega) hli' S5

theorem enum_end {e it l : Addr} {oi : Obj} {k n : Nat} {old : Value} {xs : List PV} {vs : Array Value} {Q : Option Value → Shared → Prop}
    (hA : A.handled = none) (S : St B z PP vars L ρ H s) (he : PP e = some (enumObj it k old)) (hi : PP it = some oi) (hoi : LIter oi l k)
    (hzl : z l = some { cls := .type "list", data := .seq vs n }) (hrl : RepL B z xs vs.toList) (hk : xs[k]? = none)
    (hq : ∀ h', Heap.ExtBut it s.heap h' → Q none { s with heap := h' }) : wpAny (model B.prog B.w) A (pyNext (.ref e)) Q E s := by
  have ie := S.c.pin e _ he
  have ii := S.c.pin it _ hi
  have hls : s.heap.IsList l vs := ⟨_, S.c.zin _ _ hzl, rfl, n, rfl⟩
  have hvk : vs[k]? = none := by
    have h1 := List.getElem?_eq_none_iff.mp hk
    have h2 := hrl.length
    rw [Array.length_toList] at h2
    simp; omega
  exact wpAny_pyNext_enum_end hA ie.1 ((listIter_iff ii.1).mpr hoi) hls hvk hq

theorem set_two {ρ : Loc} {p q : PV} (h : ρ.length = 2) : setL (setL ρ 0 p) 1 q = [some p, some q] := by
  cases ρ with
  | nil => cases h
  | cons a r => cases r with
    | nil => cases h
    | cons b r => cases r with
      | nil => rfl
      | cons => cases h
theorem loc2 {x y : Str} (h : x ≠ y) : locOk [x, y] 0 x = true ∧ locOk [x, y] 1 y = true := by constructor <;> simp [locOk]
theorem comp_coreE {f : Nat → PV → (PV → AH → Prop) → AH → Prop} {elt iter : Expr} {x y : Str} {px py tp pos : Pos} {q : Nat} {csc sc : Scope} {env : Env} {e it l : Addr} {oi : Obj} {nl : Nat} {vl : Array Value} {xs : List PV} {Qm : List PV → AH → Prop}
    {RR : Value → Addr → Result → Shared → Prop}
    (C : CompOK csc x) (C2 : CompOK csc y) (hxy : x ≠ y) (V : EnvOK env vars sc L) (R : Room d A) (S : St B z (padd (padd P e (enumObj it 0 .none)) it oi) vars L ρ H s) (hPe : P e = none) (hPi : P it = none) (hne : e ≠ it) (hoi : LIter oi l 0)
    (hzl : z l = some { cls := .type "list", data := .seq vl nl }) (hrl : RepL B z xs vl.toList) (hsz : xs.length ≤ 1000000)
    (helt : ∀ {i : Nat} {p : PV} {H : AH} {Q : PV → AH → Prop} {z P : PH} {L' : Addr} {env' : Env} {s : Shared}, EnvOK env' [x, y] csc L' → f i p Q H → St B z P [x, y] L' [some (.int i), some p] H s →
      wpAny (model B.prog B.w) A (eval elt env') (PE B P [x, y] L' [some (.int i), some p] z Q) NoExc s)
    (hm : mapI f 0 xs Qm H)
    (hRR : ∀ (D K : Addr) (z' : PH) (H' : AH) (s' : Shared) (rs : List PV) (vs : Array Value) (n : Nat) (oK : Obj) (m : Str → Option Value), zle z z' → D ≠ K →
      P D = none → P K = none →
      St B z' (padd (padd P D { cls := .type "list", data := .seq vs n }) K oK) vars L ρ H' s' → s'.heap.Ns K m → RepL B z' rs vs.toList → rs.length = xs.length → Qm rs H' → RR (.ref D) K (.ok .next) s') :
    wpAny (model B.prog B.w) A (newList []) (fun acc s₃ => wpAny (model B.prog B.w) A (newFunctionEnv csc env.globals [] [] env.qual none .none (some env)) (fun cenv s₄ =>
      codeAny (model B.prog B.w) A (.compStart (.ListComp elt [⟨.Tuple [.Name x px, .Name y py] q tp, iter, [], 0⟩] csc pos) 0 (.ref e) acc { cenv with scope := relabel csc env }) (RR acc cenv.locals) s₄) E s₃) E s := by
  refine comp_gen (isI := fun b => b = e ∨ b = it) (Inv := fun k PP => ∃ old oI, PP e = some (enumObj it (k : Nat) old) ∧ PP it = some oI ∧ LIter oI l k) (lv := [x, y]) C.cell C.kind (fun K => ⟨relabel_none C.free, C.kind, rfl, V.g, V.b, fun y hy => ?_, ?_⟩) S
    (fun b h => (padd_ne fun q => h (.inr q)).trans (padd_ne fun q => h (.inl q))) (fun b h => ?_) ⟨.none, oi, (padd_ne hne).trans (padd_self ..), padd_self .., hoi⟩
    (fun k PP PP' hi he => ?_) (fun k PP hi b hb => ?_) hsz (fun S hi hq => ?_) (fun le S hi hk hq => ?_) (fun le VC S hρ hi hk hf hR hF => ?_) hm hRR
  · rcases List.mem_cons.mp hy with rfl | hy
    · exact ⟨C.hx, C.dbg⟩
    · rw [List.mem_singleton] at hy; subst hy
      exact ⟨C2.hx, C2.dbg⟩
  · exact List.nodup_cons.mpr ⟨fun h => hxy (List.mem_singleton.mp h), List.nodup_cons.mpr ⟨fun h => (by cases h), List.nodup_nil⟩⟩
  · rcases h with h | h
    · rw [h]; exact hPe
    · rw [h]; exact hPi
  · obtain ⟨old, oI, h1, h2, h3⟩ := hi
    exact ⟨old, oI, (he e (.inl rfl)).trans h1, (he it (.inr rfl)).trans h2, h3⟩
  · obtain ⟨old, oI, h1, h2, h3⟩ := hi
    rcases hb with h | h
    · rw [h]; exact ⟨_, h1⟩
    · rw [h]; exact ⟨_, h2⟩
  · obtain ⟨old, oI, h1, h2, h3⟩ := hi
    exact wpAny_pyIter_enum (S.c.pin e _ h1).1 hq
  · obtain ⟨old, oI, h1, h2, h3⟩ := hi
    exact enum_end R.h S h1 h2 h3 (le _ _ hzl) (hrl.mono le) hk fun h' hx => hq h' fun b o n hb => hx b o (fun q => n (.inr q)) hb
  · obtain ⟨old, oI, h1, h2, h3⟩ := hi
    refine enum_turn (n := nl) hR VC (ix := 0) (iy := 1) (loc2 hxy).1 (loc2 hxy).2 R.h S h1 h2 h3 hne (le _ _ hzl) (hrl.mono le) hk fun h' t oi' old' ht hli' S₅ => ?_
    rw [set_two hρ] at S₅
    refine wpAny_mono (helt VC hf S₅) ?_ (fun xx xx => no _ _)
    rintro y s₆ ⟨z₆, r, H₆, le₆, S₆, hry, hq⟩
    exact hF y z₆ _ _ H₆ r s₆ le₆ S₆ rfl ⟨old', oi', (padd_ne hne).trans (padd_self ..), padd_self .., hli'⟩ (fun b h => (padd_ne fun q => h (.inr q)).trans (padd_ne fun q => h (.inl q))) hry hq
end
end Mine
end

section
set_option tactic.hygienic false
set_option maxRecDepth 100000
set_option genInjectivity false
set_option genSizeOf false
namespace Mine
open PySem PySem.W PySem.Calls PyProof.Rows PySem.Builtin PySem.Builtin.Str PySem.NumText

section
variable {B : Base} {A : Around} {E : Value → Shared → Prop} {s : Shared}

structure EntOK (B : Base) (p : Sem Value × Sem Value) (k : List Nat) (v : PV) : Prop where
  key : ∀ (A : Around) (E : Value → Shared → Prop) (s : Shared) (Q : Value → Shared → Prop), (∀ t u, s.toks ≤ t → Q (.str (sOf k) u) { s with toks := t }) → wpAny (model B.prog B.w) A p.1 Q E s
  val : ∀ (A : Around) (E : Value → Shared → Prop) (s : Shared) (Q : Value → Shared → Prop), (∀ x t, s.toks ≤ t → (∀ z, Rep B z v x) → Q x { s with toks := t }) → wpAny (model B.prog B.w) A p.2 Q E s
abbrev Entry : Type := (Sem Value × Sem Value) × List Nat × PV
noncomputable def Ents (B : Base) (ps : List (Sem Value × Sem Value)) (ks : List (List Nat)) (vs : List PV) : Prop :=
  ∃ es : List Entry, ps = es.map (·.1) ∧ ks = es.map (·.2.1) ∧ vs = es.map (·.2.2) ∧ ∀ e ∈ es, EntOK B e.1 e.2.1 e.2.2
theorem Ents.len {ps : List (Sem Value × Sem Value)} {ks : List (List Nat)} {vs : List PV} : Ents B ps ks vs → ks.length = ps.length ∧ vs.length = ps.length := by
  rintro ⟨es, rfl, rfl, rfl, _⟩
  rw [List.length_map, List.length_map, List.length_map]; exact ⟨rfl, rfl⟩
theorem Ents.drop (n : Nat) {ps : List (Sem Value × Sem Value)} {ks : List (List Nat)} {vs : List PV} : Ents B ps ks vs → Ents B (ps.drop n) (ks.drop n) (vs.drop n) := by
  rintro ⟨es, rfl, rfl, rfl, h⟩
  exact ⟨es.drop n, List.map_drop.symm, List.map_drop.symm, List.map_drop.symm, fun e he => h e (List.mem_of_mem_drop he)⟩
theorem Ents.take (n : Nat) {ps : List (Sem Value × Sem Value)} {ks : List (List Nat)} {vs : List PV} : Ents B ps ks vs → Ents B (ps.take n) (ks.take n) (vs.take n) := by
  rintro ⟨es, rfl, rfl, rfl, h⟩
  exact ⟨es.take n, List.map_take.symm, List.map_take.symm, List.map_take.symm, fun e he => h e (List.mem_of_mem_take he)⟩
theorem Ents.cons {p : Sem Value × Sem Value} {k : List Nat} {v : PV} {ps : List (Sem Value × Sem Value)} {ks : List (List Nat)} {vs : List PV} (h : EntOK B p k v) : Ents B ps ks vs → Ents B (p :: ps) (k :: ks) (v :: vs) := by
  rintro ⟨es, rfl, rfl, rfl, h'⟩
  refine ⟨(p, k, v) :: es, rfl, rfl, rfl, fun e he => ?_⟩
  rcases List.mem_cons.mp he with rfl | he
  · exact h
  · exact h' e he

abbrev skd (B : Base) : KeyKind B.prog B.w Str := PySem.strKind B.prog B.w
theorem skd_is (B : Base) (x : Str) (u : Tok) : (skd B).is x (.str x u) = true := by
  show Value.isStrOf x (.str x u) = true
  simp [Value.isStrOf]
theorem stored_fresh {acc : List (Str × Value)} {k : Str} {v : Value} (h : k ∉ acc.map (·.1)) : stored acc k v = acc ++ [(k, v)] := by
  unfold stored
  rw [if_neg]
  rw [List.any_eq_true]
  rintro ⟨x, hx, e⟩
  exact h (List.mem_map.mpr ⟨x, hx, of_decide_eq_true e⟩)

theorem sizeLine_big : 100 ≤ sizeLine := by rw [sizeLine_is]; omega
theorem long_ok {d : Addr} : ∀ (es : List Entry) (acc : List (Str × Value)) (s : Shared) (Q : PUnit → Shared → Prop), (∀ e ∈ es, EntOK B e.1 e.2.1 e.2.2) → s.heap.DictOf (skd B) d acc →
    (acc.map (·.1) ++ (es.map (·.2.1)).map sOf).Nodup → acc.length + es.length ≤ 100 →
    (∀ h' t kvs, s.toks ≤ t → kvs.map (·.1) = (es.map (·.2.1)).map sOf → (∀ z, RepL B z (es.map (·.2.2)) (kvs.map (·.2))) → h'.DictOf (skd B) d (acc ++ kvs) → Heap.SameBut d s.heap h' → Q PUnit.unit { s with heap := h', toks := t }) →
    wpAny (model B.prog B.w) A (forIn (es.map (·.1)) PUnit.unit fun (x : Sem Value × Sem Value) (_ : PUnit) => (do let kv ← x.1; let vv ← holding [kv] x.2; holding [kv, vv] (dictSet d kv vv); pure (ForInStep.yield PUnit.unit) : Sem (ForInStep PUnit))) Q E s := by
  intro es
  induction es with
  | nil => exact fun acc s Q xx hm xx xx hQ => wpAny_pure (hQ s.heap s.toks [] (Nat.le_refl _) rfl (fun xx => rfl) (by rw [List.append_nil]; exact hm) (Heap.SameBut.refl _ _))
  | cons e es ih =>
    intro acc s Q he hm hn hl hQ
    have ho := he e List.mem_cons_self
    have hk : sOf e.2.1 ∉ acc.map (·.1) := fun hx => (List.nodup_append.mp hn).2.2 _ hx _ List.mem_cons_self rfl
    rw [List.map_cons, List.forIn_cons]
    refine wpAny_bind (wpAny_bind (ho.key A E s _ fun t u ht => wpAny_bind (wpAny_holding (ho.val A E _ _ fun x t' ht' hx => ?_))))
    refine wpAny_bind (wpAny_holding (wpAny_dictSet_pairs (hsz := Nat.le_trans (Nat.le_trans (Nat.le_add_right _ _) hl) sizeLine_big) (skd_is B (sOf e.2.1) u) hm fun h₁ hm₁ hs₁ => wpAny_pure ?_))
    rw [stored_fresh hk] at hm₁
    refine ih _ _ Q (fun e h => he e (List.mem_cons_of_mem _ h)) hm₁ (by rw [List.map_append, List.append_assoc]; exact hn) (by rw [List.length_append, Nat.add_assoc, Nat.add_comm _ es.length]; exact hl) fun h' t'' kvs htt hks hr hd hs => ?_
    exact hQ h' t'' ((sOf e.2.1, x) :: kvs) (Nat.le_trans ht (Nat.le_trans ht' (Nat.le_of_succ_le (n := t') htt))) (congrArg (sOf e.2.1 :: ·) hks) (fun z => ⟨x, _, rfl, hx z, hr z⟩) (by rw [List.append_assoc] at hd; exact hd) (hs₁.trans hs)

theorem pairs_ok : ∀ (es : List Entry) (s : Shared) (Q : List (Value × Value) → Shared → Prop), (∀ e ∈ es, EntOK B e.1 e.2.1 e.2.2) →
    (∀ t vals kvs, s.toks ≤ t → Carries (skd B) vals kvs → kvs.map (·.1) = (es.map (·.2.1)).map sOf → (∀ z, RepL B z (es.map (·.2.2)) (kvs.map (·.2))) → Q vals { s with toks := t }) →
    wpAny (model B.prog B.w) A (evalPairs (es.map (·.1))) Q E s := by
  intro es
  induction es with
  | nil => exact fun s Q xx hQ => evalPairs_nil (hQ s.toks [] [] (Nat.le_refl _) trivial rfl fun xx => rfl)
  | cons e es ih =>
    intro s Q he hQ
    have ho := he e List.mem_cons_self
    refine evalPairs_cons (ho.key A E s _ fun t u ht => ho.val A E _ _ fun x t' ht' hx => ih _ _ (fun e h => he e (List.mem_cons_of_mem _ h)) fun t'' vals kvs htt hc hk hr => ?_)
    exact hQ t'' ((.str (sOf e.2.1) u, x) :: vals) ((sOf e.2.1, x) :: kvs) (Nat.le_trans ht (Nat.le_trans ht' htt)) ⟨skd_is B _ _, rfl, hc⟩ (congrArg (sOf e.2.1 :: ·) hk) (fun z => ⟨x, _, rfl, hx z, hr z⟩)

theorem sub_long {ps : List (Sem Value × Sem Value)} {ks : List (List Nat)} {vs : List PV} {Q : Addr → Shared → Prop} (he : Ents B ps ks vs) (hn : (ks.map sOf).Nodup) (h1 : 15 < ps.length) (h2 : ps.length ≤ 100)
    (hQ : ∀ h' t kvs, s.toks ≤ t → kvs.map (·.1) = ks.map sOf → (∀ z, RepL B z vs (kvs.map (·.2))) → h'.DictOf (skd B) s.heap.objs.size kvs → Heap.SameBut s.heap.objs.size (s.heap.push { cls := .type "dict", data := .dict #[] }) h' → Q s.heap.objs.size { s with heap := h', toks := t }) :
    wpAny (model B.prog B.w) A (subDict ps) Q E s := by
  obtain ⟨es, rfl, rfl, rfl, he⟩ := he
  unfold subDict
  refine wpAny_bind (wpAny_alloc ?_)
  refine wpAny_bind (wpAny_holding ?_)
  rw [if_neg (Nat.not_le.mpr h1)]
  rw [List.length_map] at h2
  refine wpAny_bind (wpAny_rule ?_)
  exact wpAny_bind (long_ok es [] _ _ he (Heap.DictOf.new (knd := skd B) s.heap) hn (by rw [List.length_nil, Nat.zero_add]; exact h2) fun h' t kvs ht hk hr hd hs => wpAny_pure (wpAny_pure (hQ h' t kvs ht hk hr hd hs)))

theorem sub_short {ps : List (Sem Value × Sem Value)} {ks : List (List Nat)} {vs : List PV} {Q : Addr → Shared → Prop} (he : Ents B ps ks vs) (hn : (ks.map sOf).Nodup) (h1 : ps.length ≤ 15)
    (hQ : ∀ h' t kvs, s.toks ≤ t → kvs.map (·.1) = ks.map sOf → (∀ z, RepL B z vs (kvs.map (·.2))) → h'.DictOf (skd B) s.heap.objs.size kvs → Heap.SameBut s.heap.objs.size (s.heap.push { cls := .type "dict", data := .dict #[] }) h' → Q s.heap.objs.size { s with heap := h', toks := t }) :
    wpAny (model B.prog B.w) A (subDict ps) Q E s := by
  obtain ⟨es, rfl, rfl, rfl, he⟩ := he
  refine wpAny_subDict (knd := skd B) h1 (pairs_ok es _ _ he fun t vals kvs ht hc hk hr => ⟨kvs, hc, Heap.DictOf.new (knd := skd B) s.heap, fun h' hd hs => ?_⟩)
  rw [merged_nil_of_nodup kvs (by rw [hk]; exact hn)] at hd
  exact hQ h' _ kvs (Nat.le_trans ht (Nat.le_add_right _ _)) hk hr hd hs

theorem put_fresh {d : Addr} {acc : List (Str × Value)} {k : Str} {key v : Value} {Q : Unit → Shared → Prop} (hkey : (skd B).is k key = true) (hm : s.heap.DictOf (skd B) d acc) (hk : k ∉ acc.map (·.1)) (hl : acc.length ≤ 100)
    (hQ : ∀ h', h'.DictOf (skd B) d (acc ++ [(k, v)]) → Heap.SameBut d s.heap h' → Q () { s with heap := h' }) :
    wpAny (model B.prog B.w) A (dictPut d ((skd B).hash k) key v) Q E s := by
  obtain ⟨o, es, ep, ho, hc, hd, hke, hp, hn⟩ := hm
  have hes : es.size ≤ sizeLine := by
    have e1 := hp.length
    have e2 : es.toList.length = es.size := by simp
    have := sizeLine_big
    omega
  unfold dictPut
  refine wpAny_bind (wpAny_dictFind_of hkey ho hd hke ?_)
  have hidx : (es.findIdx? fun e => (skd B).is k e.key) = acc.findIdx? fun kv => decide (kv.1 = k) := by
    rw [← hp.findIdx k]; obtain ⟨l⟩ := es; simp
  have hnone : (es.findIdx? fun e => (skd B).is k e.key) = none := by
    rw [hidx, List.findIdx?_eq_none_iff]
    intro x hx
    rw [decide_eq_false_iff_not]
    rintro rfl
    exact hk (List.mem_map.mpr ⟨x, hx, rfl⟩)
  rw [hnone]
  refine wpAny_updateDictKeys (hz := hes) ho hd (hQ _ ⟨_, _, ep + 1, Heap.get?_update_self _ ho (Obj.isFreed_of_dict (Obj.data_mapDictKeys hd _)), hc.mapDictKeys _, Obj.data_mapDictKeys hd _, hke.push hkey _, ?_, ?_⟩ (Heap.SameBut.update ..))
  · have := hp.append hkey ((skd B).hash k) v
    obtain ⟨l⟩ := es
    simpa using this
  · rw [List.map_append, List.nodup_append]
    refine ⟨hn, by simp, ?_⟩
    intro a ha b hb
    simp only [List.map_cons, List.map_nil, List.mem_singleton] at hb
    subst hb
    exact fun e => hk (e ▸ ha)

theorem fresh_at {acc more : List (Str × Value)} {i : Nat} {k : Str} {v : Value} (hn : (acc.map (·.1) ++ more.map (·.1)).Nodup) (hm : more[i]? = some (k, v)) : k ∉ (acc ++ more.take i).map (·.1) := by
  have e : more.take (i + 1) = more.take i ++ [(k, v)] := by rw [List.take_succ, hm]; rfl
  have hsub : (acc.map (·.1) ++ (more.take (i + 1)).map (·.1)).Nodup := hn.sublist ((List.Sublist.refl _).append ((List.take_sublist _ _).map _))
  rw [e, List.map_append, ← List.append_assoc, ← List.map_append] at hsub
  exact fun hx => (List.nodup_append.mp hsub).2.2 _ hx _ (List.mem_singleton.mpr rfl) rfl
section
variable {d a : Addr} {acc more : List (Str × Value)} {oa : Obj} {esa : Array DictEntry} {epa : Nat} {f : Nat → PUnit → Sem (ForInStep PUnit)}
theorem merge_loop (hf : ∀ (i : Nat) (e : DictEntry) (s' : Shared) (Q : ForInStep PUnit → Shared → Prop), esa[i]? = some e → s'.heap.get? a = some oa → wpAny (model B.prog B.w) A (dictPut d e.hash e.key e.val) (fun xx s'' => s''.heap.get? a = some oa ∧ Q (.yield ⟨⟩) s'') E s' → wpAny (model B.prog B.w) A (f i ⟨⟩) Q E s')
    (hda : a ≠ d) (hka : KeysOf (skd B) esa) (hpa : Pairs (skd B) esa.toList more) (hn : (acc.map (·.1) ++ more.map (·.1)).Nodup) (hl : acc.length + more.length ≤ 100) {Q : PUnit → Shared → Prop} {h0 : Heap}
    (hQ : ∀ h', h'.DictOf (skd B) d (acc ++ more) → Heap.SameBut d h0 h' → Q ⟨⟩ { s with heap := h' }) : ∀ (j i : Nat) (h' : Heap), i + j = esa.size → h'.DictOf (skd B) d (acc ++ more.take i) → h'.get? a = some oa → Heap.SameBut d h0 h' →
    wpAny (model B.prog B.w) A (forIn (List.range' i j) ⟨⟩ f) Q E { s with heap := h' } := by
  have hlen : more.length = esa.size := hpa.length.symm.trans Array.length_toList
  intro j
  induction j with
  | zero =>
    intro i h' hi hd _ hs
    rw [List.take_of_length_le (by rw [hlen, ← hi]; exact Nat.le_refl _)] at hd
    exact wpAny_pure (hQ h' hd hs)
  | succ j ih =>
    intro i h' hi hd ho hs
    have hlt : i < esa.size := by rw [← hi]; exact Nat.lt_add_of_pos_right (Nat.succ_pos _)
    obtain ⟨⟨k, v⟩, hkv⟩ : ∃ kv, more[i]? = some kv := ⟨_, List.getElem?_eq_getElem (by rw [hlen]; exact hlt)⟩
    have he : esa[i]? = some esa[i] := Array.getElem?_eq_getElem hlt
    obtain ⟨hkey, hval⟩ := hpa.get? ((Array.getElem?_toList ..).trans he) hkv
    obtain ⟨k', hkey', hhash⟩ := hka esa[i] (Array.getElem_mem hlt)
    obtain rfl : k' = k := (skd B).inj _ _ _ hkey' hkey
    rw [List.range'_succ, List.forIn_cons]
    refine wpAny_bind (hf i _ _ _ he ho ?_)
    rw [hhash, hval]
    refine put_fresh hkey hd (fresh_at hn hkv) (by rw [List.length_append, List.length_take]; exact Nat.le_trans (Nat.add_le_add_left (Nat.min_le_right _ _) _) hl) fun h'' hd'' hs'' => ⟨(hs''.2 a hda).trans ho, ?_⟩
    refine ih (i + 1) h'' (by rw [← hi, Nat.succ_add_eq_add_succ]) ?_ ((hs''.2 a hda).trans ho) (hs.trans hs'')
    rw [List.take_succ, hkv, ← List.append_assoc]
    exact hd''
end
theorem merge_ok {d a : Addr} {acc more : List (Str × Value)} {Q : Unit → Shared → Prop} (hda : d ≠ a) (hsys : (a == sysModules) = false) (hd : s.heap.DictOf (skd B) d acc) (ha : s.heap.DictOf (skd B) a more)
    (h0 : acc ≠ []) (hn : (acc.map (·.1) ++ more.map (·.1)).Nodup) (hl : acc.length + more.length ≤ 100)
    (hQ : ∀ h', h'.DictOf (skd B) d (acc ++ more) → Heap.SameBut d s.heap h' → Q () { s with heap := h' }) :
    wpAny (model B.prog B.w) A (mergeMapping d (.ref a) false) Q E s := by
  obtain ⟨od, esd, epd, hod, _, hdd, _, hpd, _⟩ := id hd
  obtain ⟨oa, esa, epa, hoa, hca, hda', hka, hpa, _⟩ := ha
  have hemp : esd.isEmpty = false := by
    cases h : esd.isEmpty with
    | false => rfl
    | true =>
      have h2 := hpd.length
      rw [Array.isEmpty_iff.mp h] at h2
      exact absurd (List.length_eq_zero_iff.mp h2.symm) h0
  unfold mergeMapping
  refine wpAny_bind (wpAny_isInstance ⟨oa, hoa, hca.1⟩ isSubtype_dict_dict ?_)
  rw [if_pos rfl]
  refine wpAny_bind (wpAny_specialOf ⟨oa, hoa, hca.1⟩ F.slot_dict_iter.lookup (wpAny_bind (wpAny_pure ?_)))
  rw [beq_self_eq_true]
  dsimp only
  rw [if_neg (by rw [hsys]; exact Bool.false_ne_true)]
  refine wpAny_bind (wpAny_dictEntries hod hdd ?_)
  rw [hemp, if_neg Bool.false_ne_true]
  refine wpAny_bind (wpAny_dictEntries hoa hda' (wpAny_bind (wpAny_dictEpoch hoa hda' (wpAny_bind ?_))))
  rw [List.range_eq_range']
  refine merge_loop (fun i e s' Q he ho h => ?_) (Ne.symm hda) hka hpa hn hl (h0 := s.heap) (fun h' hd hs => wpAny_pure (hQ h' hd hs)) esa.size 0 s.heap (Nat.zero_add _) (by rw [List.take_zero, List.append_nil]; exact hd) hoa (Heap.SameBut.refl _ _)
  refine wpAny_bind (wpAny_dictEntries ho hda' ?_)
  rw [he]
  refine wpAny_bind (wpAny_holding ?_)
  rw [if_neg Bool.false_ne_true]
  refine wpAny_mono h (fun xx s'' hq => wpAny_bind (wpAny_dictEpoch hq.1 hda' ?_)) (fun xx xx h => h)
  rw [if_neg (by rw [bne_self_eq_false]; exact Bool.false_ne_true)]
  exact wpAny_pure hq.2

noncomputable def flushD (run : List (Sem Value × Sem Value)) (main : Option Addr) : Sem (Option Addr) :=
  if run.isEmpty = true then pure main else match main with
    | none => do let d ← subDict run; pure (some d)
    | some d => do
      let sub ← holding [.ref d] (subDict run)
      (holding [.ref d, .ref sub] (mergeMapping d (.ref sub) false)).onRaise fun x => do let _ ← holding [.ref d, x] (runValue (.builtin "proto.let_go" {}))
      pure (some d)
noncomputable def endD (m : Option Addr) : Sem Value := match m with
  | some d => pure (.ref d)
  | none => newDict
theorem dictDisplay_is : ∃ f : (Option (Sem Value) × Sem Value) → (Option Addr × List (Sem Value × Sem Value)) → Sem (ForInStep (Option Addr × List (Sem Value × Sem Value))),
    (∀ items, dictDisplay items = (forIn items (none, []) f >>= fun r => flushD r.2 r.1 >>= endD)) ∧
    (∀ x d run, f (some x.1, x.2) (d, run) = if ((run ++ [x]).length == 17) = true then (flushD (run ++ [x]) d >>= fun m => pure (.yield (m, []))) else pure (.yield (d, run ++ [x]))) :=
  ⟨_, fun xx => rfl, fun xx xx xx => rfl⟩
theorem snoc_of {α : Type} {n : Nat} {l : List α} (h : l.length = n + 1) : ∃ A x, l = A ++ [x] ∧ A.length = n := by
  have hne : l ≠ [] := by rintro rfl; cases h
  exact ⟨l.dropLast, l.getLast hne, (List.dropLast_concat_getLast hne).symm, by rw [List.length_dropLast, h]; rfl⟩
section
variable {α β γ δ : Type} {mk : α → β} {f : β → (Option γ × List α) → Sem (ForInStep (Option γ × List α))}
theorem gather (hf : ∀ x d run, (run ++ [x]).length ≠ 17 → f (mk x) (d, run) = pure (.yield (d, run ++ [x]))) : ∀ (C : List α) (rest : List β) (d : Option γ) (run : List α), run.length + C.length < 17 →
    forIn (C.map mk ++ rest) (d, run) f = forIn rest (d, run ++ C) f
  | [], rest, d, run, _ => by rw [List.append_nil]; rfl
  | x :: C, rest, d, run, h => by
    have e : (run ++ [x]).length + C.length = run.length + (x :: C).length := by rw [List.length_append, Nat.add_assoc, Nat.add_comm [x].length]; rfl
    rw [show run ++ x :: C = run ++ [x] ++ C from (List.append_cons run x C), ← gather hf C rest d (run ++ [x]) (by rw [e]; exact h)]
    show forIn (mk x :: (C.map mk ++ rest)) (d, run) f = _
    rw [List.forIn_cons, hf x d run fun h' => absurd (Nat.le_trans (Nat.le_add_right _ C.length) (Nat.le_of_eq e)) (by rw [h']; exact Nat.not_le.mpr h)]
    rfl
theorem disp_loop {fl : List α → Option γ → Sem (Option γ)} (hf : ∀ x d run, f (mk x) (d, run) = if ((run ++ [x]).length == 17) = true then (fl (run ++ [x]) d >>= fun m => pure (.yield (m, []))) else pure (.yield (d, run ++ [x])))
    {p1 p2 : List α} (h1 : p1.length = 17) (h2 : p2.length ≤ 15) : forIn ((p1 ++ p2).map mk) (none, []) f = (fl p1 none >>= fun m => pure (m, p2)) := by
  have hn : ∀ x d run, (run ++ [x]).length ≠ 17 → f (mk x) (d, run) = pure (.yield (d, run ++ [x])) := fun x d run h => (hf x d run).trans (if_neg fun h' => h (beq_iff_eq.mp h'))
  obtain ⟨C, x, rfl, hC⟩ := snoc_of h1
  rw [List.map_append, List.map_append, List.append_assoc, gather hn C _ none [] (by rw [hC]; exact Nat.lt_succ_self 16)]
  show forIn (mk x :: p2.map mk) (none, C) f = _
  rw [List.forIn_cons, hf, if_pos (beq_iff_eq.mpr h1), bind_assoc]
  refine congrArg (fl (C ++ [x]) none >>= ·) (funext fun m => ?_)
  rw [pure_bind]
  show forIn (p2.map mk) (m, []) f = _
  rw [← List.append_nil (p2.map mk), gather hn p2 [] m [] (by rw [List.length_nil, Nat.zero_add]; exact Nat.lt_of_le_of_lt h2 (by decide))]
  rfl
end
theorem flush_none {run : List (Sem Value × Sem Value)} (h : run ≠ []) : flushD run none = (subDict run >>= fun d => pure (some d)) := by
  cases run with
  | nil => exact absurd rfl h
  | cons => rfl
theorem flush_some {run : List (Sem Value × Sem Value)} {d : Addr} (h : run ≠ []) : flushD run (some d) = (holding [.ref d] (subDict run) >>= fun sub => (holding [.ref d, .ref sub] (mergeMapping d (.ref sub) false)).onRaise (fun x => do let _ ← holding [.ref d, x] (runValue (.builtin "proto.let_go" {}))) >>= fun xx => pure (some d)) := by
  cases run with
  | nil => exact absurd rfl h
  | cons => rfl
theorem keys_len {kvs : List (Str × Value)} {ks : List (List Nat)} (h : kvs.map (·.1) = ks.map sOf) : kvs.length = ks.length := by
  have := congrArg List.length h
  rwa [List.length_map, List.length_map] at this
theorem display_end {s : Shared} {h1 h2 : Heap} {t2 : Nat} {k1 k2 : List (List Nat)} {kv1 kv2 : List (Str × Value)} {Q : Unit → Shared → Prop}
    (hn : ((k1 ++ k2).map sOf).Nodup) (hl1 : k1.length = 17) (hl2 : k2.length ≤ 15) (hsys : sysModules < s.heap.objs.size)
    (e1 : kv1.map (·.1) = k1.map sOf) (hd1 : h1.DictOf (skd B) s.heap.objs.size kv1) (hs1 : Heap.SameBut s.heap.objs.size (s.heap.push { cls := .type "dict", data := .dict #[] }) h1)
    (e2 : kv2.map (·.1) = k2.map sOf) (hd2 : h2.DictOf (skd B) h1.objs.size kv2) (hs2 : Heap.SameBut h1.objs.size (h1.push { cls := .type "dict", data := .dict #[] }) h2)
    (hQ : ∀ h3, h3.DictOf (skd B) s.heap.objs.size (kv1 ++ kv2) → (∀ b o, s.heap.get? b = some o → h3.get? b = some o) → Q () { s with heap := h3, toks := t2 }) :
    wpAny (model B.prog B.w) A (mergeMapping s.heap.objs.size (.ref h1.objs.size) false) Q E { s with heap := h2, toks := t2 } := by
  have hsz : h1.objs.size = s.heap.objs.size + 1 := hs1.1.trans (Heap.size_push ..)
  have hlt : s.heap.objs.size < h1.objs.size := by rw [hsz]; exact Nat.lt_succ_self _
  refine merge_ok (s := { s with heap := h2, toks := t2 }) (Nat.ne_of_lt hlt) (beq_eq_false_iff_ne.mpr (Nat.ne_of_gt (Nat.lt_trans hsys hlt))) ((hd1.push _).sameBut hs2 (Nat.ne_of_lt hlt)) hd2 ?_ ?_ ?_ fun h3 hd3 hs3 => hQ h3 hd3 fun b o hb => ?_
  · rintro rfl; rw [← keys_len e1] at hl1; cases hl1
  · rw [e1, e2, ← List.map_append]; exact hn
  · rw [keys_len e1, keys_len e2, hl1]; exact Nat.le_trans (Nat.add_le_add_left hl2 17) (by decide)
  · have hb1 := Heap.lt_size hb
    exact (hs3.2 b (Nat.ne_of_lt hb1)).trans ((hs2.2 b (Nat.ne_of_lt (Nat.lt_trans hb1 hlt))).trans (Heap.get?_push_of_some _ ((hs1.2 b (Nat.ne_of_lt hb1)).trans (Heap.get?_push_of_some _ hb))))
theorem display_ok {p1 p2 : List (Sem Value × Sem Value)} {k1 k2 : List (List Nat)} {v1 v2 : List PV} {Q : Value → Shared → Prop} (he1 : Ents B p1 k1 v1) (he2 : Ents B p2 k2 v2) (hn : ((k1 ++ k2).map sOf).Nodup) (h1 : p1.length = 17) (h2 : p2.length ≤ 15) (h3 : p2 ≠ [])
    (hsys : sysModules < s.heap.objs.size)
    (hQ : ∀ h' t kvs, s.toks ≤ t → kvs.map (·.1) = (k1 ++ k2).map sOf → (∀ z, RepL B z (v1 ++ v2) (kvs.map (·.2))) → h'.DictOf (skd B) s.heap.objs.size kvs → (∀ b o, s.heap.get? b = some o → h'.get? b = some o) → Q (.ref s.heap.objs.size) { s with heap := h', toks := t }) :
    wpAny (model B.prog B.w) A (dictDisplay ((p1 ++ p2).map fun p => (some p.1, p.2))) Q E s := by
  obtain ⟨f, hf, hs⟩ := dictDisplay_is
  have hn' := List.nodup_append.mp (List.map_append ▸ hn)
  have hne : p1 ≠ [] := by rintro rfl; cases h1
  rw [hf, disp_loop hs h1 h2, bind_assoc, flush_none hne, bind_assoc]
  refine wpAny_bind (sub_long he1 hn'.1 (by rw [h1]; decide) (by rw [h1]; decide) fun h' t kvs ht hk hv hd hs => wpAny_bind (wpAny_pure (wpAny_bind (wpAny_pure ?_))))
  rw [flush_some h3, bind_assoc]
  refine wpAny_bind (wpAny_holding (sub_short (s := { s with heap := h', toks := t }) he2 hn'.2.1 h2 fun h'' t' kvs' ht' hk' hv' hd' hs' => ?_))
  rw [bind_assoc]
  refine wpAny_bind (wpAny_onRaise (wpAny_holding (display_end hn (he1.len.1.trans h1) (Nat.le_trans (Nat.le_of_eq he2.len.1) h2) hsys hk hd hs hk' hd' hs' fun h3 hd3 hk3 => wpAny_bind (wpAny_pure (wpAny_pure ?_)))))
  refine hQ h3 t' (kvs ++ kvs') (Nat.le_trans ht ht') ?_ (fun z => ?_) hd3 hk3
  · rw [List.map_append, List.map_append, hk, hk']
  · rw [List.map_append]; exact (hv z).append (hv' z)

theorem valueAt_zip (k : Str) : ∀ {ks : List (List Nat)} {kvs : List (Str × Value)}, kvs.map (·.1) = ks.map sOf → valueAt kvs k = assocL k ks (kvs.map (·.2))
  | [], [], _ => rfl
  | [], _ :: _, h => by cases h
  | _ :: _, [], h => by cases h
  | a :: ks, (x, v) :: kvs, h => by
    simp only [List.map_cons, List.cons.injEq] at h
    obtain ⟨rfl, h2⟩ := h
    have ih := valueAt_zip k h2
    unfold valueAt at ih ⊢
    by_cases e : sOf a = k
    · show _ = if sOf a = k then some v else _
      simp [List.find?_cons, e]
    · show _ = if sOf a = k then some v else _
      simp [List.find?_cons, e, ih]
theorem constPVs_inv {m : ME} {es : List ME} {vs : List PV} (h : constPVs (m :: es) = some vs) : ∃ v vs', m = .const v ∧ constPVs es = some vs' ∧ vs = v :: vs' := by
  obtain ⟨q, _, h⟩ := Option.bind_eq_some_iff.mp h
  obtain ⟨vs', h1, h2⟩ := Option.map_eq_some_iff.mp h
  exact ⟨q.1, vs', q.2, h1, h2.symm⟩
theorem one_ent {ko : Option Expr} {k : List Nat} {v : PV} {x : Expr} {env : Env} {pos : Pos} {sc : Scope} {vars : List Str} (hk : ((vS ko).any fun q => (vConst q.1).any fun c => (vStr c.1.1).any fun s => k == s.1.cps.toList) = true) (h : chkE (.const v) sc vars x = true) (hs : cPV (.str k) (.str (sOf k)) = true) :
    ∃ e, ko = some e ∧ EntOK B (eval e env, do let y ← eval x env; standAt pos; pure y) k v := by
  obtain ⟨q1, hk⟩ := any_inv hk
  obtain ⟨q2, hk⟩ := any_inv hk
  obtain ⟨q3, hk⟩ := any_inv hk
  obtain ⟨q4, h⟩ := any_inv h
  refine ⟨q1.1, q1.2, fun A E s Q hq => ?_, fun A E s Q hq => ?_⟩
  · show wpAny _ _ (eval q1.1 env) _ _ _
    rw [q2.2, q3.2, show q3.1 = sOf k by rw [beq_iff_eq.mp hk]]
    refine const_pv (B := B) hs fun x t ht hr => ?_
    obtain ⟨_, u, rfl⟩ := hr fun xx => none
    exact hq t u ht
  · show wpAny _ _ (eval x env >>= _) _ _ _
    rw [q4.2]
    exact wpAny_bind (const_pv h fun x t ht hx => wpAny_bind (wpAny_standAt (wpAny_pure (hq x t ht hx))))
theorem ents_ok {sc : Scope} {vars : List Str} {env : Env} {pos : Pos} {ks : List (List Nat)} : ∀ {kx : List (Option Expr)} {es : List ME} {xs : List Expr} {vs : List PV}, chkKs ks kx = true → chkEs es sc vars xs = true → constPVs es = some vs → ks.length = es.length → (∀ k ∈ ks, cPV (.str k) (.str (sOf k)) = true) →
    Ents B (pairTrees kx xs env pos) ks vs ∧ kx.all (·.isSome) = true ∧ kx.length = xs.length ∧ kx.length = ks.length := by
  induction ks with
  | nil =>
    intro kx es xs vs hk he hv hl _
    obtain rfl := List.length_eq_zero_iff.mp hl.symm
    obtain rfl := Option.some.inj hv
    obtain rfl := nil_inv hk
    obtain rfl := nil_inv he
    exact ⟨⟨[], rfl, rfl, rfl, fun xx h => by cases h⟩, rfl, rfl, rfl⟩
  | cons k ks ih =>
    intro kx es xs vs hk he hv hl hs
    cases kx with
    | nil => exact Bool.noConfusion hk
    | cons ko kx =>
    cases es with
    | nil => exact Nat.noConfusion hl
    | cons m es =>
    cases xs with
    | nil => exact Bool.noConfusion he
    | cons x xs =>
    obtain ⟨h12, _⟩ := Bool.and_eq_true_iff.mp he
    obtain ⟨h1, h2⟩ := Bool.and_eq_true_iff.mp h12
    obtain ⟨v, vs', rfl, hv', rfl⟩ := constPVs_inv hv
    obtain ⟨hk1, hk2⟩ := Bool.and_eq_true_iff.mp hk
    obtain ⟨e, rfl, ho⟩ := one_ent (B := B) (env := env) (pos := pos) hk1 h1 (hs k List.mem_cons_self)
    obtain ⟨i1, i2, i3, i4⟩ := ih hk2 h2 hv' (Nat.succ.inj hl) (fun k hk => hs k (List.mem_cons_of_mem _ hk))
    exact ⟨i1.cons ho, i2, congrArg Nat.succ i3, congrArg Nat.succ i4⟩

theorem dct_core {ks : List (List Nat)} {es : List ME} {kx : List (Option Expr)} {xs : List Expr} {pos : Pos} {vs : List PV} {z P : PH} {vars : List Str} {L : Addr} {ρ : Loc} {H : AH} {Q : PV → AH → Prop} {sc : Scope} {env : Env}
    (hk : chkKs ks kx = true) (he : chkEs es sc vars xs = true) (hl : ks.length = es.length) (hv : constPVs es = some vs) (h1 : 17 < ks.length) (h2 : ks.length ≤ 32) (hn : (ks.map sOf).Nodup) (hs : ∀ k ∈ ks, cPV (.str k) (.str (sOf k)) = true)
    (hsys : ∃ o, B.heap.get? sysModules = some o) (S : St B z P vars L ρ H s) (hq : Q (.dct ks vs) H) : wpAny (model B.prog B.w) A (eval (.Dict kx xs pos) env) (PE B P vars L ρ z Q) E s := by
  obtain ⟨i1, i2, i3, i4⟩ := ents_ok (B := B) (env := env) (pos := pos) hk he hv hl hs
  obtain ⟨hlk, hlv⟩ := i1.len
  have hb : sysModules < s.heap.objs.size := by
    obtain ⟨o, ho⟩ := hsys
    exact Heap.lt_size (S.c.zin _ _ (S.c.base _ _ ho))
  obtain ⟨pl, kl⟩ : (pairTrees kx xs env pos).length = ks.length ∧ vs.length = ks.length := ⟨hlk.symm, hlv.trans hlk.symm⟩
  rw [arm_eval_Dict, zip_pairTrees kx xs env pos i2 i3, ← List.take_append_drop 17 (pairTrees kx xs env pos)]
  refine wpAny_bind (wpAny_standAt (display_ok (i1.take 17) (i1.drop 17) (by rw [List.take_append_drop]; exact hn) (by rw [List.length_take]; omega) (by rw [List.length_drop]; omega) (List.ne_nil_of_length_pos (by rw [List.length_drop]; omega)) hb fun h' t kvs ht hkk hvv hd hkeep => ?_))
  rw [List.take_append_drop] at hkk
  rw [List.take_append_drop] at hvv
  have S1 := S.keeps ht hkeep
  obtain ⟨o, es', ep, ho, hc, hdd, hke, hp, hnn⟩ := id hd
  have hz := S.c.zfresh
  have S2 := S1.freeze ho hz S.c.pfresh S.c.hfresh (Nat.ne_of_gt S.llt)
  have hle : es'.size = kvs.length := by have := hp.length; simpa using this
  have hkl : kvs.length = ks.length := by have := congrArg List.length hkk; simpa using this
  refine ⟨_, .dct ks vs, H, zadd_le hz, S2, ⟨_, kvs.map (·.2), rfl, beq_eq_false_iff_ne.mpr (Nat.ne_of_gt hb), by omega, hvv _, o, es', ep, zadd_self _ _ _, hc, hdd, hke, fun k => ?_, by omega⟩, hq⟩
  show _ = assocL k ks (kvs.map (·.2))
  rw [← valueAt_zip k hkk, ← hp.find k]
  obtain ⟨l⟩ := es'
  simp [findBy]
end
end Mine
end

section
set_option tactic.hygienic false
set_option maxRecDepth 100000
set_option genInjectivity false
set_option genSizeOf false
namespace Mine
open PySem PySem.W PySem.Calls PyProof.Rows PySem.Builtin PySem.Builtin.Str PySem.NumText

theorem ands {a b : Bool} (h : (a && b) = true) : a = true ∧ b = true := Bool.and_eq_true_iff.mp h
theorem ands3 {a b c : Bool} (h : (a && b && c) = true) : a = true ∧ b = true ∧ c = true := by obtain ⟨x, y⟩ := ands h; exact ⟨(ands x).1, (ands x).2, y⟩
theorem ands4 {a b c d : Bool} (h : (a && b && c && d) = true) : a = true ∧ b = true ∧ c = true ∧ d = true := have x := ands h; have q := ands3 x.1; ⟨q.1, q.2.1, q.2.2, x.2⟩
theorem ands5 {a b c d e : Bool} (h : (a && b && c && d && e) = true) : a = true ∧ b = true ∧ c = true ∧ d = true ∧ e = true := have x := ands h; have q := ands4 x.1; ⟨q.1, q.2.1, q.2.2.1, q.2.2.2, x.2⟩
theorem ands6 {a b c d e f : Bool} (h : (a && b && c && d && e && f) = true) : a = true ∧ b = true ∧ c = true ∧ d = true ∧ e = true ∧ f = true := have x := ands h; have q := ands5 x.1; ⟨q.1, q.2.1, q.2.2.1, q.2.2.2.1, q.2.2.2.2, x.2⟩
theorem ands7 {a b c d e f g : Bool} (h : (a && b && c && d && e && f && g) = true) : a = true ∧ b = true ∧ c = true ∧ d = true ∧ e = true ∧ f = true ∧ g = true := have x := ands h; have q := ands6 x.1; ⟨q.1, q.2.1, q.2.2.1, q.2.2.2.1, q.2.2.2.2.1, q.2.2.2.2.2, x.2⟩
theorem ands8 {a b c d e f g i : Bool} (h : (a && b && c && d && e && f && g && i) = true) : a = true ∧ b = true ∧ c = true ∧ d = true ∧ e = true ∧ f = true ∧ g = true ∧ i = true := have x := ands h; have q := ands7 x.1; ⟨q.1, q.2.1, q.2.2.1, q.2.2.2.1, q.2.2.2.2.1, q.2.2.2.2.2.1, q.2.2.2.2.2.2, x.2⟩
theorem nots {a : Bool} (h : (!a) = true) : a = false := by cases a <;> first | rfl | cases h
theorem isSome0_inv {α : Type} {o : Option α} (h : isSome0 o = true) : o = none := by cases o <;> first | rfl | cases h
theorem some_inv {α : Type} {o : Option α} (h : o.isSome = true) : ∃ x, o = some x := Option.isSome_iff_exists.mp h
theorem get_inv {ρ : Loc} {i : Nat} {k : PV → Prop} (h : match getL ρ i with | some v => k v | none => False) : ∃ v, getL ρ i = some v ∧ k v := by
  cases q : getL ρ i with
  | none => rw [q] at h; exact h.elim
  | some v => rw [q] at h; exact ⟨v, rfl, h⟩

section
variable (B : Base) (T : Tab) (d : Nat)
noncomputable def SndE (m : ME) : Prop := ∀ (e : Expr) (ρ : Loc) (H : AH) (Q : KE) (z P : PH) (vars : List Str) (sc : Scope) (L : Addr) (env : Env) (A : Around) (s : Shared),
  EnvOK env vars sc L → Room d A → chkE m sc vars e = true → vcE B T d m Q ρ H → St B z P vars L ρ H s → wpAny (model B.prog B.w) A (eval e env) (PE B P vars L ρ z Q) NoExc s
noncomputable def SndT (m : ME) : Prop := ∀ (e : Expr) (ρ : Loc) (H : AH) (Q : KT) (z P : PH) (vars : List Str) (sc : Scope) (L : Addr) (env : Env) (A : Around) (s : Shared),
  EnvOK env vars sc L → Room d A → chkE m sc vars e = true → vcT B T d m Q ρ H → St B z P vars L ρ H s → wpAny (model B.prog B.w) A (isTrue e env (eval e env)) (PT B P vars L ρ z Q) NoExc s
noncomputable def SndL (ms : List ME) : Prop := ∀ (xs : List Expr) (pos : Pos) (ρ : Loc) (H : AH) (Q : KL) (z P : PH) (vars : List Str) (sc : Scope) (L : Addr) (env : Env) (A : Around) (s : Shared),
  EnvOK env vars sc L → Room d A → chkEs ms sc vars xs = true → vcEs B T d ms Q ρ H → St B z P vars L ρ H s → wpAny (model B.prog B.w) A (spliced (backTo pos (starEach xs env))) (fun vs s' => vs.length = ms.length ∧ PEs B P vars L ρ z Q vs s') NoExc s
noncomputable def SndO (m : Option ME) : Prop := ∀ (e : Option Expr) (ρ : Loc) (H : AH) (Q : KE) (z P : PH) (vars : List Str) (sc : Scope) (L : Addr) (env : Env) (A : Around) (s : Shared),
  EnvOK env vars sc L → Room d A → chkO m sc vars e = true → vcO B T d m Q ρ H → St B z P vars L ρ H s → wpAny (model B.prog B.w) A (evalPart e env) (PE B P vars L ρ z Q) NoExc s
noncomputable def SndB (ms : List ME) : Prop := ∀ (op : BoolOp) (xs : List Expr) (pos : Pos) (ρ : Loc) (H : AH) (Q : KE) (z P : PH) (vars : List Str) (sc : Scope) (L : Addr) (env : Env) (A : Around) (s : Shared),
  EnvOK env vars sc L → Room d A → chkEs ms sc vars xs = true → vcB B T d op ms Q ρ H → St B z P vars L ρ H s → wpAny (model B.prog B.w) A (boolOp pos op (evalEach xs env)) (PE B P vars L ρ z Q) NoExc s
noncomputable def SndTB (ms : List ME) : Prop := ∀ (op : BoolOp) (xs : List Expr) (ρ : Loc) (H : AH) (Q : KT) (z P : PH) (vars : List Str) (sc : Scope) (L : Addr) (env : Env) (A : Around) (s : Shared),
  EnvOK env vars sc L → Room d A → chkEs ms sc vars xs = true → vcTB B T d op ms Q ρ H → St B z P vars L ρ H s → wpAny (model B.prog B.w) A (allTrue op xs env) (PT B P vars L ρ z Q) NoExc s
noncomputable def SndF (es : List (Option (List Nat) × Option ME)) : Prop := ∀ (xs : List Expr) (out : List Nat) (ρ : Loc) (H : AH) (Q : KE) (z₀ z P : PH) (vars : List Str) (sc : Scope) (L : Addr) (env : Env) (A : Around) (s : Shared),
  EnvOK env vars sc L → Room d A → chkF es sc vars xs = true → vcF B T d es out Q ρ H → sok out → zle z₀ z → St B z P vars L ρ H s →
    Joins (model B.prog B.w) A NoExc (evalEach xs env) (sOf out) (fun o s₁ => ∃ z' out' H', zle z₀ z' ∧ St B z' P vars L ρ H' s₁ ∧ o = sOf out' ∧ sok out' ∧ Q (.str out') H') s
end

section
variable {B : Base} {T : Tab} {d : Nat} {z P : PH} {vars : List Str} {L : Addr} {ρ : Loc} {H : AH} {s : Shared} {A : Around} {env : Env} {sc : Scope} {m a b c : ME} {ms es : List ME} {e : Expr} {E : Value → Shared → Prop}

theorem SndE.then (x : SndE B T d m) {Q : KE} {Q' : Value → Shared → Prop} (V : EnvOK env vars sc L) (R : Room d A) (hc : chkE m sc vars e = true) (h : vcE B T d m Q ρ H) (S : St B z P vars L ρ H s)
    (k : ∀ v s₁ z₁ p H₁, zle z z₁ → St B z₁ P vars L ρ H₁ s₁ → Rep B z₁ p v → Q p H₁ → Q' v s₁) : wpAny (model B.prog B.w) A (eval e env) Q' E s :=
  wpAny_mono (x e ρ H Q z P vars sc L env A s V R hc h S) (fun v s₁ hh => by obtain ⟨z₁, p, H₁, a, b, c, q⟩ := hh; exact k v s₁ z₁ p H₁ a b c q) (fun xx xx x => x.elim)
theorem SndE.out (x : SndE B T d m) {Q : KE} {z₀ : PH} (V : EnvOK env vars sc L) (R : Room d A) (hc : chkE m sc vars e = true) (h : vcE B T d m Q ρ H) (S : St B z P vars L ρ H s) (le : zle z₀ z) : wpAny (model B.prog B.w) A (eval e env) (PE B P vars L ρ z₀ Q) E s :=
  x.then V R hc h S fun xx xx z₁ p H₁ a b c q => ⟨z₁, p, H₁, le.trans a, b, c, q⟩
theorem SndT.then (x : SndT B T d m) {Q : KT} {Q' : Bool → Shared → Prop} (V : EnvOK env vars sc L) (R : Room d A) (hc : chkE m sc vars e = true) (h : vcT B T d m Q ρ H) (S : St B z P vars L ρ H s)
    (k : ∀ s₁ z₁ (p : DP) H₁, zle z z₁ → St B z₁ P vars L ρ H₁ s₁ → Q p H₁ → Q' p.dec s₁) : wpAny (model B.prog B.w) A (isTrue e env (eval e env)) Q' E s :=
  wpAny_mono (x e ρ H Q z P vars sc L env A s V R hc h S) (fun v s₁ hh => by obtain ⟨z₁, H₁, p, a, b, c, q⟩ := hh; exact c ▸ k s₁ z₁ p H₁ a b q) (fun xx xx x => x.elim)
theorem SndL.then (x : SndL B T d ms) {xs : List Expr} {pos : Pos} {Q : KL} {Q' : List Value → Shared → Prop} (V : EnvOK env vars sc L) (R : Room d A) (hc : chkEs ms sc vars xs = true) (h : vcEs B T d ms Q ρ H) (S : St B z P vars L ρ H s)
    (k : ∀ v s₁ z₁ p H₁, v.length = ms.length → zle z z₁ → St B z₁ P vars L ρ H₁ s₁ → RepL B z₁ p v → Q p H₁ → Q' v s₁) : wpAny (model B.prog B.w) A (spliced (backTo pos (starEach xs env))) Q' E s :=
  wpAny_mono (x xs pos ρ H Q z P vars sc L env A s V R hc h S) (fun v s₁ hh => by obtain ⟨hl, z₁, p, H₁, a, b, c, q⟩ := hh; exact k v s₁ z₁ p H₁ hl a b c q) (fun xx xx x => x.elim)
theorem SndO.then (x : SndO B T d o) {e : Option Expr} {Q : KE} {Q' : Value → Shared → Prop} (V : EnvOK env vars sc L) (R : Room d A) (hc : chkO o sc vars e = true) (h : vcO B T d o Q ρ H) (S : St B z P vars L ρ H s)
    (k : ∀ v s₁ z₁ p H₁, zle z z₁ → St B z₁ P vars L ρ H₁ s₁ → Rep B z₁ p v → Q p H₁ → Q' v s₁) : wpAny (model B.prog B.w) A (evalPart e env) Q' E s :=
  wpAny_mono (x e ρ H Q z P vars sc L env A s V R hc h S) (fun v s₁ hh => by obtain ⟨z₁, p, H₁, a, b, c, q⟩ := hh; exact k v s₁ z₁ p H₁ a b c q) (fun xx xx x => x.elim)
theorem tst_of {c : DP} {X Y : Prop} (h : tst c X Y) : if c.dec then X else Y := by
  cases q : c.dec with
  | true => exact tst_true h (@of_decide_eq_true c.p c.i q)
  | false => exact tst_false h (@of_decide_eq_false c.p c.i q)

theorem snd_const {v : PV} : SndE B T d (.const v) := by
  intro e ρ H Q z P vars sc L env A s V R hc h S
  obtain ⟨⟨⟨c, k, p⟩, rfl⟩, hc⟩ := any_inv hc
  exact const_ok hc (S.out h)
theorem snd_var {i : Nat} : SndE B T d (.var i) := by
  intro e ρ H Q z P vars sc L env A s V R hc h S
  obtain ⟨⟨⟨c, p⟩, rfl⟩, hc⟩ := any_inv hc
  obtain ⟨v, hv, hq⟩ := get_inv (k := fun v => Q v H) h
  exact var_ok V S hc hv fun x hx => ⟨z, v, H, zle.refl z, S, hx, hq⟩
theorem snd_glob {nm : Str} {v : PV} (G : GoodB B) : SndE B T d (.glob nm v) := by
  intro e ρ H Q z P vars sc L env A s V R hc h S
  obtain ⟨⟨⟨c, p⟩, rfl⟩, hc⟩ := any_inv hc
  obtain ⟨h1, hg⟩ := ands hc
  cases beq_iff_eq.mp h1
  obtain ⟨⟨x, hx, hr⟩, hq⟩ := h
  exact glob_ok V G S.c.bin hg hx ⟨z, v, H, zle.refl z, S, hr.mono S.c.base, hq⟩
theorem snd_bin {op : Operator} (xa : SndE B T d a) (xb : SndE B T d b) : SndE B T d (.bin op a b) := by
  intro e ρ H Q z P vars sc L env A s V R hc h S
  obtain ⟨⟨⟨l, o, r, p⟩, rfl⟩, hc⟩ := any_inv hc
  obtain ⟨h0, h1, h2⟩ := ands3 hc
  cases beq_iff_eq.mp h0
  exact wpAny_BinOp (xa.then V R h1 h S fun va s₁ z₁ x H₁ le₁ S₁ r₁ h₁ => xb.then V R h2 h₁ S₁ fun vb s₂ z₂ y H₂ le₂ S₂ r₂ h₂ =>
    binK_ok h₂ (r₁.mono le₂) r₂ fun r hq v t ht hv => ⟨z₂, r, H₂, le₁.trans le₂, S₂.toks ht, hv, hq⟩)
theorem snd_neg (xa : SndE B T d a) : SndE B T d (.neg a) := by
  intro e ρ H Q z P vars sc L env A s V R hc h S
  obtain ⟨⟨⟨o, x, p⟩, rfl⟩, hc⟩ := any_inv hc
  obtain ⟨h0, h1⟩ := ands hc
  cases o <;> first | (cases h0; done) | skip
  refine wpAny_UnaryOp (xa.then V R h1 h S fun va s₁ z₁ x H₁ le₁ S₁ r₁ h₁ => ?_)
  obtain ⟨i, rfl, hq⟩ := onInt_inv h₁
  exact neg_ok r₁ fun v t ht hv => ⟨z₁, _, H₁, le₁, S₁.toks ht, hv, hq⟩
theorem snd_nt (xa : SndE B T d a) : SndE B T d (.nt a) := by
  intro e ρ H Q z P vars sc L env A s V R hc h S
  obtain ⟨⟨⟨o, x, p⟩, rfl⟩, hc⟩ := any_inv hc
  obtain ⟨h0, h1⟩ := ands hc
  cases o <;> first | (cases h0; done) | skip
  refine wpAny_UnaryOp (xa.then V R h1 h S fun va s₁ z₁ x H₁ le₁ S₁ r₁ h₁ => ?_)
  refine not_value (tr_ok h₁ r₁ fun c hq t ht => ?_)
  have e : c.not.dec = !c.dec := @decide_not c.p c.i (@instDecidableNot c.p c.i)
  rw [e] at hq
  exact ⟨z₁, .bool _, H₁, le₁, S₁.toks ht, rfl, hq⟩
theorem snd_bop {op : BoolOp} (xs : SndB B T d es) : SndE B T d (.bop op es) := by
  intro e ρ H Q z P vars sc L env A s V R hc h S
  obtain ⟨⟨⟨o, x, p⟩, rfl⟩, hc⟩ := any_inv hc
  obtain ⟨h0, h1⟩ := ands hc
  cases beq_iff_eq.mp h0
  rw [arm_eval_BoolOp]
  exact xs _ _ _ _ _ _ _ _ _ _ _ _ _ _ V R h1 h S
theorem snd_cmp {op : CmpOp} (xa : SndE B T d a) (xb : SndE B T d b) : SndE B T d (.cmp op a b) := by
  intro e ρ H Q z P vars sc L env A s V R hc h S
  obtain ⟨q, hc⟩ := any_inv hc
  obtain ⟨o, hc⟩ := any_inv hc
  obtain ⟨r, hc⟩ := any_inv hc
  obtain ⟨h0, h1, h2, h3⟩ := ands4 hc
  have h3 := nots h3
  rw [beq_iff_eq.mp h0] at h3
  rw [q.2, o.2, r.2, beq_iff_eq.mp h0]
  exact wpAny_Compare1 (xa.then V R h1 h S fun va s₁ z₁ x H₁ le₁ S₁ r₁ h₁ => xb.then V R h2 h₁ S₁ fun vb s₂ z₂ y H₂ le₂ S₂ r₂ h₂ =>
    cmpK_ok h₂ (r₁.mono le₂) r₂ S₂.zi R fun c hq t ht => ⟨z₂, .bool _, H₂, le₁.trans le₂, S₂.toks ht, rfl, hq⟩) h3
theorem snd_ife (xt : SndT B T d m) (xa : SndE B T d a) (xb : SndE B T d b) : SndE B T d (.ife m a b) := by
  intro e ρ H Q z P vars sc L env A s V R hc h S
  obtain ⟨⟨⟨t, x, y, p⟩, rfl⟩, hc⟩ := any_inv hc
  obtain ⟨h1, h2, h3⟩ := ands3 hc
  refine wpAny_IfExp (xt.then V R h1 h S fun s₁ z₁ c H₁ le₁ S₁ h₁ => ?_)
  have := tst_of h₁
  cases q : c.dec with
  | true => rw [q] at this; exact xa.out V R h2 this S₁ le₁
  | false => rw [q] at this; exact xb.out V R h3 this S₁ le₁
theorem snd_tup (xs : SndL B T d es) : SndE B T d (.tup es) := by
  intro e ρ H Q z P vars sc L env A s V R hc h S
  obtain ⟨⟨⟨x, k, p⟩, rfl⟩, hc⟩ := any_inv hc
  obtain ⟨h1, h2⟩ := ands hc
  refine wpAny_Tuple_spliced (xs.then V R h1 h S fun vs s₁ z₁ ps H₁ hl le₁ S₁ r₁ hq => ?_)
  have hlen : vs.length ≤ sizeLine := by rw [hl, sizeLine_is]; exact Nat.le_trans (of_decide_eq_true h2) (by lia)
  exact ⟨hlen, _, .tup ps, H₁, le₁.trans (zadd_le S₁.c.zfresh), S₁.pushFrozen rfl, ⟨_, 0, vs.toArray, rfl, zadd_self _ _ _, r₁.mono (zadd_le S₁.c.zfresh), hlen⟩, hq⟩
theorem snd_lst (xs : SndL B T d es) : SndE B T d (.lst es) := by
  intro e ρ H Q z P vars sc L env A s V R hc h S
  obtain ⟨⟨⟨x, k, p⟩, rfl⟩, hc⟩ := any_inv hc
  obtain ⟨h1, h2⟩ := ands hc
  refine wpAny_List_spliced (xs.then V R h1 h S fun vs s₁ z₁ ps H₁ hl le₁ S₁ r₁ hq => ?_)
  have hlen : vs.length ≤ sizeLine := by rw [hl, sizeLine_is]; exact Nat.le_trans (of_decide_eq_true h2) (by lia)
  exact ⟨hlen, _, .lst ps, H₁, le₁.trans (zadd_le S₁.c.zfresh), S₁.pushFrozen rfl, ⟨_, 0, vs.toArray, rfl, zadd_self _ _ _, r₁.mono (zadd_le S₁.c.zfresh), hlen⟩, hq⟩
theorem snd_mlst (xs : SndL B T d es) : SndE B T d (.mlst es) := by
  intro e ρ H Q z P vars sc L env A s V R hc h S
  obtain ⟨⟨⟨x, k, p⟩, rfl⟩, hc⟩ := any_inv hc
  obtain ⟨h1, h2⟩ := ands hc
  refine wpAny_List_spliced (xs.then V R h1 h S fun vs s₁ z₁ ps H₁ hl le₁ S₁ r₁ hq => ?_)
  have hlen : vs.length ≤ sizeLine := by rw [hl, sizeLine_is]; exact Nat.le_trans (of_decide_eq_true h2) (by lia)
  exact ⟨hlen, z₁, .ref s₁.heap.objs.size, H₁.upd s₁.heap.objs.size (.list ps), le₁, S₁.pushOwn rfl ⟨0, vs.toArray, rfl, r₁, hlen⟩, rfl, hq _ S₁.c.hfresh⟩
theorem snd_dct {ks : List (List Nat)} (G : GoodB B) : SndE B T d (.dct ks es) := by
  intro e ρ H Q z P vars sc L env A s V R hc h S
  obtain ⟨⟨⟨x, k, p⟩, rfl⟩, hc⟩ := any_inv hc
  obtain ⟨h1, h2, h3⟩ := ands3 hc
  obtain ⟨vs, hv, ⟨g1, g2⟩, hn, hk, hq⟩ := h
  exact dct_core h1 h2 (of_decide_eq_true h3) hv g1 g2 hn hk G.sysm S hq
theorem snd_idx (xa : SndE B T d a) (xb : SndE B T d b) : SndE B T d (.idx a b) := by
  intro e ρ H Q z P vars sc L env A s V R hc h S
  obtain ⟨⟨⟨l, r, c, p⟩, rfl⟩, hc⟩ := any_inv hc
  obtain ⟨h1, h2, h3⟩ := ands3 hc
  exact Subscript_ (xa.then V R h1 h S fun va s₁ z₁ x H₁ le₁ S₁ r₁ h₁ => xb.then V R h2 h₁ S₁ fun vb s₂ z₂ y H₂ le₂ S₂ r₂ h₂ =>
    idxK_ok h₂ (r₁.mono le₂) r₂ S₂.zi (not_slice (nots h3)) fun r hq v t ht hv => ⟨z₂, r, H₂, le₁.trans le₂, S₂.toks ht, hv, hq⟩)
theorem snd_slc {lo hi : Option ME} (xa : SndE B T d a) (xl : SndO B T d lo) (xh : SndO B T d hi) : SndE B T d (.slc a lo hi) := by
  intro e ρ H Q z P vars sc L env A s V R hc h S
  obtain ⟨q, hc⟩ := any_inv hc
  obtain ⟨w, hc⟩ := any_inv hc
  obtain ⟨h0, h1, h2, h3⟩ := ands4 hc
  rw [q.2, w.2, isSome0_inv h0]
  refine Subscript_ (xa.then V R h1 h S fun va s₁ z₁ x H₁ le₁ S₁ r₁ h₁ => wpAny_Slice (xl.then V R h2 h₁ S₁ fun vl s₂ z₂ l H₂ le₂ S₂ r₂ h₂ => xh.then V R h3 h₂ S₂ fun vu s₃ z₃ u H₃ le₃ S₃ r₃ h₃ => wpAny_pure ?_))
  have S₄ := S₃.keeps (h' := s₃.heap.push { cls := .type "slice", data := .fields #[vl, vu, .none] }) (Nat.le_refl _) (fun xx xx e => Heap.get?_push_of_some _ e)
  exact slcK_ok h₃ (r₁.mono (le₂.trans le₃)) (r₂.mono le₃) r₃ S₄.zi (Heap.get?_push_size _ rfl)
    (fun r hq v t ht hv => ⟨z₃, r, H₃, (le₁.trans le₂).trans le₃, S₄.toks ht, hv, hq⟩)
    (fun r hq o ho hv => ⟨_, r, H₃, ((le₁.trans le₂).trans le₃).trans (zadd_le S₄.c.zfresh), S₄.pushFrozen ho, hv, hq⟩) S₄.c.zfresh
theorem attr_core {nm id : Str} {p p' : Pos} {z P : PH} {vars : List Str} {sc : Scope} {L : Addr} {env : Env} {A : Around} {s : Shared} {ρ : Loc} {H : AH} {Q : KE} (GT : GoodT B T) (xa : SndE B T d a) (V : EnvOK env vars sc L) (R : Room d A) (h2 : chkE a sc vars (.Name id p') = true) (h : vcE B T d (.attr a nm) Q ρ H) (S : St B z P vars L ρ H s) :
    wpAny (model B.prog B.w) A (eval (.Attribute (.Name id p') nm p) env) (PE B P vars L ρ z Q) NoExc s := by
  refine Attribute_ok (xa.then V R h2 h S fun va s₁ z₁ x H₁ le₁ S₁ r₁ h₁ => ?_)
  obtain ⟨c, fs, rfl, r, hr, hq⟩ := onNode_inv h₁
  obtain ⟨xa, dd, sl, xs, rfl, hz, hzd, hsl, hrl⟩ := r₁
  cases r with
  | slot i =>
    obtain ⟨p, hp, hq⟩ := hq
    obtain ⟨v, hv, rv⟩ := hrl.get hp
    refine GT.att _ _ _ hr A _ _ s₁ xa dd sl v S₁.c.bin (S₁.zi _ _ hz) (S₁.zi _ _ hzd) ?_ (rep_handed rv) fun t ht => ⟨z₁, p, H₁, le₁, S₁.toks ht, rv, hq⟩
    rw [← Array.getElem?_toList, hsl, List.getElem?_map, hv]
    rfl
  | val p =>
    exact GT.att _ _ _ hr A _ _ s₁ xa dd sl S₁.c.bin (S₁.zi _ _ hz) (S₁.zi _ _ hzd) fun v t ht rv => ⟨z₁, p, H₁, le₁, S₁.toks ht, rv.mono S₁.c.base, hq⟩
theorem snd_attr {nm : Str} (GT : GoodT B T) (xa : SndE B T d a) : SndE B T d (.attr a nm) := by
  intro e ρ H Q z P vars sc L env A s V R hc h S
  obtain ⟨q, hc⟩ := any_inv hc
  obtain ⟨h0, h1, h2⟩ := ands3 hc
  obtain ⟨n, _⟩ := some_inv h0
  rw [n.2] at h2
  rw [q.2, n.2, beq_iff_eq.mp h1]
  exact attr_core GT xa V R h2 h S
theorem call_out {Q : KE} {z₁ : PH} {H₁ : AH} {s₁ : Shared} {fv : Value} {ps : List PV} {vs : List Value} (h : CallSem B d fv ps H₁ Q) (R : Room d A) (le₁ : zle z z₁) (S₁ : St B z₁ P vars L ρ H₁ s₁) (r₁ : RepL B z₁ ps vs) :
    BaseIn B s₁ ∧ wpAny (model B.prog B.w) A (call fv vs) (PE B P vars L ρ z Q) NoExc s₁ := by
  refine ⟨S₁.c.bin, ?_⟩
  obtain ⟨o, SC, ho⟩ := S₁.toCall
  exact wpAny_mono (h z₁ _ s₁ A vs R SC r₁) (fun v s₂ hh => by obtain ⟨z₂, p, H₂, le₂, SC₂, rv, hq⟩ := hh; exact ⟨z₂, p, H₂, le₁.trans le₂, S₁.ofCall ho le₂ SC₂, rv, hq⟩) (fun xx xx x => x)
theorem calB_inv {nm : Str} {vs : List PV} {Q : KE} (h : calB B d nm vs Q H) : ∃ fv, B.mg nm = some fv ∧ KeepOk B fv ∧ CallSem B d fv vs H Q := by unfold calB at h; exact h
theorem snd_call {nm : Str} (G : GoodB B) (xs : SndL B T d es) : SndE B T d (.call nm es) := by
  intro e ρ H Q z P vars sc L env A s V R hc h S
  obtain ⟨q, hc⟩ := any_inv hc
  obtain ⟨n, hc⟩ := any_inv hc
  obtain ⟨h0, h1, h2, h3⟩ := ands4 hc
  obtain ⟨⟨fv, hf, hk⟩, hv⟩ := h
  rw [q.2, n.2, nil_inv h0, beq_iff_eq.mp h1]
  refine wpAny_Call_NameR (glob_ok V G S.c.bin h2 hf ?_)
  refine callWith_ok (backTo_plain (starEach_plain h3)) hk (xs.then V R h3 hv S fun vs s₁ z₁ ps H₁ xx le₁ S₁ r₁ h₁ => ?_)
  obtain ⟨fv', hf', _, hs⟩ := calB_inv h₁
  cases hf.symm.trans hf'
  exact call_out hs R le₁ S₁ r₁
theorem snd_scall {cl nm : Str} (G : GoodB B) (GT : GoodT B T) (xs : SndL B T d es) : SndE B T d (.scall cl nm es) := by
  intro e ρ H Q z P vars sc L env A s V R hc h S
  obtain ⟨q, hc⟩ := any_inv hc
  obtain ⟨o, hc⟩ := any_inv hc
  obtain ⟨n, hc⟩ := any_inv hc
  obtain ⟨h0, h1, h2, h3, h4, h5, h6⟩ := ands7 hc
  obtain ⟨⟨fv, hf, hk⟩, hv⟩ := h
  rw [q.2, o.2, n.2, nil_inv h0, beq_iff_eq.mp h1, beq_iff_eq.mp h2]
  refine scall_ok V G S.c.bin h3 (GT.stat _ _ _ hf) h4 (of_decide_eq_true h6) h5 fun t ht => ?_
  refine callWith_ok (backTo_plain (starEach_plain h4)) hk (xs.then V R h4 hv (S.toks ht) fun vs s₁ z₁ ps H₁ xx le₁ S₁ r₁ h₁ => ?_)
  obtain ⟨fv', hf', hs⟩ := h₁
  cases hf.symm.trans hf'
  exact call_out hs R le₁ S₁ r₁
theorem bi_core {f : Bi} {as : List Expr} {n p : Pos} {Q : KE} (G : GoodB B) (xs : SndL B T d es) (V : EnvOK env vars sc L) (R : Room d A) (h2 : glb sc f.name = true) (h3 : chkEs es sc vars as = true) (h : vcEs B T d es (kbi f Q) ρ H) (S : St B z P vars L ρ H s) :
    wpAny (model B.prog B.w) A (eval (.Call (.Name f.name n) as [] p) env) (PE B P vars L ρ z Q) NoExc s := by
  refine wpAny_Call_NameR (bi_name V G S.c.bin h2 ?_)
  have main : wpAny (model B.prog B.w) A (spliced (backTo p (starEach as env))) (fun vs s' => wpAny (model B.prog B.w) A (PySem.call f.val vs) (PE B P vars L ρ z Q) NoExc s') NoExc s :=
    xs.then V R h3 h S fun vs s₁ z₁ ps H₁ xx le₁ S₁ r₁ h₁ => biK_ok h₁ r₁ S₁.zi fun r hq v t ht hv => ⟨z₁, r, H₁, le₁, S₁.toks ht, hv, hq⟩
  have hp := backTo_plain (pos := p) (starEach_plain (env := env) h3)
  cases f with
  | int => exact PySem.callWith_type hp (spliced_all hp main)
  | len => exact callWith_builtin hp (spliced_all hp main)
  | ord => exact callWith_builtin hp (spliced_all hp main)
  | chr => exact callWith_builtin hp (spliced_all hp main)
theorem snd_bi {f : Bi} (G : GoodB B) (xs : SndL B T d es) : SndE B T d (.bi f es) := by
  intro e ρ H Q z P vars sc L env A s V R hc h S
  obtain ⟨q, hc⟩ := any_inv hc
  obtain ⟨n, hc⟩ := any_inv hc
  obtain ⟨h0, h1, h2, h3⟩ := ands4 hc
  rw [q.2, n.2, nil_inv h0, beq_iff_eq.mp h1]
  exact bi_core G xs V R h2 h3 h S
theorem meth_core {f : Mt} {o : Expr} {as : List Expr} {p p' : Pos} {Q : KE} (xa : SndE B T d a) (xs : SndL B T d es) (V : EnvOK env vars sc L) (R : Room d A) (h2 : plainBase o = true) (h3 : chkE a sc vars o = true) (h4 : chkEs es sc vars as = true)
    (h5 : (p'.endLine == p.line) = true) (h6 : as.length < 25) (h : vcE B T d a (kme f (vcEs B T d es) Q ρ) ρ H) (S : St B z P vars L ρ H s) :
    wpAny (model B.prog B.w) A (eval (.Call (.Attribute o f.name p') as [] p) env) (PE B P vars L ρ z Q) NoExc s := by
  have main : wpAny (model B.prog B.w) A (eval o env) (fun ov s₁ => s₁.TypeIs ov f.ty ∧ (∀ a, ov = .ref a → ∃ ob, s₁.heap.get? a = some ob ∧ ob.dict = none) ∧
      wpAny (model B.prog B.w) A (callWith p (.builtin f.id) [ov] (backTo p (starEach as env)) []) (PE B P vars L ρ z Q) NoExc s₁) NoExc s := by
    refine xa.then V R h3 h S fun ov s₁ z₁ x H₁ le₁ S₁ r₁ h₁ => ?_
    obtain ⟨t1, t2, h₁⟩ := recv_type h₁ r₁ S₁.zi
    have hp := backTo_plain (pos := p) (starEach_plain (env := env) h4)
    exact ⟨t1, t2, callWith_builtin hp (spliced_all hp (xs.then V R h4 h₁ S₁ fun vs s₂ z₂ ps H₂ xx le₂ S₂ r₂ h₂ =>
      methK_ok h₂ (r₁.mono le₂) r₂ S₂.zi fun r hq v t ht hv => ⟨z₂, r, H₂, le₁.trans le₂, S₂.toks ht, hv, hq⟩))⟩
  have hb := base_plain (env := env) (name := f.name) h2
  have hf := few_ok (env := env) (pos := p) h4 h6
  cases f with
  | startswith => exact wpAny_Call_method hb hf h5 F.plainAttrs_str F.slot_str_startswith F.type_str_startswith main
  | rfind => exact wpAny_Call_method hb hf h5 F.plainAttrs_str F.slot_str_rfind F.type_str_rfind main
  | count => exact wpAny_Call_method hb hf h5 F.plainAttrs_str F.slot_str_count F.type_str_count main
  | join => exact wpAny_Call_method hb hf h5 F.plainAttrs_str F.slot_str_join F.type_str_join main
  | get => exact wpAny_Call_method hb hf h5 F.plainAttrs_dict F.slot_dict_get F.type_dict_get main
theorem snd_meth {f : Mt} (xa : SndE B T d a) (xs : SndL B T d es) : SndE B T d (.meth f a es) := by
  intro e ρ H Q z P vars sc L env A s V R hc h S
  obtain ⟨q, hc⟩ := any_inv hc
  obtain ⟨o, hc⟩ := any_inv hc
  obtain ⟨h0, h1, h2, h3, h4, h5, h6⟩ := ands7 hc
  rw [q.2, o.2, nil_inv h0, beq_iff_eq.mp h1]
  exact meth_core xa xs V R h2 h3 h4 h5 (of_decide_eq_true h6) h S
theorem repl_core {q : List Nat} {w : Nat} {o : Expr} {k1 k2 : Nat} {p p' p1 p2 : Pos} {Q : KE} (xa : SndE B T d a) (V : EnvOK env vars sc L) (R : Room d A) (h2 : callBase o = true) (h3 : chkE a sc vars o = true) (h7 : (p'.endLine == p.line) = true)
    (h : vcE B T d a (krepl q w Q) ρ H) (S : St B z P vars L ρ H s) :
    wpAny (model B.prog B.w) A (eval (.Call (.Attribute o ("replace" : Str) p') [.Constant (.str (sOf q)) k1 p1, .Constant (.str (sOf [w])) k2 p2] [] p) env) (PE B P vars L ρ z Q) NoExc s := by
  refine wpAny_Call_method (base_call h2) rfl h7 F.plainAttrs_str F.slot_str_replace F.type_str_replace (xa.then V R h3 h S fun ov s₁ z₁ xv H₁ le₁ S₁ r₁ h₁ => ?_)
  obtain ⟨sx, rfl, ⟨hp, hpq, hsz, hok⟩, hq⟩ := onStr_inv h₁
  obtain ⟨hsx, t, rfl⟩ := r₁
  refine ⟨typeIs_str _ _ _, fun a e => (nomatch e), callWith_builtin rfl (spliced_all rfl ?_)⟩
  refine spliced_cons (Constant_str (k := k1) (pos := p1) (spliced_cons (Constant_str (k := k2) (pos := p2) (spliced_nil ?_))))
  refine call_gives F.slot_str_replace (typeIs_str _ _ _) F.entry_str_replace (F.args_str_replace_3 _ _ _) (gives_str_replace _ _ _ _ _ _ ?_) ?_
  · intro _
    have ht := S₁.c.tk.1
    refine ⟨?_, ?_, ?_, ?_⟩
    · show ((s₁.toks == 0) || (s₁.toks + 1 == 0)) = false
      have e1 : (s₁.toks == 0) = false := beq_eq_false_iff_ne.mpr (Nat.ne_of_gt ht)
      have e2 : (s₁.toks + 1 == 0) = false := beq_eq_false_iff_ne.mpr (Nat.succ_ne_zero _)
      rw [e1, e2]; rfl
    · exact beq_eq_false_iff_ne.mpr (Nat.ne_of_lt (Nat.lt_succ_self _))
    · rw [beq_eq_false_iff_ne]; exact fun e => hpq (sOf_inj e)
    · unfold tooLong
      rw [sizeLine_is, sOf_length]
      have := StrLaws.occ_length_le (sOf sx) (sOf q) 0 sx.length (sx.length + 1)
      rw [sOf_length]
      simp only [List.length_cons, List.length_nil]
      exact decide_eq_false (by lia)
  · have he : ((sOf q).length == 0 && (sOf [w]).length == 0) = false := by simp [sOf_length]
    rw [he, Bool.or_false, sOf_length, sOf_length]
    unfold replL at hok hq
    by_cases hh : (occurrences (sOf sx) (sOf q) 0 sx.length (sx.length + 1)).isEmpty = true
    · rw [if_pos hh] at hok hq ⊢
      exact ⟨z₁, .str _, H₁, le₁, S₁.toks (Nat.le_succ_of_le (Nat.le_succ _)), ⟨hsx, _, rfl⟩, hq⟩
    · rw [if_neg hh] at hok hq ⊢
      refine ⟨?_, z₁, .str _, H₁, le₁, S₁.toks (Nat.le_succ_of_le (Nat.le_succ_of_le (Nat.le_succ _))), ⟨hok, _, rfl⟩, hq⟩
      have := hok.2
      rw [sizeLine_is]
      simpa [Str.length] using this
theorem cps_eq {x : Str} {q : List Nat} (h : (x.cps.toList == q) = true) : x = sOf q := by rw [← beq_iff_eq.mp h]
theorem snd_repl {q : List Nat} {w : Nat} (xa : SndE B T d a) : SndE B T d (.repl a q w) := by
  intro e ρ H Q z P vars sc L env A s V R hc h S
  obtain ⟨c, hc⟩ := any_inv hc
  obtain ⟨o, hc⟩ := any_inv hc
  obtain ⟨l, hc⟩ := any_inv hc
  obtain ⟨c1, hc⟩ := any_inv hc
  obtain ⟨c2, hc⟩ := any_inv hc
  obtain ⟨x, hc⟩ := any_inv hc
  obtain ⟨y, hc⟩ := any_inv hc
  obtain ⟨h0, h1, h2, h3, h4, h5, _, h7⟩ := ands8 hc
  rw [c.2, o.2, l.2, c1.2, c2.2, x.2, y.2, nil_inv h0, beq_iff_eq.mp h1, cps_eq h4, cps_eq h5]
  exact repl_core xa V R h2 h3 h7 h S
theorem appB_inv {l : Addr} {y : PV} {Q : KE} (h : appB l y Q H) : ∃ vs, H l = some (.list vs) ∧ vs.length ≤ 1000000 ∧ Q .none (H.upd l (.list (vs ++ [y]))) := by unfold appB at h; exact h
theorem app_core {o x : Expr} {p p' : Pos} {Q : KE} (xa : SndE B T d a) (xb : SndE B T d b) (V : EnvOK env vars sc L) (R : Room d A) (h2 : plainBase o = true) (h3 : chkE a sc vars o = true) (h4 : chkE b sc vars x = true) (h5 : (p'.endLine == p.line) = true) (h6 : star1 x = false)
    (h : vcE B T d a (kapp (vcE B T d b) Q ρ) ρ H) (S : St B z P vars L ρ H s) : wpAny (model B.prog B.w) A (eval (.Call (.Attribute o ("append" : Str) p') [x] [] p) env) (PE B P vars L ρ z Q) NoExc s := by
  have hst : backTo p (starEach [x] env) = [(false, eval x env)] := by rw [starEach_cons h6]; rfl
  refine wpAny_Call_method (T := "list") (base_plain h2) (by rw [hst]; rfl) h5 F.plainAttrs_list slot_list_append type_list_append (xa.then V R h3 h S fun ov s₁ z₁ v H₁ le₁ S₁ r₁ h₁ => ?_)
  obtain ⟨l, rfl, ⟨vs₀, hl⟩, h₁⟩ := onRef_inv h₁
  cases r₁
  obtain ⟨hz, oo, hoo, n, xs, rfl, hr, hsz⟩ := S₁.c.hin l _ hl
  refine ⟨⟨_, hoo, rfl⟩, fun a e => by cases e; exact ⟨_, hoo, rfl⟩, ?_⟩
  rw [hst]
  refine callWith_builtin rfl (spliced_all rfl (spliced_cons (xb.then V R h4 h₁ S₁ fun y s₂ z₂ yv H₂ le₂ S₂ r₂ h₂ => spliced_nil ?_)))
  obtain ⟨vs, hl2, hlen, hq⟩ := appB_inv h₂
  obtain ⟨hz2, oo2, hoo2, n2, xs2, rfl, hr2, hsz2⟩ := S₂.c.hin l _ hl2
  have hxl : xs2.size = vs.length := by have := hr2.length; rwa [Array.length_toList] at this
  refine wpAny_list_append_plain ⟨n2, hoo2⟩ ?_ hsz2
  rintro h' ⟨n3, hn3⟩ hs
  refine ⟨z₂, .none, _, le₁.trans le₂, S₂.changeOwn (Nat.le_refl _) hs.extBut hl2 hn3 (x := .list (vs ++ [yv])) ⟨n3, _, rfl, ?_, ?_⟩ trivial, rfl, hq⟩
  · rw [Array.toList_push]
    exact hr2.append (RepL.single r₂)
  · rw [Array.size_push, sizeLine_is, hxl]; exact Nat.le_trans (Nat.succ_le_succ hlen) (by lia)
theorem snd_app (xa : SndE B T d a) (xb : SndE B T d b) : SndE B T d (.app a b) := by
  intro e ρ H Q z P vars sc L env A s V R hc h S
  obtain ⟨c, hc⟩ := any_inv hc
  obtain ⟨o, hc⟩ := any_inv hc
  obtain ⟨x, hc⟩ := any_inv hc
  obtain ⟨h0, h1, h2, h3, h4, h5, h6⟩ := ands7 hc
  rw [c.2, o.2, x.2, nil_inv h0, beq_iff_eq.mp h1]
  exact app_core xa xb V R h2 h3 h4 h5 (nots h6) h S
theorem snd_frz (xa : SndE B T d a) : SndE B T d (.frz a) := by
  intro e ρ H Q z P vars sc L env A s V R hc h S
  refine xa.then V R hc h S fun ov s₁ z₁ xv H₁ le₁ S₁ r₁ h₁ => ?_
  obtain ⟨l, rfl, vs, hl, hq⟩ := onRef_inv h₁
  cases r₁
  obtain ⟨hz, o, ho, n, xs, rfl, hr, hsz⟩ := S₁.c.hin l _ hl
  have hp : P l = none := by
    cases hP : P l with
    | none => rfl
    | some o => have := (S₁.c.pin l o hP).2.2; rw [hl] at this; cases this
  have hL : l ≠ L := by rintro rfl; rw [S₁.lh] at hl; cases hl
  exact ⟨_, .lst vs, H₁.del l, le₁.trans (zadd_le hz), (S₁.drop l (by rw [hl]; exact trivial)).freeze ho hz hp (by simp [AH.del]) hL, ⟨l, n, xs, rfl, zadd_self _ _ _, hr.mono (zadd_le hz), hsz⟩, hq⟩
theorem SndE.elt (x : SndE B T d m) (R : Room d A) {csc : Scope} {xs : List Str} (hc : chkE m csc xs e = true) {ρ' : Loc} {Q : KE} {H : AH} {z P : PH} {L' : Addr} {env' : Env} {s : Shared} (V : EnvOK env' xs csc L') (h : vcE B T d m Q ρ' H) (S : St B z P xs L' ρ' H s) :
    wpAny (model B.prog B.w) A (eval e env') (PE B P xs L' ρ' z Q) NoExc s := x _ _ _ _ _ _ _ _ _ _ _ _ V R hc h S
theorem comp_mid {x : Str} {el it : Expr} {csc : Scope} {p p' : Pos} {Q : KE} (xe : SndE B T d a) (xi : SndE B T d b) (V : EnvOK env vars sc L) (R : Room d A) (h1 : chkE b sc vars it = true) (h2 : chkE a csc [x] el = true) (C : CompOK csc x) (h4 : isSet it = false)
    (h : vcE B T d b (kcomp (vcE B T d a) Q) ρ H) (S : St B z P vars L ρ H s) : wpAny (model B.prog B.w) A (eval (.ListComp el [⟨.Name x p', it, [], 0⟩] csc p) env) (PE B P vars L ρ z Q) NoExc s := by
  rw [eval_ListComp]
  refine wpAny_comprehension_free (use := none) rfl (not_set h4) (closure_none C.free) C.kind C.names (xi.then V R h1 h S fun v s₁ z₁ xv H₁ le₁ S₁ r₁ h₁ => ?_)
  obtain ⟨xs, hxs, hlen, hm⟩ := h₁
  refine iter_make hxs r₁ S₁.zi S₁.c.zfresh fun o stt hf IT hst => ?_
  refine comp_core (RR := fun acc C => compPost _ A NoExc none _ acc C) C V R IT (S₁.pushPin hf) S₁.c.pfresh hst hlen (fun VV hh SS => xe.elt R h2 VV hh SS) hm ?_
  intro D K z' H' s' rs vs n oK m le hDK hPD hPK SK hnK hrs hl hq
  exact ⟨m, hnK, fun h' hs => comp_done le₁ le hDK hPD hPK SK hrs hl hlen hs hq⟩
theorem snd_comp {x : Str} (xe : SndE B T d a) (xi : SndE B T d b) : SndE B T d (.comp x a b) := by
  intro e ρ H Q z P vars sc L env A s V R hc h S
  obtain ⟨q, hc⟩ := any_inv hc
  obtain ⟨g, hc⟩ := any_inv hc
  obtain ⟨n, hc⟩ := any_inv hc
  obtain ⟨h0, h1, h2, h3, h4⟩ := ands5 hc
  rw [q.2, g.2, n.2, beq_iff_eq.mp h0]
  exact comp_mid xe xi V R h1 h2 (compOk_ok h3) (nots h4) h S
theorem ecomp_mid {x y : Str} {el it : Expr} {csc : Scope} {q : Nat} {p p' p1 p2 cp ep : Pos} {Q : KE} (G : GoodB B) (xe : SndE B T d a) (xi : SndE B T d b) (V : EnvOK env vars sc L) (R : Room d A) (h4 : glb sc "enumerate" = true) (h7' : star1 it = false)
    (h6 : chkE b sc vars it = true) (h7 : chkE a csc [x, y] el = true) (C : CompOK csc x) (C2 : CompOK csc y) (hxy : x ≠ y)
    (h : vcE B T d b (kecomp (vcE B T d a) Q) ρ H) (S : St B z P vars L ρ H s) :
    wpAny (model B.prog B.w) A (eval (.ListComp el [⟨.Tuple [.Name x p1, .Name y p2] q p', .Call (.Name "enumerate" ep) [it] [] cp, [], 0⟩] csc p) env) (PE B P vars L ρ z Q) NoExc s := by
  rw [eval_ListComp]
  refine wpAny_comprehension_free (use := none) rfl (fun xx => rfl) (closure_none C.free) C.kind C.names ?_
  refine wpAny_Call_NameR (en_name V G S.c.bin h4 ?_)
  refine PySem.callWith_type (by rw [starEach_cons h7', backTo_cons]; rfl) ?_
  rw [starEach_cons h7', backTo_cons]
  refine spliced_all (by rfl) (spliced_cons (xi.then V R h6 h S fun v s₁ z₁ xv H₁ le₁ S₁ r₁ h₁ => spliced_nil ?_))
  obtain ⟨xs, rfl, hlen, hm⟩ := onLst_inv h₁
  refine enum_make S₁ r₁ fun e it l oi vs n h' hne hPe hPi hzl hrl hoi S₂ => ?_
  have ie := S₂.c.pin e (enumObj it 0 .none) (by rw [padd_ne hne, padd_self])
  refine wpAny_pyIter_enum ie.1 ?_
  refine comp_coreE (RR := fun acc C => compPost _ A NoExc none _ acc C) C C2 hxy V R S₂ hPe hPi hne hoi hzl hrl hlen (fun VV hh SS => xe.elt R h7 VV hh SS) hm ?_
  intro D K z' H' s' rs vs n oK m le hDK hPD hPK SK hnK hrs hl hq
  exact ⟨m, hnK, fun h' hs => comp_done le₁ le hDK hPD hPK SK hrs hl hlen hs hq⟩
theorem snd_ecomp {x y : Str} (G : GoodB B) (xe : SndE B T d a) (xi : SndE B T d b) : SndE B T d (.ecomp x y a b) := by
  intro e ρ H Q z P vars sc L env A s V R hc h S
  obtain ⟨q, hc⟩ := any_inv hc
  obtain ⟨g, hc⟩ := any_inv hc
  obtain ⟨t, hc⟩ := any_inv hc
  obtain ⟨n, hc⟩ := any_inv hc
  obtain ⟨n1, hc⟩ := any_inv hc
  obtain ⟨n2, hc⟩ := any_inv hc
  obtain ⟨c, hc⟩ := any_inv hc
  obtain ⟨en, hc⟩ := any_inv hc
  obtain ⟨it, hc⟩ := any_inv hc
  obtain ⟨hc, g11⟩ := ands hc
  obtain ⟨hc, g10⟩ := ands hc
  obtain ⟨hc, g9⟩ := ands hc
  obtain ⟨h0, h1, h2, h3, h4, h5, h6, h7⟩ := ands8 hc
  rw [q.2, g.2, t.2, n.2, n1.2, n2.2, c.2, en.2, it.2, nil_inv h0, beq_iff_eq.mp h1, beq_iff_eq.mp h2, beq_iff_eq.mp h3]
  exact ecomp_mid G xe xi V R h4 (nots h5) h6 h7 (compOk_ok g9) (compOk_ok g10) (bne_iff_ne.mp g11) h S
theorem Joins_mono {M : Model} {A : Around} {E : Value → Shared → Prop} {Q Q' : Str → Shared → Prop} : ∀ (l : List (Sem Value)) (acc : Str) (s : Shared), Joins M A E l acc Q s → (∀ o s, Q o s → Q' o s) → Joins M A E l acc Q' s
  | [], acc, s, h, hq => hq _ _ h
  | x :: r, acc, s, h, hq => wpAny_mono h (fun v s₁ hh => by obtain ⟨y, t, e, hl, h'⟩ := hh; exact ⟨y, t, e, hl, Joins_mono r _ _ h' hq⟩) (fun xx xx x => x)
theorem snd_fstr {fs : List (Option (List Nat) × Option ME)} (xs : SndF B T d fs) : SndE B T d (.fstr fs) := by
  intro e ρ H Q z P vars sc L env A s V R hc h S
  obtain ⟨⟨⟨x, p⟩, rfl⟩, hc⟩ := any_inv hc
  obtain ⟨h1, h2⟩ := ands hc
  have hF := xs _ _ _ _ _ _ _ _ _ _ _ _ _ _ V R h1 h ⟨by simp, by simp⟩ (zle.refl z) S
  cases x with
  | nil => cases h2
  | cons a r => cases r with
    | nil => cases h2
    | cons b r =>
      refine wpAny_JoinedStr (Joins_mono _ _ _ hF fun o s₁ hh => ?_)
      obtain ⟨z', out', H', le, S', h3, hs, hq⟩ := hh
      subst h3
      exact ⟨by rw [sOf_length, sizeLine_is]; exact hs.2, z', .str out', H', le, S'.toks (Nat.le_succ _), ⟨hs, _, rfl⟩, hq⟩
theorem snd_no (h : ∀ Q ρ H, ¬ vcE B T d m Q ρ H) : SndE B T d m := by
  intro e ρ H Q z P vars sc L env A s V R hc h' S
  exact (h _ _ _ h').elim

theorem snd_nil : SndL B T d [] := by
  intro xs pos ρ H Q z P vars sc L env A s V R hc h S
  cases nil_inv hc
  exact spliced_nil ⟨rfl, z, [], H, zle.refl z, S, rfl, h⟩
theorem snd_cons (xa : SndE B T d a) (xs : SndL B T d es) : SndL B T d (a :: es) := by
  intro xs' pos ρ H Q z P vars sc L env A s V R hc h S
  cases xs' with
  | nil => cases hc
  | cons e r =>
    obtain ⟨h1, h2, h3⟩ := ands3 hc
    rw [starEach_cons (nots h3), backTo_cons]
    exact spliced_cons (xa.then V R h1 h S fun v s₁ z₁ p H₁ le₁ S₁ r₁ h₁ => xs.then V R h2 h₁ S₁ fun vs s₂ z₂ ps H₂ hl le₂ S₂ r₂ hq =>
      ⟨congrArg (· + 1) hl, z₂, p :: ps, H₂, le₁.trans le₂, S₂, ⟨v, vs, rfl, r₁.mono le₂, r₂⟩, hq⟩)
theorem snd_on : SndO B T d none := by
  intro e ρ H Q z P vars sc L env A s V R hc h S
  cases isSome0_inv hc
  exact wpAny_pure ⟨z, .none, H, zle.refl z, S, rfl, h⟩
theorem snd_os (xa : SndE B T d a) : SndO B T d (some a) := by
  intro e ρ H Q z P vars sc L env A s V R hc h S
  obtain ⟨⟨e, rfl⟩, hc⟩ := any_inv hc
  exact xa _ _ _ _ _ _ _ _ _ _ _ _ V R hc h S
theorem snd_bnil : SndB B T d [] := by
  intro op xs pos ρ H Q z P vars sc L env A s V R hc h S
  exact h.elim
theorem snd_bcons (xa : SndE B T d a) (xs : SndB B T d es) : SndB B T d (a :: es) := by
  intro op xs' pos ρ H Q z P vars sc L env A s V R hc h S
  cases xs' with
  | nil => cases hc
  | cons e r =>
    obtain ⟨h1, h2, h3⟩ := ands3 hc
    cases es with
    | nil =>
      cases nil_inv h2
      exact xa _ _ _ _ _ _ _ _ _ _ _ _ V R h1 h S
    | cons m2 ms2 =>
      cases r with
      | nil => cases h2
      | cons e2 es2 =>
        show wpAny _ _ (do
          let v ← eval e env
          standAt pos
          let t ← holding [v] (truthy v)
          match op, t with
          | .And, false | .Or, true => pure v
          | _, _ => boolOp pos op (evalEach (e2 :: es2) env)) _ _ _
        cases op with
        | And =>
          refine wpAny_bind (xa.then (Q := kand (vcB B T d .And (m2 :: ms2)) Q ρ) V R h1 h S fun v s₁ z₁ x H₁ le₁ S₁ r₁ h₁ => wpAny_bind (wpAny_standAt (wpAny_bind (wpAny_holding (tr_ok h₁ r₁ fun c hq t ht => ?_)))))
          have := tst_of hq
          cases q : c.dec with
          | true => rw [q] at this; exact wpAny_mono (xs _ _ _ _ _ _ _ _ _ _ _ _ _ _ V R h2 this (S₁.toks ht)) (fun xx xx x => x.le le₁) (fun xx xx x => x)
          | false => rw [q] at this; exact wpAny_pure ⟨z₁, x, H₁, le₁, S₁.toks ht, r₁, this⟩
        | Or =>
          refine wpAny_bind (xa.then (Q := kor (vcB B T d .Or (m2 :: ms2)) Q ρ) V R h1 h S fun v s₁ z₁ x H₁ le₁ S₁ r₁ h₁ => wpAny_bind (wpAny_standAt (wpAny_bind (wpAny_holding (tr_ok h₁ r₁ fun c hq t ht => ?_)))))
          have := tst_of hq
          cases q : c.dec with
          | false => rw [q] at this; exact wpAny_mono (xs _ _ _ _ _ _ _ _ _ _ _ _ _ _ V R h2 this (S₁.toks ht)) (fun xx xx x => x.le le₁) (fun xx xx x => x)
          | true => rw [q] at this; exact wpAny_pure ⟨z₁, x, H₁, le₁, S₁.toks ht, r₁, this⟩
theorem snd_tbnil : SndTB B T d [] := by
  intro op xs ρ H Q z P vars sc L env A s V R hc h S
  cases nil_inv hc
  cases op with
  | And => exact wpAny_allTrue_And_nil ⟨z, H, dT, zle.refl z, S, rfl, h⟩
  | Or => exact wpAny_allTrue_Or_nil ⟨z, H, dF, zle.refl z, S, rfl, h⟩
theorem snd_tbcons (xa : SndT B T d a) (xs : SndTB B T d es) : SndTB B T d (a :: es) := by
  intro op xs' ρ H Q z P vars sc L env A s V R hc h S
  cases xs' with
  | nil => cases hc
  | cons e r =>
    obtain ⟨h1, h2, h3⟩ := ands3 hc
    cases op with
    | And =>
      refine wpAny_allTrue_And_cons (xa.then (Q := ktand (vcTB B T d .And es) Q ρ) V R h1 h S fun s₁ z₁ c H₁ le₁ S₁ hq => ?_)
      have := tst_of hq
      cases q : c.dec with
      | true => rw [q] at this; exact wpAny_mono (xs _ _ _ _ _ _ _ _ _ _ _ _ _ V R h2 this S₁) (fun xx xx x => x.le le₁) (fun xx xx x => x)
      | false => rw [q] at this; exact ⟨z₁, H₁, dF, le₁, S₁, rfl, this⟩
    | Or =>
      refine wpAny_allTrue_Or_cons (xa.then (Q := ktor (vcTB B T d .Or es) Q ρ) V R h1 h S fun s₁ z₁ c H₁ le₁ S₁ hq => ?_)
      have := tst_of hq
      cases q : c.dec with
      | false => rw [q] at this; exact wpAny_mono (xs _ _ _ _ _ _ _ _ _ _ _ _ _ V R h2 this S₁) (fun xx xx x => x.le le₁) (fun xx xx x => x)
      | true => rw [q] at this; exact ⟨z₁, H₁, dT, le₁, S₁, rfl, this⟩
theorem snd_fnil : SndF B T d [] := by
  intro xs out ρ H Q z₀ z P vars sc L env A s V R hc h ho le S
  cases nil_inv hc
  exact ⟨z, out, H, le, S, rfl, ho, h⟩
theorem snd_fs {str : List Nat} {o : Option ME} {fs : List (Option (List Nat) × Option ME)} (xs : SndF B T d fs) : SndF B T d ((some str, o) :: fs) := by
  intro xs' out ρ H Q z₀ z P vars sc L env A s V R hc h ho le S
  cases xs' with
  | nil => cases hc
  | cons e es =>
    obtain ⟨hc, c4⟩ := ands hc
    obtain ⟨⟨⟨c, k, p⟩, rfl⟩, hc⟩ := any_inv hc
    obtain ⟨⟨x, e1⟩, hc⟩ := any_inv hc
    dsimp only at e1
    subst e1
    refine const_ok (B := B) (z := z) (v := .str str) hc fun v t ht hv => ?_
    obtain ⟨hs, u, rfl⟩ := hv
    refine ⟨sOf str, u, rfl, by rw [sOf_append, sOf_length, sizeLine_is, List.length_append]; exact h.1, ?_⟩
    rw [sOf_append]
    exact xs _ _ _ _ _ _ _ _ _ _ _ _ _ _ V R c4 h.2 (sok_append ho hs h.1) le (S.toks ht)
theorem snd_fe {fs : List (Option (List Nat) × Option ME)} (xa : SndE B T d a) (xs : SndF B T d fs) : SndF B T d ((none, some a) :: fs) := by
  intro xs' out ρ H Q z₀ z P vars sc L env A s V R hc h ho le S
  cases xs' with
  | nil => cases hc
  | cons e es =>
    obtain ⟨hc, c2⟩ := ands hc
    obtain ⟨⟨⟨x, cv, fsp, p⟩, rfl⟩, hc⟩ := any_inv hc
    obtain ⟨h0, h1, c1⟩ := ands3 hc
    cases beq_iff_eq.mp h0
    cases isSome0_inv h1
    refine wpAny_FormattedValue_plain (xa.then V R c1 h S fun v s₁ z₁ pv H₁ le₁ S₁ r₁ h₁ => ?_)
    obtain ⟨str, rfl, hl, hq⟩ := onStr_inv h₁
    obtain ⟨hs, u, rfl⟩ := r₁
    have key : ∀ t u, s₁.toks ≤ t → ∃ y t', Value.str (sOf str) u = .str y t' ∧ (sOf out ++ y).length ≤ sizeLine ∧
        Joins (model B.prog B.w) A NoExc (evalEach es env) (sOf out ++ y) (fun o s₁ => ∃ z' out' H', zle z₀ z' ∧ St B z' P vars L ρ H' s₁ ∧ o = sOf out' ∧ sok out' ∧ Q (.str out') H') { s₁ with toks := t } := by
      intro t u ht
      refine ⟨sOf str, u, rfl, by rw [sOf_append, sOf_length, sizeLine_is, List.length_append]; exact hl, ?_⟩
      rw [sOf_append]
      exact xs _ _ _ _ _ _ _ _ _ _ _ _ _ _ V R c2 hq (sok_append ho hs hl) (le.trans le₁) (S₁.toks ht)
    exact wpAny_formatField_str (key s₁.toks u (Nat.le_refl _)) (key _ _ (Nat.le_succ _)) (by rw [sOf_length, sizeLine_is]; exact hs.2)
theorem snd_fno {fs : List (Option (List Nat) × Option ME)} : SndF B T d ((none, none) :: fs) := by
  intro xs' out ρ H Q z₀ z P vars sc L env A s V R hc h ho le S
  exact h.elim

theorem snd_tval (he : ∀ {sc vars e}, chkE m sc vars e = true → ∀ env, isTrue e env (eval e env) = (do let v ← eval e env; standAt e.pos; holding [v] (truthy v)))
    (hv : ∀ {Q ρ H}, vcT B T d m Q ρ H → vcE B T d m (ktv Q) ρ H) (x : SndE B T d m) : SndT B T d m := by
  intro e ρ H Q z P vars sc L env A s V R hc h S
  exact wpAny_isTrue_value (x.then V R hc (hv h) S fun v s₁ z₁ p H₁ le₁ S₁ r₁ hq => tr_ok hq r₁ fun c hc t ht => ⟨z₁, H₁, c, le₁, S₁.toks ht, rfl, hc⟩) (he hc env)
theorem sndt_nt (xa : SndT B T d a) : SndT B T d (.nt a) := by
  intro e ρ H Q z P vars sc L env A s V R hc h S
  obtain ⟨⟨⟨o, x, p⟩, rfl⟩, hc⟩ := any_inv hc
  obtain ⟨h0, h1⟩ := ands hc
  cases o <;> first | (cases h0; done) | skip
  refine wpAny_isTrue_Not (xa.then V R h1 h S fun s₁ z₁ c H₁ le₁ S₁ hq => ?_)
  exact ⟨z₁, H₁, c.not, le₁, S₁, @decide_not c.p c.i (@instDecidableNot c.p c.i), hq⟩
theorem sndt_bop {op : BoolOp} (xs : SndTB B T d es) : SndT B T d (.bop op es) := by
  intro e ρ H Q z P vars sc L env A s V R hc h S
  obtain ⟨⟨⟨o, x, p⟩, rfl⟩, hc⟩ := any_inv hc
  obtain ⟨h0, h1⟩ := ands hc
  cases beq_iff_eq.mp h0
  exact wpAny_isTrue_BoolOp (xs _ _ _ _ _ _ _ _ _ _ _ _ _ V R h1 h S)
theorem sndt_cmp {op : CmpOp} (xa : SndE B T d a) (xb : SndE B T d b) : SndT B T d (.cmp op a b) := by
  intro e ρ H Q z P vars sc L env A s V R hc h S
  obtain ⟨q, hc⟩ := any_inv hc
  obtain ⟨o, hc⟩ := any_inv hc
  obtain ⟨r, hc⟩ := any_inv hc
  obtain ⟨h0, h1, h2, h3⟩ := ands4 hc
  have h3 := nots h3
  rw [beq_iff_eq.mp h0] at h3
  rw [q.2, o.2, r.2, beq_iff_eq.mp h0]
  exact wpAny_isTrue_Compare1 (xa.then V R h1 h S fun va s₁ z₁ x H₁ le₁ S₁ r₁ h₁ => xb.then V R h2 h₁ S₁ fun vb s₂ z₂ y H₂ le₂ S₂ r₂ h₂ =>
    cmpK_ok h₂ (r₁.mono le₂) r₂ S₂.zi R fun c hq t ht => wpAny_truthy_bool ⟨z₂, H₂, c, le₁.trans le₂, S₂.toks ht, rfl, hq⟩) h3
theorem sndt_cmp2 {o1 o2 : CmpOp} (xa : SndE B T d a) (xb : SndE B T d b) (xc : SndE B T d c) : SndT B T d (.cmp2 o1 o2 a b c) := by
  intro e ρ H Q z P vars sc L env A s V R hc h S
  obtain ⟨q, hc⟩ := any_inv hc
  obtain ⟨o, hc⟩ := any_inv hc
  obtain ⟨r, hc⟩ := any_inv hc
  obtain ⟨h0, h0', h1, h2, h3, h4⟩ := ands6 hc
  have h4 := nots h4
  rw [beq_iff_eq.mp h0'] at h4
  rw [q.2, o.2, r.2, beq_iff_eq.mp h0, beq_iff_eq.mp h0']
  refine testChain2 h4 (xa.then V R h1 h S fun va s₁ z₁ x H₁ le₁ S₁ r₁ h₁ => xb.then V R h2 h₁ S₁ fun vb s₂ z₂ y H₂ le₂ S₂ r₂ h₂ =>
    cmpK_ok h₂ (r₁.mono le₂) r₂ S₂.zi R fun c hq t ht => wpAny_truthy_bool ?_)
  have := tst_of hq
  cases q : c.dec with
  | false => rw [q] at this; exact ⟨z₂, H₂, dF, le₁.trans le₂, S₂.toks ht, rfl, this⟩
  | true =>
    rw [q] at this
    exact xc.then V R h3 this (S₂.toks ht) fun vc s₃ z₃ u H₃ le₃ S₃ r₃ h₃ => cmpK_ok h₃ (r₂.mono le₃) r₃ S₃.zi R fun c' hq' t ht => wpAny_truthy_bool ⟨z₃, H₃, c', (le₁.trans le₂).trans le₃, S₃.toks ht, rfl, hq'⟩
theorem sndt_no (h : ∀ Q ρ H, ¬ vcT B T d m Q ρ H) : SndT B T d m := by
  intro e ρ H Q z P vars sc L env A s V R hc h' S
  exact (h _ _ _ h').elim
theorem he_const {v : PV} {sc vars e} (hc : chkE (.const v) sc vars e = true) (env : Env) : isTrue e env (eval e env) = (do let v ← eval e env; standAt e.pos; holding [v] (truthy v)) := by
  obtain ⟨⟨⟨c, k, p⟩, rfl⟩, hc⟩ := any_inv hc; rfl
theorem he_var {i : Nat} {sc vars e} (hc : chkE (.var i) sc vars e = true) (env : Env) : isTrue e env (eval e env) = (do let v ← eval e env; standAt e.pos; holding [v] (truthy v)) := by
  obtain ⟨⟨⟨c, k⟩, rfl⟩, hc⟩ := any_inv hc; rfl
theorem he_bin {op a b} {sc vars e} (hc : chkE (.bin op a b) sc vars e = true) (env : Env) : isTrue e env (eval e env) = (do let v ← eval e env; standAt e.pos; holding [v] (truthy v)) := by
  obtain ⟨⟨⟨c, k, x, y⟩, rfl⟩, hc⟩ := any_inv hc; rfl
theorem he_call {n es} {sc vars e} (hc : chkE (.call n es) sc vars e = true) (env : Env) : isTrue e env (eval e env) = (do let v ← eval e env; standAt e.pos; holding [v] (truthy v)) := by
  obtain ⟨⟨⟨c, k, x, y⟩, rfl⟩, hc⟩ := any_inv hc; rfl
theorem he_meth {n a es} {sc vars e} (hc : chkE (.meth n a es) sc vars e = true) (env : Env) : isTrue e env (eval e env) = (do let v ← eval e env; standAt e.pos; holding [v] (truthy v)) := by
  obtain ⟨⟨⟨c, k, x, y⟩, rfl⟩, hc⟩ := any_inv hc; rfl

mutual
theorem soundE (G : GoodB B) (GT : GoodT B T) : ∀ m : ME, SndE B T d m ∧ SndT B T d m
  | .const _ => ⟨snd_const, snd_tval he_const id snd_const⟩
  | .var _ => ⟨snd_var, snd_tval he_var id snd_var⟩
  | .glob _ _ => ⟨snd_glob G, sndt_no fun xx xx xx h => h⟩
  | .bin _ a b => let x := snd_bin (soundE G GT a).1 (soundE G GT b).1; ⟨x, snd_tval he_bin id x⟩
  | .neg a => ⟨snd_neg (soundE G GT a).1, sndt_no fun xx xx xx h => h⟩
  | .nt a => ⟨snd_nt (soundE G GT a).1, sndt_nt (soundE G GT a).2⟩
  | .bop _ es => ⟨snd_bop (soundEs G GT es).2.1, sndt_bop (soundEs G GT es).2.2⟩
  | .cmp _ a b => ⟨snd_cmp (soundE G GT a).1 (soundE G GT b).1, sndt_cmp (soundE G GT a).1 (soundE G GT b).1⟩
  | .cmp2 _ _ a b c => ⟨snd_no fun xx xx xx h => h, sndt_cmp2 (soundE G GT a).1 (soundE G GT b).1 (soundE G GT c).1⟩
  | .ife t a b => ⟨snd_ife (soundE G GT t).2 (soundE G GT a).1 (soundE G GT b).1, sndt_no fun xx xx xx h => h⟩
  | .tup es => ⟨snd_tup (soundEs G GT es).1, sndt_no fun xx xx xx h => h⟩
  | .lst es => ⟨snd_lst (soundEs G GT es).1, sndt_no fun xx xx xx h => h⟩
  | .mlst es => ⟨snd_mlst (soundEs G GT es).1, sndt_no fun xx xx xx h => h⟩
  | .dct _ _ => ⟨snd_dct G, sndt_no fun xx xx xx h => h⟩
  | .idx a b => ⟨snd_idx (soundE G GT a).1 (soundE G GT b).1, sndt_no fun xx xx xx h => h⟩
  | .slc a lo hi => ⟨snd_slc (soundE G GT a).1 (soundO G GT lo) (soundO G GT hi), sndt_no fun xx xx xx h => h⟩
  | .attr a _ => ⟨snd_attr GT (soundE G GT a).1, sndt_no fun xx xx xx h => h⟩
  | .call _ es => let x := snd_call G (soundEs G GT es).1; ⟨x, snd_tval he_call id x⟩
  | .scall _ _ es => ⟨snd_scall G GT (soundEs G GT es).1, sndt_no fun xx xx xx h => h⟩
  | .bi _ es => ⟨snd_bi G (soundEs G GT es).1, sndt_no fun xx xx xx h => h⟩
  | .meth _ a es => let x := snd_meth (soundE G GT a).1 (soundEs G GT es).1; ⟨x, snd_tval he_meth id x⟩
  | .repl a _ _ => ⟨snd_repl (soundE G GT a).1, sndt_no fun xx xx xx h => h⟩
  | .app a b => ⟨snd_app (soundE G GT a).1 (soundE G GT b).1, sndt_no fun xx xx xx h => h⟩
  | .pop _ => ⟨snd_no fun xx xx xx h => h, sndt_no fun xx xx xx h => h⟩
  | .frz a => ⟨snd_frz (soundE G GT a).1, sndt_no fun xx xx xx h => h⟩
  | .comp _ a b => ⟨snd_comp (soundE G GT a).1 (soundE G GT b).1, sndt_no fun xx xx xx h => h⟩
  | .ecomp _ _ a b => ⟨snd_ecomp G (soundE G GT a).1 (soundE G GT b).1, sndt_no fun xx xx xx h => h⟩
  | .genjoin .. => ⟨snd_no fun xx xx xx h => h, sndt_no fun xx xx xx h => h⟩
  | .fstr fs => ⟨snd_fstr (soundF G GT fs), sndt_no fun xx xx xx h => h⟩
  | .bad => ⟨snd_no fun xx xx xx h => h, sndt_no fun xx xx xx h => h⟩
theorem soundEs (G : GoodB B) (GT : GoodT B T) : ∀ ms : List ME, SndL B T d ms ∧ SndB B T d ms ∧ SndTB B T d ms
  | [] => ⟨snd_nil, snd_bnil, snd_tbnil⟩
  | m :: ms => ⟨snd_cons (soundE G GT m).1 (soundEs G GT ms).1, snd_bcons (soundE G GT m).1 (soundEs G GT ms).2.1, snd_tbcons (soundE G GT m).2 (soundEs G GT ms).2.2⟩
theorem soundO (G : GoodB B) (GT : GoodT B T) : ∀ m : Option ME, SndO B T d m
  | none => snd_on
  | some m => snd_os (soundE G GT m).1
theorem soundF (G : GoodB B) (GT : GoodT B T) : ∀ es : List (Option (List Nat) × Option ME), SndF B T d es
  | [] => snd_fnil
  | (some _, _) :: r => snd_fs (soundF G GT r)
  | (none, some m) :: r => snd_fe (soundE G GT m).1 (soundF G GT r)
  | (none, none) :: _ => snd_fno
end
end
end Mine
end

section
set_option tactic.hygienic false
set_option maxRecDepth 100000
set_option genInjectivity false
set_option genSizeOf false
namespace Mine
open PySem PySem.W PySem.Calls PyProof.Rows PySem.Builtin PySem.Builtin.Str PySem.NumText

theorem swaps_false {e : Expr} {t : Option Expr} {l : Nat} {env : Env} (h : isComp e = false) : swapsWith e t l env = pure false := by
  cases e <;> first | rfl | cases h
theorem swapped_none {ts : List Expr} {x} {p : Pos} {e : Expr} {env : Env} (h : isTup e = false) : swappedStores [.Tuple ts x p] e env = pure none := by
  cases e <;> first | rfl | cases h
theorem sole_false {e t : Expr} {l : Nat} {env : Env} (h : isComp e = false) : swapsWithSole [t] e l env = pure false := by
  rw [show swapsWithSole [t] e l env = swapsWith e (some t) l env from rfl]; exact swaps_false h
theorem RepOL.append {B : Base} {z : PH} : ∀ {ps qs : List (Option PV)} {vs us : List (Option Value)}, RepOL B z ps vs → RepOL B z qs us → RepOL B z (ps ++ qs) (vs ++ us)
  | [], _, _, _, r, r' => by cases r; exact r'
  | _ :: _, _, _, _, ⟨v, vs, h1, h2, h3⟩, r' => by subst h1; exact ⟨v, _, rfl, h2, RepOL.append h3 r'⟩
theorem RepOL.nones {B : Base} {z : PH} : ∀ n, RepOL B z (List.replicate n none) (List.replicate n none)
  | 0 => rfl
  | n + 1 => ⟨none, _, rfl, rfl, RepOL.nones n⟩
theorem RepOL.length {B : Base} {z : PH} : ∀ {ps : List (Option PV)} {vs : List (Option Value)}, RepOL B z ps vs → vs.length = ps.length
  | [], _, r => by cases r; rfl
  | _ :: _, _, ⟨v, vs, h1, h2, h3⟩ => by subst h1; simp [RepOL.length h3]
theorem RepOL.set {B : Base} {z : PH} {p : PV} {v : Value} (hr : Rep B z p v) : ∀ {ps : List (Option PV)} {vs : List (Option Value)} {i : Nat}, RepOL B z ps vs → RepOL B z (ps.set i (some p)) (vs.set i (some v))
  | [], _, _, r => by cases r; rfl
  | _ :: _, _, 0, ⟨v, vs, h1, h2, h3⟩ => by subst h1; exact ⟨_, vs, rfl, ⟨_, rfl, hr⟩, h3⟩
  | _ :: _, _, i + 1, ⟨v, vs, h1, h2, h3⟩ => by subst h1; exact ⟨_, _, rfl, h2, RepOL.set hr h3⟩
theorem slotSet_ok {B : Base} {z : PH} {fs : List (Option PV)} {sl : Array (Option Value)} {i : Nat} {p : PV} {v : Value} (h : RepOL B z fs sl.toList) (hr : Rep B z p v) :
    RepOL B z (slotSet fs i p) ((sl ++ Array.replicate (i + 1 - sl.size) none).setIfInBounds i (some v)).toList := by
  have hl := h.length
  rw [Array.length_toList] at hl
  unfold slotSet
  rw [Array.toList_setIfInBounds, Array.toList_append, Array.toList_replicate, hl]
  exact (h.append (RepOL.nones _)).set hr

theorem St.changeOwnL {B : Base} {z P : PH} {vars : List Str} {L : Addr} {ρ : Loc} {H : AH} {s : Shared} (S : St B z P vars L ρ H s) {a : Addr} {h' : Heap} {t : Nat} {o : Obj} {x y : AO} {m : Str → Option Value} (ht : s.toks ≤ t)
    (hs : ∀ b o, b ≠ a → b ≠ L → s.heap.get? b = some o → h'.get? b = some o) (hx : H a = some y) (ho : h'.get? a = some o) (hns : h'.Ns L m) (hm : LocRep B z vars ρ m) (hr : ORep B z o x) (hy : NoTbl (some y)) :
    St B z P vars L ρ (H.upd a x) { s with heap := h', toks := t } := by
  have hz := (S.c.hin a y hx).1
  have hp : P a = none := by
    cases h : P a with
    | none => rfl
    | some o => have := (S.c.pin a o h).2.2; rw [hx] at this; cases this
  have hl : L ≠ a := by rintro rfl; rw [S.lh] at hx; cases hx
  refine ⟨⟨S.c.base, fun b o' e => ?_, fun b o' e => ?_, fun b x' e => ?_, S.c.os, S.c.gens, ⟨Nat.lt_of_lt_of_le S.c.tk.1 ht, S.c.tk.2.upd (by rw [hx]; exact hy)⟩⟩, S.lz, S.lp, by unfold AH.upd; rw [if_neg hl]; exact S.lh, m, hns, hm⟩
  · exact hs b o' (by rintro rfl; rw [hz] at e; cases e) (by rintro rfl; rw [S.lz] at e; cases e) (S.c.zin b o' e)
  · obtain ⟨a1, a2, a3⟩ := S.c.pin b o' e
    have hb : b ≠ a := by rintro rfl; rw [hp] at e; cases e
    exact ⟨hs b o' hb (by rintro rfl; rw [S.lp] at e; cases e) a1, a2, by unfold AH.upd; rw [if_neg hb]; exact a3⟩
  · unfold AH.upd at e; split at e
    · rename_i q; subst q; cases e; exact ⟨hz, o, ho, hr⟩
    · rename_i q
      obtain ⟨a1, oo, a2, a3⟩ := S.c.hin b x' e
      exact ⟨a1, oo, hs b _ q (by rintro rfl; rw [S.lh] at e; cases e) a2, a3⟩

noncomputable def MFRep (B : Base) (z : PH) : MF → Flow → Prop
  | .next, f => f = .next
  | .brk, f => f = .brk
  | .cont, f => f = .cont
  | .ret v, f => ∃ x, f = .ret x ∧ Rep B z v x
theorem MFRep.mono {B : Base} {z z' : PH} (h : zle z z') : ∀ {m : MF} {f : Flow}, MFRep B z m f → MFRep B z' m f
  | .next, _, r => r
  | .brk, _, r => r
  | .cont, _, r => r
  | .ret _, _, ⟨x, a, b⟩ => ⟨x, a, b.mono h⟩

noncomputable def PS (B : Base) (P : PH) (vars : List Str) (L : Addr) (z : PH) (Q : MF → Loc → AH → Prop) : Flow → Shared → Prop :=
  fun f s' => ∃ z' m ρ' H', zle z z' ∧ St B z' P vars L ρ' H' s' ∧ MFRep B z' m f ∧ Q m ρ' H'
theorem PS.le {B : Base} {z z' P : PH} {vars : List Str} {L : Addr} {s : Shared} {Q : MF → Loc → AH → Prop} {v : Flow} (h : zle z z') (x : PS B P vars L z' Q v s) : PS B P vars L z Q v s :=
  by obtain ⟨a, p, r, H, h1, h2⟩ := x; exact ⟨a, p, r, H, h.trans h1, h2⟩


section
variable (B : Base) (T : Tab) (d : Nat)
noncomputable def SndS (m : MS) : Prop := ∀ (st : Stmt) (ρ : Loc) (H : AH) (Q : KS) (z P : PH) (vars : List Str) (sc : Scope) (L : Addr) (env : Env) (A : Around) (s : Shared),
  EnvOK env vars sc L → Room d A → chkS m sc vars st = true → vcS B T d m Q ρ H → St B z P vars L ρ H s → wpAny (model B.prog B.w) A (exec st env) (PS B P vars L z Q) NoExc s
noncomputable def SndSs (ms : List MS) : Prop := ∀ (sts : List Stmt) (ρ : Loc) (H : AH) (Q : KS) (z P : PH) (vars : List Str) (sc : Scope) (L : Addr) (env : Env) (A : Around) (s : Shared),
  EnvOK env vars sc L → Room d A → chkSs ms sc vars sts = true → vcSs B T d ms Q ρ H → St B z P vars L ρ H s → wpAny (model B.prog B.w) A (execs sts env) (PS B P vars L z Q) NoExc s
end

section
variable {B : Base} {T : Tab} {d : Nat} {z z₀ P : PH} {vars : List Str} {L : Addr} {ρ : Loc} {H : AH} {s : Shared} {A : Around} {env : Env} {sc : Scope} {m a b c : ME} {ss ss' : List MS} {e : Expr} {E : Value → Shared → Prop} {Q : KS}

theorem SndSs.then (x : SndSs B T d ss) {sts : List Stmt} {Q' : Flow → Shared → Prop} (V : EnvOK env vars sc L) (R : Room d A) (hc : chkSs ss sc vars sts = true) (h : vcSs B T d ss Q ρ H) (S : St B z P vars L ρ H s)
    (k : ∀ f s₁ z₁ m ρ₁ H₁, zle z z₁ → St B z₁ P vars L ρ₁ H₁ s₁ → MFRep B z₁ m f → Q m ρ₁ H₁ → Q' f s₁) : wpAny (model B.prog B.w) A (execs sts env) Q' E s :=
  wpAny_mono (x sts ρ H Q z P vars sc L env A s V R hc h S) (fun v s₁ hh => by obtain ⟨z₁, m, p, H₁, a, b, c, q⟩ := hh; exact k v s₁ z₁ m p H₁ a b c q) (fun xx xx x => x.elim)
theorem SndSs.out (x : SndSs B T d ss) {sts : List Stmt} (V : EnvOK env vars sc L) (R : Room d A) (hc : chkSs ss sc vars sts = true) (h : vcSs B T d ss Q ρ H) (S : St B z P vars L ρ H s) (le : zle z₀ z) : wpAny (model B.prog B.w) A (execs sts env) (PS B P vars L z₀ Q) E s :=
  x.then V R hc h S fun xx xx z₁ m p H₁ a b c q => ⟨z₁, m, p, H₁, le.trans a, b, c, q⟩

theorem targets_ok : ∀ {is : List Nat} {ts : List Expr} {vs : List PV} {xs : List Value} {ρ : Loc} {s : Shared},
    EnvOK env vars sc L → targets vars is ts = true → vs.length = is.length → RepL B z vs xs → St B z P vars L ρ H s → Q .next (setMany is vs ρ) H →
    wpAny (model B.prog B.w) A (assignInOrder ((assignEach ts env).map (·.2)) xs) (fun xx => PS B P vars L z Q .next) NoExc s
  | [], ts, [], xs, ρ, s, V, hc, hl, hr, S, hq => by
    cases hr
    cases nil_inv hc
    exact wpAny_assignInOrder_none ⟨z, .next, ρ, H, zle.refl z, S, rfl, hq⟩
  | [], _, _ :: _, _, _, _, _, _, hl, _, _, _ => by cases hl
  | _ :: _, _, [], _, _, _, _, _, hl, _, _, _ => by cases hl
  | _ :: _, [], _ :: _, _, _, _, _, hc, _, _, _, _ => by cases hc
  | i :: is, t :: r, v :: vs, xs, ρ, s, V, hc, hl, hr, S, hq => by
    obtain ⟨x, xs, rfl, rx, hr⟩ := hr
    obtain ⟨h1, h2⟩ := ands hc
    obtain ⟨⟨⟨n, p⟩, rfl⟩, h1⟩ := any_inv h1
    exact wpAny_assignInOrder_more (wpAny_assign_Name (store_ok V S h1 rx fun h' S' => targets_ok V h2 (Nat.succ.inj hl) hr S' hq))
theorem assignEach_len : ∀ {is : List Nat} {ts : List Expr}, targets vars is ts = true → (assignEach ts env).length = is.length ∧ (assignEach ts env).findIdx? (·.1) = none
  | [], ts, h => by cases nil_inv h; exact ⟨rfl, rfl⟩
  | _ :: _, [], h => by cases h
  | i :: is, t :: r, h => by
    obtain ⟨h1, h2⟩ := ands h
    obtain ⟨⟨⟨n, p⟩, rfl⟩, _⟩ := any_inv h1
    obtain ⟨a, b⟩ := assignEach_len h2
    refine ⟨congrArg (· + 1) a, ?_⟩
    show ((false, _) :: assignEach r env).findIdx? _ = none
    rw [List.findIdx?_cons]; simp only [b]; rfl

theorem snd_asg {i : Nat} (xa : SndE B T d a) : SndS B T d (.asg i a) := by
  intro st ρ H Q z P vars sc L env A s V R hc h S
  obtain ⟨⟨⟨ts, e, p⟩, rfl⟩, hc⟩ := any_inv hc
  obtain ⟨⟨t, e1⟩, hc⟩ := any_inv hc
  obtain ⟨⟨⟨n, p'⟩, e2⟩, hc⟩ := any_inv hc
  dsimp only at e1 e2
  subst e2; subst e1
  obtain ⟨h1, h2, h3⟩ := ands3 hc
  exact wpAny_Assign_Name (xa.then V R h2 h S fun v s₁ z₁ x H₁ le₁ S₁ r₁ hq => store_ok V S₁ h1 r₁ fun h' S' => ⟨z₁, .next, _, H₁, le₁, S', rfl, hq⟩) (swaps_false (nots h3))
theorem asg2_core {i j : Nat} {e : Expr} {n n' : Str} {p p' p'' : Pos} {z P : PH} {vars : List Str} {sc : Scope} {L : Addr} {env : Env} {A : Around} {s : Shared} {ρ : Loc} {H : AH} {Q : KS} (xa : SndE B T d a) (V : EnvOK env vars sc L) (R : Room d A) (h1 : locOk vars i n = true) (h2 : locOk vars j n' = true) (h3 : chkE a sc vars e = true)
    (h : vcS B T d (.asg2 i j a) Q ρ H) (S : St B z P vars L ρ H s) : wpAny (model B.prog B.w) A (exec (.Assign [.Name n p', .Name n' p''] e p) env) (PS B P vars L z Q) NoExc s :=
  wpAny_Assign_two (xa.then V R h3 h S fun v s₁ z₁ x H₁ le₁ S₁ r₁ hq => wpAny_assign_Name (store_ok V S₁ h1 r₁ fun h' S' =>
    wpAny_assign_Name (store_ok V S' h2 r₁ fun h' S' => ⟨z₁, .next, _, H₁, le₁, S', rfl, hq⟩)))
theorem snd_asg2 {i j : Nat} (xa : SndE B T d a) : SndS B T d (.asg2 i j a) := by
  intro st ρ H Q z P vars sc L env A s V R hc h S
  obtain ⟨q, hc⟩ := any_inv hc
  obtain ⟨t, hc⟩ := any_inv hc
  obtain ⟨n, hc⟩ := any_inv hc
  obtain ⟨n', hc⟩ := any_inv hc
  obtain ⟨h1, h2, h3, h4⟩ := ands4 hc
  rw [q.2, t.2, n.2, n'.2]
  exact asg2_core xa V R h1 h2 h3 h S
theorem asgc_core {i : Nat} {x id : Str} {el it : Expr} {p p' cpp pos : Pos} {csc : Scope} (xe : SndE B T d a) (xi : SndE B T d b) (V : EnvOK env vars sc L) (R : Room d A) (S : St B z P vars L ρ H s)
    (h : vcS B T d (.asgc i x a b) Q ρ H) (h0 : locOk vars i id = true) (h1 : chkE b sc vars it = true) (h2 : chkE a csc [x] el = true) (C : CompOK csc x) (h4 : isSet it = false)
    (h5 : (p.line == cpp.line) = true) (h6 : csc.names.any (fun y => y.1 == id && (y.2 == .local || y.2 == .cell)) = false) :
    wpAny (model B.prog B.w) A (exec (.Assign [.Name id p] (.ListComp el [⟨.Name x p', it, [], 0⟩] csc cpp) pos) env) (PS B P vars L z Q) NoExc s := by
  have hm : id ∈ vars := List.mem_of_getElem? (beq_iff_eq.mp h0)
  have hsw : ∀ {e : Expr} {g}, swapsWith (.ListComp e g csc cpp) (some (.Name id p)) pos.line env = pure true := by
    intro e g
    show pure _ = pure true
    congr 1
    unfold Env.blockKind
    rw [V.scope_kind, V.local hm]
    simp only [Bool.and_eq_true, Bool.not_eq_true', beq_iff_eq]
    exact ⟨⟨⟨by first | trivial | rfl, by first | trivial | rfl⟩, beq_iff_eq.mp h5⟩, h6⟩
  rw [exec_Assign_Name_used _ _ _ _ hsw]
  refine wpAny_bind (wpAny_standAt (wpAny_bind ?_))
  show wpAny _ A (do let _ ← comprehension _ csc env _ (newList []) false (eval it env) (some (assign (.Name id p) env))) _ _ s
  refine wpAny_bind (wpAny_mono (wpAny_comprehension_free (E := NoExc) (use := some (assign (.Name id p) env)) (Q := fun xx s' => PS B P vars L z Q .next s') rfl (not_set h4) (closure_none C.free) C.kind C.names
    (xi.then V R h1 h S fun v s₁ z₁ xv H₁ le₁ S₁ r₁ h₁ => ?_)) (fun xx s' hq => wpAny_pure (wpAny_pure hq)) (fun xx xx => no _ _))
  obtain ⟨xs, hxs, hlen, hm⟩ := h₁
  refine iter_make hxs r₁ S₁.zi S₁.c.zfresh fun o stt hf IT hst => ?_
  refine comp_core (RR := fun acc C => compPost _ A NoExc (some (assign (.Name id p) env)) (fun xx s' => PS B P vars L z Q .next s') acc C) C V R IT (S₁.pushPin hf) S₁.c.pfresh hst hlen (fun VV hh SS => xe.elt R h2 VV hh SS) hm ?_
  intro D K z' H' s' rs vs n oK m le hDK hPD hPK SK hnK hrs hl hq
  show wpAny _ A (assign (.Name id p) env (.ref D)) _ _ _
  have hK := SK.c.pin K oK (padd_self ..)
  rw [padd_comm hDK] at SK
  have hD := SK.c.pin D _ (padd_self ..)
  have hPD' : padd P K oK D = none := by rw [padd_ne hDK]; exact hPD
  have S4 := SK.unpin (h' := s'.heap) (t := s'.toks) hPD' (Nat.le_refl _) (fun xx xx xx e => e)
  have hne : D ≠ L := by rintro rfl; have := SK.lp; rw [padd_self] at this; cases this
  have hsz : vs.size ≤ sizeLine := by
    have := hrs.length
    rw [Array.length_toList] at this
    rw [sizeLine_is]; omega
  have S5 := S4.freeze hD.1 hD.2.1 hPD' hD.2.2 hne
  refine wpAny_assign_Name (store_ok (v := .lst rs) V S5 h0 ⟨D, n, vs, rfl, zadd_self _ _ _, hrs.mono (zadd_le hD.2.1), hsz⟩ fun h' S6 => ?_)
  have hK6 := S6.c.pin K oK (padd_self ..)
  refine ⟨m, hnK.at' fun o e => by rw [hK.1] at e; cases e; exact hK6.1, fun h'' hs => ?_⟩
  exact ⟨_, .next, _, H', le₁.trans (le.trans (zadd_le hD.2.1)), S6.unpin hPK (Nat.le_refl _) hs.extBut, rfl, hq⟩
theorem snd_asgc {i : Nat} {x : Str} (xe : SndE B T d a) (xi : SndE B T d b) : SndS B T d (.asgc i x a b) := by
  intro st ρ H Q z P vars sc L env A s V R hc h S
  obtain ⟨q, hc⟩ := any_inv hc
  obtain ⟨t, hc⟩ := any_inv hc
  obtain ⟨n, hc⟩ := any_inv hc
  obtain ⟨l, hc⟩ := any_inv hc
  obtain ⟨g, hc⟩ := any_inv hc
  obtain ⟨c, hc⟩ := any_inv hc
  obtain ⟨h0, h1, h2, h3, h4, h5, h6, h7⟩ := ands8 hc
  rw [q.2, t.2, n.2, l.2, g.2, c.2, beq_iff_eq.mp h1]
  exact asgc_core xe xi V R S h h0 h2 h3 (compOk_ok h4) (nots h5) h6 (nots h7)
theorem snd_unp {is : List Nat} (xa : SndE B T d a) : SndS B T d (.unp is a) := by
  intro st ρ H Q z P vars sc L env A s V R hc h S
  obtain ⟨⟨⟨ts, e, p⟩, rfl⟩, hc⟩ := any_inv hc
  obtain ⟨⟨t, e1⟩, hc⟩ := any_inv hc
  obtain ⟨⟨⟨n', k', p'⟩, e2⟩, hc⟩ := any_inv hc
  dsimp only at e1 e2
  subst e2; subst e1
  obtain ⟨h1, h2, h3, h4, h5⟩ := ands5 hc
  refine wpAny_Assign_stores (xa.then V R h2 h S fun v s₁ z₁ x H₁ le₁ S₁ r₁ h₁ => ?_) (sole_false (nots h3)) (swapped_none (nots h4))
  obtain ⟨vs, rfl, hl, hq⟩ := onTup_inv h₁
  obtain ⟨a, n, xs, rfl, hz, hr, hsz⟩ := r₁
  show wpAny _ _ (assign (.Tuple n' k' p') env (.ref a)) _ _ _
  obtain ⟨l1, l2⟩ := assignEach_len (env := env) h1
  refine wpAny_assign_Tuple (items := xs) R.h ⟨_, S₁.c.zin _ _ hz, rfl, n, rfl⟩ ?_ l2 fun h' hx => ?_
  · rw [l1, ← hl]; have := hr.length; rwa [Array.length_toList, eq_comm] at this
  · exact wpAny_mono (targets_ok V h1 hl hr (S₁.keeps (Nat.le_refl _) fun b o e => hx b o (Nat.ne_of_lt (Heap.lt_size e)) e) hq) (fun xx xx x => x.le le₁) (fun xx xx => no _ _)
theorem aug_core {i : Nat} {op : Operator} {e : Expr} {n : Str} {p p' : Pos} {z P : PH} {vars : List Str} {sc : Scope} {L : Addr} {env : Env} {A : Around} {s : Shared} {ρ : Loc} {H : AH} {Q : KS} (xa : SndE B T d a) (V : EnvOK env vars sc L) (R : Room d A) (h1 : locOk vars i n = true) (h2 : chkE a sc vars e = true)
    (h : vcS B T d (.aug i op a) Q ρ H) (S : St B z P vars L ρ H s) : wpAny (model B.prog B.w) A (exec (.AugAssign (.Name n p') op e p) env) (PS B P vars L z Q) NoExc s := by
  obtain ⟨o, ho, hv⟩ := get_inv (k := fun o => vcE B T d a (kaug i op o Q ρ) ρ H) h
  refine wpAny_AugAssign_Name (ldvar_ok V S h1 ho fun x hx => xa.then V R h2 hv S fun v s₁ z₁ y H₁ le₁ S₁ r₁ h₁ => ?_)
  cases op <;> first | exact h₁.elim | skip
  exact aug_ok (show addK o y (fun r => Q .next (setL ρ i r) H₁) from h₁) (hx.mono le₁) r₁ fun r hq v t ht hv => store_ok V (S₁.toks ht) h1 hv fun h' S' => ⟨z₁, .next, _, H₁, le₁, S', rfl, hq⟩
theorem snd_aug {i : Nat} {op : Operator} (xa : SndE B T d a) : SndS B T d (.aug i op a) := by
  intro st ρ H Q z P vars sc L env A s V R hc h S
  obtain ⟨q, hc⟩ := any_inv hc
  obtain ⟨n, hc⟩ := any_inv hc
  obtain ⟨h1, h0, h2⟩ := ands3 hc
  rw [q.2, n.2, beq_iff_eq.mp h0]
  exact aug_core xa V R h1 h2 h S
theorem satB_inv {nm : Str} {l : Addr} {v : PV} {Q : AH → Prop} (h : satB T nm l v Q H) : ∃ c fs i, H l = some (.inst c fs) ∧ T.sat c nm = some i ∧ i < 1000 ∧ Q (H.upd l (.inst c (slotSet fs i v))) := by unfold satB at h; exact h
theorem sat_core {nm : Str} {o e : Expr} {p p' : Pos} {z P : PH} {vars : List Str} {sc : Scope} {L : Addr} {env : Env} {A : Around} {s : Shared} {ρ : Loc} {H : AH} {Q : KS} (GT : GoodT B T) (xa : SndE B T d a) (xb : SndE B T d b) (V : EnvOK env vars sc L) (R : Room d A) (h1 : chkE a sc vars o = true) (h2 : chkE b sc vars e = true) (h3 : isComp e = false)
    (h : vcS B T d (.setattr a nm b) Q ρ H) (S : St B z P vars L ρ H s) : wpAny (model B.prog B.w) A (exec (.Assign [.Attribute o nm p'] e p) env) (PS B P vars L z Q) NoExc s := by
  refine wpAny_Assign_stores (xb.then V R h2 h S fun v s₁ z₁ y H₁ le₁ S₁ r₁ h₁ => ?_) (sole_false h3) rfl
  show wpAny _ _ (assign (.Attribute _ _ _) env v) _ _ _
  rw [arm_assign_Attribute]
  refine wpAny_bind (wpAny_holding (xa.then V R h1 h₁ S₁ fun ov s₂ z₂ xx H₂ le₂ S₂ r₂ h₂ => ?_))
  obtain ⟨l, rfl, h₂⟩ := onRef_inv h₂
  obtain ⟨c, fs, i, hl, hs, hi, hq⟩ := satB_inv h₂
  cases r₂
  obtain ⟨hz, oo, ho, dd, sl, rfl, hzd, hsl⟩ := S₂.c.hin l _ hl
  have hb : B.heap.get? l = none := by
    cases hb : B.heap.get? l with
    | none => rfl
    | some o => rw [S₂.c.base _ _ hb] at hz; cases hz
  have hlL : l ≠ L := by rintro rfl; rw [S₂.lh] at hl; cases hl
  obtain ⟨m, hn, hlr⟩ := S₂.loc
  refine wpAny_bind (wpAny_standAt (wpAny_bind (wpAny_holding (GT.sat c _ i hs A _ _ s₂ l dd L m sl v S₂.c.bin hb ho (S₂.c.zin _ _ hzd) hn hlL fun h' t ht hsb hns hg => ?_))))
  exact wpAny_release ⟨z₂, .next, ρ, _, le₁.trans le₂, S₂.changeOwnL ht hsb hl hg hns hlr (x := .inst c (slotSet fs i y)) ⟨dd, _, rfl, hzd, slotSet_ok hsl (r₁.mono le₂)⟩ trivial, rfl, hq⟩
theorem snd_sat {nm : Str} (GT : GoodT B T) (xa : SndE B T d a) (xb : SndE B T d b) : SndS B T d (.setattr a nm b) := by
  intro st ρ H Q z P vars sc L env A s V R hc h S
  obtain ⟨q, hc⟩ := any_inv hc
  obtain ⟨t, hc⟩ := any_inv hc
  obtain ⟨n, hc⟩ := any_inv hc
  obtain ⟨_, h0, h1, h2, h3⟩ := ands5 hc
  rw [q.2, t.2, n.2, beq_iff_eq.mp h0]
  exact sat_core GT xa xb V R h1 h2 (nots h3) h S
theorem snd_expr (xa : SndE B T d a) : SndS B T d (.expr a) := by
  intro st ρ H Q z P vars sc L env A s V R hc h S
  obtain ⟨⟨⟨e, p⟩, rfl⟩, hc⟩ := any_inv hc
  obtain ⟨h1, h2⟩ := ands hc
  refine wpAny_Expr_any (xa.then V R h1 h S fun v s₁ z₁ y H₁ le₁ S₁ r₁ hq => ⟨z₁, .next, ρ, H₁, le₁, S₁, rfl, hq.2⟩) ?_ (swaps_false (nots h2))
  unfold interactive; rw [V.scope_kind]; rfl
theorem snd_if (xt : SndT B T d m) (xa : SndSs B T d ss) (xb : SndSs B T d ss') : SndS B T d (.ite m ss ss') := by
  intro st ρ H Q z P vars sc L env A s V R hc h S
  obtain ⟨⟨⟨e, x, y, p⟩, rfl⟩, hc⟩ := any_inv hc
  obtain ⟨h1, h2, h3⟩ := ands3 hc
  refine wpAny_If (xt.then V R h1 h S fun s₁ z₁ c H₁ le₁ S₁ h₁ => ?_)
  have := tst_of h₁
  cases q : c.dec with
  | true => rw [q] at this; exact xa.out V R h2 this S₁ le₁
  | false => rw [q] at this; exact xb.out V R h3 this S₁ le₁
theorem whB_inv {vt : VT} {vb ve : VS} (h : whB vt vb ve Q ρ H) : ∃ (I : Nat → Loc → AH → Prop) (n : Nat), I n ρ H ∧ ∀ n ρ H, I n ρ H → vt (kwh vb ve I n Q ρ) ρ H := by unfold whB at h; exact h
theorem snd_wh (xt : SndT B T d m) (xa : SndSs B T d ss) (xb : SndSs B T d ss') : SndS B T d (.wh m ss ss') := by
  intro st ρ H Q z P vars sc L env A s V R hc h S
  obtain ⟨⟨⟨e, x, y, p⟩, rfl⟩, hc⟩ := any_inv hc
  obtain ⟨h1, h2, h3⟩ := ands3 hc
  obtain ⟨I, n, hI, hstep⟩ := whB_inv h
  refine wpAny_While (codeAny_whileLoop (fun n s => ∃ z' ρ H, zle z z' ∧ St B z' P vars L ρ H s ∧ I n ρ H) ?_ n ⟨z, ρ, H, zle.refl z, S, hI⟩)
  rintro n s₁ ⟨z₁, ρ₁, H₁, le₁, S₁, hI₁⟩
  refine xt.then V R h1 (hstep n ρ₁ H₁ hI₁) S₁ fun s₂ z₂ c H₂ le₂ S₂ h₂ => ?_
  have := tst_of h₂
  cases q : c.dec with
  | true =>
    rw [q] at this
    refine xa.then V R h2 this S₂ fun f s₃ z₃ m ρ₃ H₃ le₃ S₃ hm hq => ?_
    have le := (le₁.trans le₂).trans le₃
    cases m with
    | next => cases hm; obtain ⟨m, hlt, hi⟩ := hq; exact ⟨m, hlt, z₃, ρ₃, H₃, le, S₃, hi⟩
    | cont => cases hm; obtain ⟨m, hlt, hi⟩ := hq; exact ⟨m, hlt, z₃, ρ₃, H₃, le, S₃, hi⟩
    | brk => cases hm; exact ⟨z₃, .next, ρ₃, H₃, le, S₃, rfl, hq⟩
    | ret v => obtain ⟨x, rfl, rx⟩ := hm; exact ⟨z₃, .ret v, ρ₃, H₃, le, S₃, ⟨x, rfl, rx⟩, hq⟩
  | false => rw [q] at this; exact xb.out V R h3 this S₂ (le₁.trans le₂)
theorem forB_inv {i : Nat} {xs : List PV} {vb : VS} (h : forB i xs vb Q ρ H) : ∃ I : List PV → Loc → AH → Prop, I xs ρ H ∧ (∀ x r ρ H, I (x :: r) ρ H → vb (kforb I r Q) (setL ρ i x) H) ∧ ∀ ρ H, I [] ρ H → Q .next ρ H := by unfold forB at h; exact h
theorem for_loop {i : Nat} {xs : List PV} {stt : Nat → Obj → Prop} {it : Addr} {o : Obj} {n : Str} {p' : Pos} {y : List Stmt} {I : List PV → Loc → AH → Prop} {z z₁ P : PH} {vars : List Str} {sc : Scope} {L : Addr} {env : Env} {A : Around} {s : Shared} {ρ : Loc} {H : AH} {Q : KS}
    (xb : SndSs B T d ss) (V : EnvOK env vars sc L) (R : Room d A) (h1 : locOk vars i n = true) (h3 : chkSs ss sc vars y = true) (IT : Iter B z₁ it xs stt) (hP : P it = none) (hst : stt 0 o) (S : St B z₁ (padd P it o) vars L ρ H s)
    (hI : I xs ρ H) (hstep : ∀ x r ρ H, I (x :: r) ρ H → vcSs B T d ss (kforb I r Q) (setL ρ i x) H) (hend : ∀ ρ H, I [] ρ H → Q .next ρ H) (le₁ : zle z z₁) :
    codeAny (model B.prog B.w) A (.forLoop (.Name n p') (.ref it) y [] env) (fun r s' => match r with
      | .ok f => PS B P vars L z Q f s'
      | .error e => cameBackBy (model B.prog B.w) A env NoExc e s') s := by
  refine codeAny_forLoop (fun n s => ∃ i z' o ρ H, zle z₁ z' ∧ St B z' (padd P it o) vars L ρ H s ∧ stt i o ∧ I (xs.drop i) ρ H ∧ n = xs.length - i) ?_ xs.length ⟨0, z₁, o, ρ, H, zle.refl _, S, hst, hI, rfl⟩
  rintro n s₃ ⟨k, z₃, o₃, ρ₃, H₃, le₃, S₃, hst₃, hI₃, rfl⟩
  have hit3 := S₃.c.pin it o₃ (padd_self ..)
  cases hk : xs[k]? with
  | none =>
    refine IT.done k z₃ s₃ A _ _ o₃ hk le₃ S₃.zi R.h hit3.1 hst₃ fun h' hx => wpAny_execs_nil ?_
    rw [List.drop_eq_nil_of_le (List.getElem?_eq_none_iff.mp hk)] at hI₃
    exact ⟨z₃, .next, ρ₃, H₃, le₁.trans le₃, S₃.unpin hP (Nat.le_refl _) hx, rfl, hend _ _ hI₃⟩
  | some p =>
    have hlt : k < xs.length := (List.getElem?_eq_some_iff.mp hk).1
    rw [List.drop_eq_getElem_cons hlt, (List.getElem?_eq_some_iff.mp hk).2] at hI₃
    refine IT.item k z₃ s₃ A _ _ p o₃ hk le₃ S₃.zi R.h hit3.1 hst₃ fun v h' t o' ht hs ho' hst' hr => ?_
    refine wpAny_assign_Name (store_ok V (S₃.repin hP ht hs ho') h1 hr fun h'' S₅ => xb.then V R h3 (hstep _ _ _ _ hI₃) S₅ fun f s₆ z₆ m ρ₆ H₆ le₆ S₆ hm hq => ?_)
    have le := le₃.trans le₆
    cases m with
    | next => cases hm; exact ⟨xs.length - (k + 1), Nat.sub_succ_lt_self _ _ hlt, k + 1, z₆, o', ρ₆, H₆, le, S₆, hst', hq, rfl⟩
    | cont => cases hm; exact ⟨xs.length - (k + 1), Nat.sub_succ_lt_self _ _ hlt, k + 1, z₆, o', ρ₆, H₆, le, S₆, hst', hq, rfl⟩
    | brk => cases hm; exact ⟨z₆, .next, ρ₆, H₆, le₁.trans le, S₆.unpin (h' := s₆.heap) (t := s₆.toks) hP (Nat.le_refl _) (fun xx xx xx e => e), rfl, hq⟩
    | ret v => obtain ⟨x, rfl, rx⟩ := hm; exact ⟨z₆, .ret v, ρ₆, H₆, le₁.trans le, S₆.unpin (h' := s₆.heap) (t := s₆.toks) hP (Nat.le_refl _) (fun xx xx xx e => e), ⟨x, rfl, rx⟩, hq⟩
theorem kfor_inv {i : Nat} {vb : VS} {Q : KS} {ρ : Loc} {x : PV} {H : AH} (h : kfor i vb Q ρ x H) : ∃ xs, pItems x = some xs ∧ forB i xs vb Q ρ H := by
  unfold kfor at h
  cases hxs : pItems x with
  | none => rw [hxs] at h; exact h.elim
  | some xs => rw [hxs] at h; exact ⟨xs, rfl, h⟩
theorem for_core {i : Nat} {e : Expr} {y : List Stmt} {n : Str} {p p' : Pos} {z P : PH} {vars : List Str} {sc : Scope} {L : Addr} {env : Env} {A : Around} {s : Shared} {ρ : Loc} {H : AH} {Q : KS} (xa : SndE B T d a) (xb : SndSs B T d ss)
    (V : EnvOK env vars sc L) (R : Room d A) (h1 : locOk vars i n = true) (h2 : chkE a sc vars e = true) (h3 : chkSs ss sc vars y = true) (h4 : isSet e = false) (h : vcS B T d (.for1 i a ss) Q ρ H) (S : St B z P vars L ρ H s) :
    wpAny (model B.prog B.w) A (exec (.For (.Name n p') e y [] p) env) (PS B P vars L z Q) NoExc s := by
  refine wpAny_For (xa.then V R h2 h S fun v s₁ z₁ x H₁ le₁ S₁ r₁ h₁ => ?_) (not_set h4)
  obtain ⟨xs, hxs, h₁⟩ := kfor_inv h₁
  obtain ⟨I, hI, hstep, hend⟩ := forB_inv h₁
  exact iter_make hxs r₁ S₁.zi S₁.c.zfresh fun o stt hf IT hst => for_loop xb V R h1 h3 IT S₁.c.pfresh hst (S₁.pushPin hf) hI hstep hend le₁
theorem snd_for {i : Nat} (xa : SndE B T d a) (xb : SndSs B T d ss) : SndS B T d (.for1 i a ss) := by
  intro st ρ H Q z P vars sc L env A s V R hc h S
  obtain ⟨q, hc⟩ := any_inv hc
  obtain ⟨n, hc⟩ := any_inv hc
  obtain ⟨h0, h1, h2, h3, h4⟩ := ands5 hc
  rw [q.2, n.2, nil_inv h0]
  exact for_core xa xb V R h1 h2 h3 (nots h4) h S
theorem snd_ret (xa : SndE B T d a) : SndS B T d (.ret a) := by
  intro st ρ H Q z P vars sc L env A s V R hc h S
  obtain ⟨⟨⟨e, p⟩, rfl⟩, hc⟩ := any_inv hc
  obtain ⟨⟨e, e1⟩, hc⟩ := any_inv hc
  dsimp only at e1
  subst e1
  exact wpAny_Return_some (xa.then V R hc h S fun v s₁ z₁ y H₁ le₁ S₁ r₁ hq => ⟨z₁, .ret y, ρ, H₁, le₁, S₁, ⟨v, rfl, r₁⟩, hq⟩)
theorem snd_brk : SndS B T d .brk := by
  intro st ρ H Q z P vars sc L env A s V R hc h S
  obtain ⟨⟨p, rfl⟩, _⟩ := some_inv hc
  exact wpAny_Break ⟨z, .brk, ρ, H, zle.refl z, S, rfl, h⟩
theorem snd_cont : SndS B T d .cont := by
  intro st ρ H Q z P vars sc L env A s V R hc h S
  obtain ⟨⟨p, rfl⟩, _⟩ := some_inv hc
  exact wpAny_Continue ⟨z, .cont, ρ, H, zle.refl z, S, rfl, h⟩
theorem snd_pass : SndS B T d .pass := by
  intro st ρ H Q z P vars sc L env A s V R hc h S
  obtain ⟨⟨p, rfl⟩, _⟩ := some_inv hc
  exact wpAny_Pass ⟨z, .next, ρ, H, zle.refl z, S, rfl, h⟩
theorem snd_try (xs : SndSs B T d ss) : SndS B T d (.try1 ss) := by
  intro st ρ H Q z P vars sc L env A s V R hc h S
  obtain ⟨⟨⟨b, hs, o, f, p⟩, rfl⟩, hc⟩ := any_inv hc
  obtain ⟨h0, h1, h2, h3⟩ := ands4 hc
  cases nil_inv h1
  cases nil_inv h2
  cases hs with
  | nil => cases h0
  | cons a r =>
    refine wpAny_Try_except (wpAny_mono (xs _ _ _ _ _ _ _ _ _ _ _ _ V R h3 h S) (fun f s₁ hp => ?_) (fun xx xx => no _ _))
    cases f <;> first | exact wpAny_execs_nil hp | exact hp
theorem snd_asrt (xt : SndT B T d m) : SndS B T d (.asrt m) := by
  intro st ρ H Q z P vars sc L env A s V R hc h S
  obtain ⟨⟨⟨e, o, p⟩, rfl⟩, hc⟩ := any_inv hc
  obtain ⟨h0, h1⟩ := ands hc
  cases isSome0_inv h0
  exact wpAny_Assert_holds (xt.then V R h1 h S fun s₁ z₁ c H₁ le₁ S₁ hq => ⟨@decide_eq_true c.p c.i hq.1, z₁, .next, ρ, H₁, le₁, S₁, rfl, hq.2⟩)
theorem snd_sno {m : MS} (h : ∀ Q ρ H, ¬ vcS B T d m Q ρ H) : SndS B T d m := by
  intro st ρ H Q z P vars sc L env A s V R hc h' S
  exact (h _ _ _ h').elim
theorem snd_snil : SndSs B T d [] := by
  intro sts ρ H Q z P vars sc L env A s V R hc h S
  cases nil_inv hc
  exact wpAny_execs_nil ⟨z, .next, ρ, H, zle.refl z, S, rfl, h⟩
theorem snd_scons {m : MS} (xa : SndS B T d m) (xs : SndSs B T d ss) : SndSs B T d (m :: ss) := by
  intro sts ρ H Q z P vars sc L env A s V R hc h S
  cases sts with
  | nil => cases hc
  | cons st r =>
    obtain ⟨h1, h2⟩ := ands hc
    refine wpAny_execs_cons (wpAny_mono (xa _ _ _ (kseq (vcSs B T d ss) Q) _ _ _ _ _ _ _ _ V R h1 h S) (fun f s₁ hh => ?_) (fun xx xx => no _ _))
    obtain ⟨z₁, m, ρ₁, H₁, le₁, S₁, hm, hq⟩ := hh
    cases m with
    | next => cases hm; exact xs.out V R h2 hq S₁ le₁
    | cont => cases hm; exact ⟨z₁, .cont, ρ₁, H₁, le₁, S₁, rfl, hq⟩
    | brk => cases hm; exact ⟨z₁, .brk, ρ₁, H₁, le₁, S₁, rfl, hq⟩
    | ret v => obtain ⟨x, rfl, rx⟩ := hm; exact ⟨z₁, .ret v, ρ₁, H₁, le₁, S₁, ⟨x, rfl, rx⟩, hq⟩
mutual
theorem soundS (G : GoodB B) (GT : GoodT B T) : ∀ m : MS, SndS B T d m
  | .asg _ e => snd_asg (soundE G GT e).1
  | .asg2 _ _ e => snd_asg2 (soundE G GT e).1
  | .asgc _ _ a b => snd_asgc (soundE G GT a).1 (soundE G GT b).1
  | .unp _ e => snd_unp (soundE G GT e).1
  | .aug _ _ e => snd_aug (soundE G GT e).1
  | .setattr a _ e => snd_sat GT (soundE G GT a).1 (soundE G GT e).1
  | .expr e => snd_expr (soundE G GT e).1
  | .ite t a b => snd_if (soundE G GT t).2 (soundSs G GT a) (soundSs G GT b)
  | .wh t a b => snd_wh (soundE G GT t).2 (soundSs G GT a) (soundSs G GT b)
  | .for1 _ e b => snd_for (soundE G GT e).1 (soundSs G GT b)
  | .ret e => snd_ret (soundE G GT e).1
  | .brk => snd_brk
  | .cont => snd_cont
  | .pass => snd_pass
  | .try1 b => snd_try (soundSs G GT b)
  | .asrt t => snd_asrt (soundE G GT t).2
  | .bad => snd_sno fun xx xx xx h => h
theorem soundSs (G : GoodB B) (GT : GoodT B T) : ∀ ms : List MS, SndSs B T d ms
  | [] => snd_snil
  | m :: ms => snd_scons (soundS G GT m) (soundSs G GT ms)
end
end
end Mine
end

section
set_option tactic.hygienic false
set_option maxRecDepth 100000
set_option genInjectivity false
set_option genSizeOf false
namespace Mine
open PySem PySem.W PySem.Calls PyProof.Rows PySem.Builtin PySem.Builtin.Str PySem.NumText

structure FnOK (B : Base) (fv : Value) (params : List Str) (np : Nat) (exP : List PV) (vars : List Str) (ms : List MS) : Prop where
  it : ∃ a o fd body exV, fv = .ref a ∧ B.heap.get? a = some o ∧ o.data = .func fd ∧ B.heap.CodeRec fd.code fd.qualname ∧ fd.body = .stmts body ∧
    fd.scope.isCoroutine = false ∧ fd.scope.isGenerator = false ∧ fd.scope.kind = .function ∧ fd.globals = mainGlobals ∧ fd.builtins = builtinsNs ∧
    (∀ x ∈ fd.scope.names, x.2 ≠ .cell) ∧ (∀ x ∈ vars, fd.scope.names.lookup x = some .local ∧ (x == ("__debug__" : Str)) = false) ∧
    RepL B B.heap.get? exP exV ∧ (∀ (s : Shared) (vals : List Value), BaseIn B s → vals.length = np → BindsTo s fd ⟨vals, []⟩ (params.zip (vals ++ exV))) ∧
    chkSs ms fd.scope vars body = true
  nd : vars.Nodup
  pre : ∃ r, vars = params ++ r
  len : params.length = np + exP.length

noncomputable def initLoc (ps : List PV) (n : Nat) : Loc := ps.map some ++ List.replicate (n - ps.length) none

noncomputable def kdef (Q : KE) : KS := fun f xx H' => match f with
  | .ret v => Q v H'
  | .next => Q .none H'
  | _ => False

theorem lookup_mem {α : Type} {k : Str} {v : α} : ∀ {l : List (Str × α)}, (l.map (·.1)).Nodup → (k, v) ∈ l → l.lookup k = some v
  | [], _, h => by simp at h
  | (a, b) :: r, nd, h => by
    simp only [List.map_cons, List.nodup_cons] at nd
    rcases List.mem_cons.mp h with h' | h'
    · cases h'; simp [List.lookup_cons]
    · have hne : k ≠ a := by
        intro e
        exact nd.1 (List.mem_map.mpr ⟨(k, v), h', e⟩)
      have : (k == a) = false := by simpa using hne
      simp only [List.lookup_cons, this]
      exact lookup_mem nd.2 h'

theorem bind_loc {B : Base} {z : PH} {vars params r : List Str} {ps : List PV} {vals : List Value} (nd : vars.Nodup) (hp : vars = params ++ r) (hl : params.length = ps.length) (hr : RepL B z ps vals) :
    LocRep B z vars (initLoc ps vars.length) (fun x => (params.zip vals).reverse.lookup x) := by
  intro i x p hx hi
  have hlen := hr.length
  unfold initLoc at hi
  rw [List.getElem?_append] at hi
  split at hi
  · rename_i hlt
    simp only [List.length_map] at hlt
    rw [List.getElem?_map, Option.map_eq_some_iff] at hi
    obtain ⟨q, hq, e⟩ := hi
    cases e
    obtain ⟨v, hv, rv⟩ := hr.get hq
    have hpx : params[i]? = some x := by
      rw [hp, List.getElem?_append_left (by lia)] at hx; exact hx
    have hz : (params.zip vals)[i]? = some (x, v) := List.getElem?_zip_eq_some.mpr ⟨hpx, hv⟩
    refine ⟨v, lookup_mem ?_ (List.mem_reverse.mpr (List.mem_of_getElem? hz)), rv⟩
    rw [List.map_reverse, List.map_fst_zip (by lia)]
    rw [hp] at nd
    exact ((List.reverse_perm _).nodup_iff).mpr (List.nodup_append.mp nd).1
  · exfalso
    rw [List.getElem?_replicate] at hi
    split at hi <;> cases hi

theorem FnOK.keep {B : Base} {fv : Value} {params : List Str} {np : Nat} {exP : List PV} {vars : List Str} {ms : List MS} (F : FnOK B fv params np exP vars ms) : KeepOk B fv := by
  obtain ⟨a, o, fd, body, exV, rfl, ho, hd, _⟩ := F.it
  intro A s E Q hb hq
  unfold keeperOf
  refine wpAny_bind (wpAny_load (hb a o ho) ?_)
  rw [hd]
  exact wpAny_pure (hq _ (.inl rfl))

noncomputable def CallCode (B : Base) (d : Nat) (fv : Value) (vs : List PV) (H : AH) (Q : PV → AH → Prop) : Prop :=
  ∀ z P s A vals, Room d A → StC B z P H s → RepL B z vs vals → codeAny (model B.prog B.w) A (.call fv ⟨vals, []⟩) (fun r s' => match r with | .ok (.ret v) => Post B P z Q v s' | .ok _ => False | .error e => NoExc e s') s
theorem CallCode.sem {B : Base} {d : Nat} {fv : Value} {vs : List PV} {H : AH} {Q : PV → AH → Prop} (h : CallCode B d fv vs H Q) : CallSem B d fv vs H Q :=
  fun z P s A vals R SC hr => wpAny_call (h z P s A vals R SC hr)

noncomputable def FlowPost (B : Base) (P z : PH) (Q : PV → AH → Prop) : Flow → Shared → Prop
  | .ret v => Post B P z Q v
  | .next => Post B P z Q .none
  | _ => fun xx => False
theorem callCore {B : Base} {d : Nat} (G : GoodB B) {fv : Value} {params : List Str} {np : Nat} {exP : List PV} {vars : List Str} {ms : List MS} (F : FnOK B fv params np exP vars ms)
    {vs : List PV} {H : AH} {Q : PV → AH → Prop} (hl : vs.length = np) {z P : PH} {s : Shared} {A : Around} {vals : List Value} {k : Nat} (R : Room (d + 1) A) (hkn : k ≤ np) (SC : StC B z P H { s with toks := s.toks + k }) (hr : RepL B z vs vals)
    (hx : ∀ {a : Addr} {o : Obj} {fd : FuncData} {body : List Stmt} {env : Env} {L : Addr} {s' : Shared} {A' : Around}, fv = .ref a → B.heap.get? a = some o → o.data = .func fd → fd.body = .stmts body → chkSs ms fd.scope vars body = true → env.code = fd.code → EnvOK env vars fd.scope L → Room d A' →
      St B z P vars L (initLoc (vs ++ exP) vars.length) H s' → wpAny (model B.prog B.w) A' (execs body env) (FlowPost B P z Q) NoExc s') :
    codeAny (model B.prog B.w) A (.call fv ⟨vals, []⟩) (fun r s' => match r with | .ok (.ret v) => Post B P z Q v s' | .ok _ => False | .error e => NoExc e s') s := by
  obtain ⟨a, o, fd, body, exV, rfl, ho, hd, hcr, hbody, hco, hgen, hk, hg, hbi, hcell, hloc, hex, hbind, hchk⟩ := F.it
  obtain ⟨r, hpre⟩ := F.pre
  have hvl : vals.length = np := by rw [← hl]; first | exact hr.length | exact hr.length.symm
  have hb : BaseIn B s := SC.bin
  have hlen : np ≤ (params.zip (vals ++ exV)).length := by
    rw [List.length_zip, List.length_append, F.len, ← hex.length, hvl, Nat.min_self]; exact Nat.le_add_right _ _
  refine codeAny_call_def (by have := R.dep; show A.depth < 1000; lia) (hb a o ho) hd (G.nolimit.keeps hb) (hcr.keeps hb) hbody (hbind s vals hb hvl) hcell (fun x hx => (hloc _ (by rw [hpre]; exact List.mem_append_left _ (List.of_mem_zip hx).1)).1) (fun h₀ hns hkeep => ?_) hco hgen hk
  refine wpAny_mono (hx rfl ho hd hbody hchk rfl ⟨rfl, hk, rfl, hg, hbi, hloc, F.nd⟩ ⟨R.h, by have := R.dep; show A.depth + 1 + 3 * d + 20 ≤ 1000; lia, by have := R.un; show A.units + 3 + 20 * d + 1000 ≤ 9900; lia⟩
    ((SC.keeps (Nat.add_le_add_left (Nat.le_trans hkn hlen) _) hkeep).toSt SC.zfresh SC.pfresh SC.hfresh hns (bind_loc F.nd hpre (by rw [F.len, List.length_append, hl]) (hr.append (hex.mono SC.base))))) (fun f s' h => ?_) (fun xx xx => no _ _)
  cases f with
  | next => exact h
  | ret v => exact h
  | brk => exact h.elim
  | cont => exact h.elim
theorem callDefG {B : Base} {T : Tab} {d : Nat} (G : GoodB B) (GT : GoodT B T) {fv : Value} {params : List Str} {np : Nat} {exP : List PV} {vars : List Str} {ms : List MS} (F : FnOK B fv params np exP vars ms)
    {vs : List PV} {H : AH} {Q : PV → AH → Prop} (hl : vs.length = np)
    (h : vcSs B T d ms (kdef Q) (initLoc (vs ++ exP) vars.length) H) {z P : PH} {s : Shared} {A : Around} {vals : List Value} {k : Nat} (R : Room (d + 1) A) (hk : k ≤ np) (SC : StC B z P H { s with toks := s.toks + k }) (hr : RepL B z vs vals) :
    codeAny (model B.prog B.w) A (.call fv ⟨vals, []⟩) (fun r s' => match r with | .ok (.ret v) => Post B P z Q v s' | .ok _ => False | .error e => NoExc e s') s := by
  refine callCore G F hl R hk SC hr fun xx xx xx xx hchk xx V R' S => ?_
  refine (soundSs G GT ms).then V R' hchk h S fun f s₁ z₁ m ρ₁ H₁ le₁ S₁ hm hq => ?_
  cases m with
  | next => cases hm; exact ⟨z₁, .none, H₁, le₁, S₁.c, rfl, hq⟩
  | ret v => obtain ⟨x, rfl, rx⟩ := hm; exact ⟨z₁, v, H₁, le₁, S₁.c, rx, hq⟩
  | brk => exact hq.elim
  | cont => exact hq.elim
theorem callDefC {B : Base} {T : Tab} {d : Nat} (G : GoodB B) (GT : GoodT B T) {fv : Value} {params : List Str} {np : Nat} {exP : List PV} {vars : List Str} {ms : List MS} (F : FnOK B fv params np exP vars ms)
    {vs : List PV} {H : AH} {Q : PV → AH → Prop} (hl : vs.length = np)
    (h : vcSs B T d ms (kdef Q) (initLoc (vs ++ exP) vars.length) H) : CallCode B (d + 1) fv vs H Q := fun xx xx xx xx xx R SC hr => callDefG (k := 0) G GT F hl h R (Nat.zero_le _) SC hr

theorem callDef {B : Base} {T : Tab} {d : Nat} (G : GoodB B) (GT : GoodT B T) {fv : Value} {params : List Str} {np : Nat} {exP : List PV} {vars : List Str} {ms : List MS} (F : FnOK B fv params np exP vars ms)
    {vs : List PV} {H : AH} {Q : PV → AH → Prop} (hl : vs.length = np)
    (h : vcSs B T d ms (kdef Q) (initLoc (vs ++ exP) vars.length) H) : CallSem B (d + 1) fv vs H Q := (callDefC G GT F hl h).sem

theorem CallSem.mono {B : Base} {d : Nat} {fv : Value} {vs : List PV} {H : AH} {Q Q' : PV → AH → Prop} (h : CallSem B d fv vs H Q) (hq : ∀ v H, Q v H → Q' v H) : CallSem B d fv vs H Q' :=
  fun z P s A vals R SC hr => wpAny_mono (h z P s A vals R SC hr) (fun _ _ hh => by obtain ⟨z', p, H', a, b, c, e⟩ := hh; exact ⟨z', p, H', a, b, c, hq _ _ e⟩) (fun xx xx x => x)
theorem CallSem.le {B : Base} {d d' : Nat} {fv : Value} {vs : List PV} {H : AH} {Q : PV → AH → Prop} (h : CallSem B d fv vs H Q) (hd : d ≤ d') : CallSem B d' fv vs H Q :=
  fun z P s A vals R SC hr => h z P s A vals ⟨R.h, by have := R.dep; lia, by have := R.un; lia⟩ SC hr

section
variable {B : Base} {K : Frag} {C p fI : Addr} {nm : Str} {i : Nat}

theorem att_slot (X : K.In B.heap) (hg : plainGet K C nm = true) (hc : isClsIn K C = true) (ha : findIn K (.ref C) nm = some (some (.ref p)))
    (hn : specialIn K (.ref p) "__get__" = some (some (.builtin "member_descriptor.__get__"))) (ht : takesIn K (.ref p) = some true) (hp : slotIn K p C = some i) : AttSem B C nm (.slot i) := by
  intro A E Q s x d sl v hb hx hd hv hh hq
  have X' := X.keeps hb
  have I : InstAt s.heap x ⟨.ref C, some d, .plain, sl⟩ C (some emptyDict) := ⟨hx, rfl, rfl, hd⟩
  exact get_bind X' I (plainGet_of hg).1 (findObj_data hc ha hn ht) (plainGet_of hg).2
    (wpAny_call (slot_get (s := { s with toks := s.toks + 1 }) X' I hp (by show (sl[i]?).join = some v; rw [hv]; rfl) (handed_on hh (hq _ (Nat.le_succ _)))))

theorem att_val {v0 : Value} {pv : PV} (X : K.In B.heap) (hg : plainGet K C nm = true) (hf : findObj K C (some emptyDict) nm = some (.value v0)) (hh : handedIn v0 = true) (hr : Rep B B.heap.get? pv v0) : AttSem B C nm (.val pv) := by
  intro A E Q s x d sl hb hx hd hq
  exact get_value (X.keeps hb) ⟨hx, rfl, rfl, hd⟩ (plainGet_of hg).1 hf hh (hq _ _ (Nat.le_succ _) hr)

theorem sat_slot (X : K.In B.heap) (hs : findIn K (.ref C) "__setattr__" = some (some (.builtin "object.__setattr__"))) (hp : plainOver K C = true) (ht : takerIn K C nm = some (some (.ref p)))
    (hT : typeIn K (.ref p) = some (.type "member_descriptor")) (hi : slotIn K p C = some i) (hz : i < 1000) : SatSem B C nm i := by
  intro A E Q s x d L m sl v hb hbx hx hd hn hxL hq
  have X' := X.keeps hb
  have I : InstAt s.heap x ⟨.ref C, some d, .plain, sl⟩ C (some emptyDict) := ⟨hx, rfl, rfl, hd⟩
  let pre : List (Addr × Obj) := (List.range s.heap.objs.size).filterMap fun b => if b = x ∨ b = L then none else (s.heap.get? b).map fun o => (b, o)
  have hpre : ∀ q ∈ pre, s.heap.get? q.1 = some q.2 ∧ q.1 ≠ x ∧ q.1 ≠ L := by
    intro q hq
    obtain ⟨b, _, hb⟩ := List.mem_filterMap.mp hq
    split at hb
    · cases hb
    · rename_i h
      obtain ⟨o, ho, rfl⟩ := Option.map_eq_some_iff.mp hb
      exact ⟨ho, fun e => h (.inl e), fun e => h (.inr e)⟩
  have hmem : ∀ b o, b ≠ x → b ≠ L → s.heap.get? b = some o → (b, o) ∈ pre := by
    intro b o h1 h2 ho
    refine List.mem_filterMap.mpr ⟨b, List.mem_range.mpr (Heap.lt_size ho), ?_⟩
    rw [if_neg (fun h => h.elim h1 h2), ho]; rfl
  have h0 : ∀ b, (({} : Heap).get? b) = none := fun b => by simp [Heap.get?]
  have F : Fr {} L s.heap m := ⟨hn, (fun b o e => by rw [h0] at e; cases e), Nat.zero_le _⟩
  have N : News {} L s.heap (pre ++ (x, (⟨.ref C, some d, .plain, sl⟩ : Obj)) :: []) := by
    intro q hq
    rcases List.mem_append.mp hq with h | h
    · exact ⟨(hpre q h).1, (hpre q h).2.2, h0 _⟩
    · rw [List.mem_singleton] at h; subst h; exact ⟨hx, hxL, h0 _⟩
  refine set_plain X' I hs (osa_descr (s := { s with toks := s.toks + 1 }) KF.slot_mset X' I hp ht hT
    (slot_set (s := { s with toks := s.toks + 1 }) F N X' I hi hz (fun q h => (hpre q h).2.1) (fun xx h => nomatch h) rfl rfl fun h' F' N' => ?_))
  refine hq h' (s.toks + 1) (Nat.le_succ _) (fun b o h1 h2 ho => (N' (b, o) (List.mem_append_left _ (hmem b o h1 h2 ho))).1) F'.ns ?_
  exact (N' (x, _) (List.mem_append_right _ (List.mem_singleton.mpr rfl))).1

theorem stat_fn {mc fv : Value} {cls : Str} (X : K.In B.heap) (hC : B.mg cls = some (.ref C)) (hg : specialIn K (.ref C) "__getattribute__" = some (some (.builtin "type.__getattribute__")))
    (hr : readsIn K C mc = true) (e : findCls K (.ref C) mc nm = some (.val fv)) (hh : handedIn fv = true) : StatSem B cls nm fv := by
  refine ⟨C, hC, fun A E Q s pl hb hq => ?_⟩
  have X' := X.keeps hb
  exact method_cls X' hg (cls_value X' hr e hh (hq _ (Nat.le_succ _)))

theorem cls_keep (X : K.In B.heap) (hm : makesIn K C = true) : KeepOk B (.ref C) := by
  intro A s E Q hb hq
  obtain ⟨⟨oc, od, cd, sl, ho, _⟩, _, _, _, _, hc, _⟩ := makes_of (M := model B.prog B.w) (X.keeps hb) hm
  unfold keeperOf
  refine wpAny_bind (wpAny_load ho ?_)
  dsimp only
  refine wpAny_bind (hc.here ?_)
  exact wpAny_pure (hq _ (.inr rfl))

theorem slots_full {z : PH} : ∀ {fs : List PV} {sl : List (Option Value)}, RepOL B z (fs.map some) sl → ∃ xs, sl = xs.map some ∧ RepL B z fs xs
  | [], _, h => by cases h; exact ⟨[], rfl, rfl⟩
  | f :: fs, _, ⟨v, vs, e, hv, h⟩ => by
    obtain ⟨x, e', hx⟩ := hv
    obtain ⟨xs, e'', hr⟩ := slots_full h
    subst e e' e''
    exact ⟨x :: xs, rfl, x, xs, rfl, hx, hr⟩

theorem callCls {d : Nat} (X : K.In B.heap) (hm : makesIn K C = true) (hi : findIn K (.ref C) "__init__" = some (some (.ref fI))) (hf : typeIn K (.ref fI) = some (.type "function"))
    {vs : List PV} {H : AH} {Q : PV → AH → Prop}
    (h : ∀ x, H x = none → CallCode B d (.ref fI) (.ref x :: vs) (H.upd x (.inst C [])) (fun v H' => v = .none ∧ ∃ fs : List PV, H' x = some (.inst C (fs.map some)) ∧ Q (.node C fs) (H'.del x))) :
    CallCode B (d + 1) (.ref C) vs H Q := by
  intro z P s A vals R SC hr
  obtain ⟨hp, g, dr, t, os⟩ := s
  have X' := X.keeps SC.bin
  have SC1 := SC.pushFrozen (o := emptyDict) rfl
  have hzd : zadd z hp.objs.size emptyDict hp.objs.size = some emptyDict := zadd_self _ _ _
  have SC2 := SC1.pushOwn (o := instObj C hp.objs.size) (x := .inst C []) rfl ⟨hp.objs.size, #[], rfl, hzd, rfl⟩
  have hfr := SC1.hfresh
  dsimp only at SC2 hfr
  rw [Heap.size_push] at SC2 hfr
  refine make_core (makes_of X' hm) (looks_findIn X' hi) (fun self => bind_fn X' self hf) (.inl rfl) ?_
  have R' : Room d (A.under (.builtin "type.__call__" ⟨.ref C :: vals, []⟩)) :=
    ⟨R.h, by have := R.dep; show A.depth + 1 + 3 * d + 20 ≤ 1000; lia, by have := R.un; show A.units + 1 + 20 * d + 1000 ≤ 9900; lia⟩
  refine codeAny_mono (h _ hfr _ P _ _ (.ref (hp.objs.size + 1) :: vals) R' SC2 ⟨_, _, rfl, rfl, hr.mono (zadd_le SC.zfresh)⟩) ?_
  rintro r s' hrs
  rcases r with e | (v | _ | _ | _) <;> first | exact hrs.elim | skip
  obtain ⟨z', p, H', le, S', rv, rfl, fs, hx, hq⟩ := hrs
  cases rv
  obtain ⟨hz, o, ho, dd, sl, rfl, hzd', hsl⟩ := S'.hin _ _ hx
  obtain ⟨xs, hxs, hrl⟩ := slots_full hsl
  have hP : P (hp.objs.size + 1) = none := by
    cases hP : P (hp.objs.size + 1) with
    | none => rfl
    | some o => have := (S'.pin _ o hP).2.2; rw [hx] at this; cases this
  refine ⟨rfl, _, .node C fs, H'.del _, ((zadd_le SC.zfresh).trans le).trans (zadd_le hz), (S'.drop _ (by rw [hx]; exact trivial)).freeze ho hz hP (by simp [AH.del]), ⟨_, dd, sl, xs, rfl, zadd_self _ _ _, zadd_le hz _ _ hzd', hxs, hrl.mono (zadd_le hz)⟩, hq⟩
end
noncomputable def Con (B : Base) (d : Nat) (nm : Str) (vs : List PV) (r : PV) : Prop :=
  ∃ fv, B.mg nm = some fv ∧ KeepOk B fv ∧ ∀ H, CallSem B d fv vs H (fun v H' => v = r ∧ H' = H)
structure FnAt (B : Base) (nm : Str) (params : List Str) (np : Nat) (exP : List PV) (vars : List Str) (ms : List MS) : Prop where
  it : ∃ fv, B.mg nm = some fv ∧ FnOK B fv params np exP vars ms
noncomputable def keq (r : PV) (H : AH) : KE := fun v H' => v = r ∧ H' = H
noncomputable def isRet (r : PV) (H : AH) : KS := kdef (keq r H)
theorem conDef {B : Base} {T : Tab} {d : Nat} (G : GoodB B) (GT : GoodT B T) {nm : Str} {params : List Str} {np : Nat} {exP : List PV} {vars : List Str} {ms : List MS} (F : FnAt B nm params np exP vars ms) {vs : List PV} {r : PV}
    (hl : vs.length = np) (h : ∀ H, vcSs B T d ms (isRet r H) (initLoc (vs ++ exP) vars.length) H) : Con B (d + 1) nm vs r := by
  obtain ⟨fv, hm, F⟩ := F.it
  exact ⟨fv, hm, F.keep, fun H => callDef G GT F hl (h H)⟩
theorem Con.le {B : Base} {d d' : Nat} {nm : Str} {vs : List PV} {r : PV} (h : Con B d nm vs r) (hd : d ≤ d') : Con B d' nm vs r :=
  by obtain ⟨fv, a, b, c⟩ := h; exact ⟨fv, a, b, fun H => (c H).le hd⟩
theorem Con.b {B : Base} {d : Nat} {nm : Str} {vs : List PV} {r : PV} (h : Con B d nm vs r) : ∃ fv, B.mg nm = some fv ∧ KeepOk B fv := by obtain ⟨fv, a, b, _⟩ := h; exact ⟨fv, a, b⟩
theorem Con.use {B : Base} {d : Nat} {nm : Str} {vs : List PV} {r : PV} (h : Con B d nm vs r) {H : AH} {Q : KE} (q : Q r H) : calB B d nm vs Q H := by
  obtain ⟨fv, a, b, c⟩ := h
  unfold calB
  exact ⟨fv, a, b, (c H).mono (by rintro _ _ ⟨rfl, rfl⟩; exact q)⟩

theorem upd_self (H : AH) (a : Addr) (o : AO) : (H.upd a o) a = some o := by simp [AH.upd]
theorem upd_upd (H : AH) (a : Addr) (o p : AO) : (H.upd a o).upd a p = H.upd a p := by
  funext b; unfold AH.upd; split <;> rfl
theorem del_upd {H : AH} {a : Addr} (h : H a = none) (o : AO) : (H.upd a o).del a = H := by
  funext b
  by_cases e : b = a
  · subst e; simp [AH.upd, AH.del, h]
  · simp [AH.upd, AH.del, e]
theorem drop_get {α : Type} {s : List α} {a : Nat} {c : α} (h : s[a]? = some c) : s.drop a = c :: s.drop (a + 1) := by
  obtain ⟨hl, rfl⟩ := List.getElem?_eq_some_iff.mp h
  exact List.drop_eq_getElem_cons hl
theorem drop_none {α : Type} {s : List α} {a : Nat} (h : s[a]? = none) : s.drop a = [] := List.drop_eq_nil_of_le (List.getElem?_eq_none_iff.mp h)
theorem get_drop {α : Type} {s r : List α} {a : Nat} {c : α} (h : s.drop a = c :: r) : s[a]? = some c ∧ s.drop (a + 1) = r := by
  have h1 : (s.drop a)[0]? = some c := by rw [h]; rfl
  rw [List.getElem?_drop] at h1
  have : s.drop (a + 1) = (s.drop a).drop 1 := by rw [List.drop_drop]
  exact ⟨h1, by rw [this, h]; rfl⟩
theorem get_drop_nil {α : Type} {s : List α} {a : Nat} (h : s.drop a = []) : s[a]? = none := List.getElem?_eq_none_iff.mpr (List.drop_eq_nil_iff.mp h)

theorem take1_drop {s : List Nat} {a : Nat} : (s.drop a).take 1 = match s[a]? with | some c => [c] | none => [] := by
  cases h : s[a]? with
  | none => rw [drop_none h]; rfl
  | some c => rw [drop_get h]; rfl
theorem sw1 (s : List Nat) (c i : Nat) : startsAt s [c] i = decide (s[i]? = some c) := by
  unfold startsAt
  rw [Bool.eq_iff_iff]
  simp only [List.length_cons, List.length_nil, Bool.and_eq_true, beq_iff_eq, decide_eq_true_eq]
  rw [take1_drop]
  cases h : s[i]? with
  | none => simp
  | some x =>
    have := (List.getElem?_eq_some_iff.mp h).1
    simp; lia

noncomputable def chPV (ch : List (List Nat)) : List PV := ch.map PV.str
theorem chPV_snoc (ch : List (List Nat)) (x : List Nat) : chPV ch ++ [.str x] = chPV (ch ++ [x]) := by simp [chPV]
theorem chPV_nil : chPV [] = [] := rfl
theorem chPV_len (ch : List (List Nat)) : (chPV ch).length = ch.length := by simp [chPV]
theorem allStr_chPV : ∀ ch : List (List Nat), allStr (chPV ch) = some ch
  | [] => rfl
  | x :: r => by
    show (allStr (chPV r)).map _ = _
    rw [allStr_chPV r]; rfl
theorem take_snoc {s : List Nat} {a p c : Nat} (h : s[p]? = some c) (ha : a ≤ p) : (s.drop a).take (p + 1 - a) = (s.drop a).take (p - a) ++ [c] := by
  rw [show p + 1 - a = p - a + 1 by lia, List.take_succ, List.getElem?_drop, show a + (p - a) = p by lia, h]; rfl
end Mine
end

section
set_option tactic.hygienic false
set_option maxRecDepth 100000
set_option genInjectivity false
set_option genSizeOf false
namespace Mine
open PySem PySem.W PySem.Calls PyProof.Rows PySem.Builtin PySem.Builtin.Str PySem.NumText

section
variable {B : Base} {T : Tab} {d : Nat} {z P : PH} {vars : List Str} {L : Addr} {ρ : Loc} {H : AH} {s : Shared} {A : Around} {E : Value → Shared → Prop}

theorem keepsToks {s : Shared} {t : Nat} : Keeps s { s with toks := t } := ⟨s.heap, t, rfl, fun xx xx e => e⟩
theorem keepsTrans {s s' s'' : Shared} (a : Keeps s s') (b : Keeps s' s'') : Keeps s s'' := by
  obtain ⟨h, t, rfl, k⟩ := a
  obtain ⟨h', t', rfl, k'⟩ := b
  exact ⟨h', t', rfl, fun b o e => k' b o (k b o e)⟩

theorem ifG_inv {sc : Scope} {x : Str} {t : List Nat} {a b : GE} {e : Expr} (h : chkG sc x (.ifeq t a b) e = true) :
    ∃ p c k p2 p3 ea eb p4, e = .IfExp (.Compare (.Name x p) [.Eq] [.Constant c k p2] p3) ea eb p4 ∧ cPV (.str t) c = true ∧ chkG sc x a ea = true ∧ chkG sc x b eb = true := by
  obtain ⟨q, h⟩ := any_inv h
  obtain ⟨h1, h0, h2, h3, h4⟩ := ands5 h
  exact ⟨_, _, _, _, _, _, _, _, q.2.trans (congrArg (fun y => Expr.IfExp y _ _ _) (cmp_eq (congrArg (Expr.Name · _) (beq_iff_eq.mp h1)) (congrArg (fun z => [z]) (beq_iff_eq.mp h0)) rfl)), h2, h3, h4⟩
theorem getG_inv {sc : Scope} {x nm : Str} {ks vs : List (List Nat)} {e : Expr} (h : chkG sc x (.get nm ks vs) e = true) :
    ∃ p p1 p2 p3 p4, e = .Call (.Attribute (.Name nm p) ("get" : Str) p1) [.Name x p2, .Name x p3] [] p4 ∧ glb sc nm = true ∧ (p1.endLine == p4.line) = true := by
  obtain ⟨q, h⟩ := any_inv h
  obtain ⟨g0, g1, g2, g3, g4, h5, h6⟩ := ands7 h
  exact ⟨_, _, _, _, _, q.2.trans (call_eq (attr_eq (congrArg (Expr.Name · _) (beq_iff_eq.mp g1)) (beq_iff_eq.mp g2)) (two_eq (congrArg (Expr.Name · _) (beq_iff_eq.mp g3)) (congrArg (Expr.Name · _) (beq_iff_eq.mp g4))) (nil_inv g0)), h5, h6⟩
noncomputable def GEv (g : GE) (c : Nat) (s : Shared) : Value → Shared → Prop := fun y s₃ => (∃ t, y = .str (sOf (g.val c)) t) ∧ Keeps s s₃
section
variable {csc : Scope} {x : Str} {C : Addr} {cenv : Env} {c : Nat} {u : Tok} {m : Str → Option Value}
theorem nmG {p : Pos} {Q : Value → Shared → Prop} (V : EnvOK cenv [x] csc C) (hn : s.heap.Ns C m) (hx : m x = some (.str (sOf [c]) u)) (hq : Q (.str (sOf [c]) u) s) : wpAny (model B.prog B.w) A (eval (.Name x p) cenv) Q E s :=
  wpAny_Name (wpAny_loadName_local V.scope_kind (V.local List.mem_cons_self) (by rw [V.hL]; exact hn) hx hq) (V.loc _ List.mem_cons_self).2
theorem get_ok {nm : Str} {ks vs : List (List Nat)} {p p1 p2 p3 p4 : Pos} (G : GoodB B) (V : EnvOK cenv [x] csc C) (hc : c < 1114112) (ho : GE.ok B (.get nm ks vs)) (hb : BaseIn B s) (hn : s.heap.Ns C m) (hx : m x = some (.str (sOf [c]) u))
    (h5 : glb csc nm = true) (h6 : (p1.endLine == p4.line) = true) : wpAny (model B.prog B.w) A (eval (.Call (.Attribute (.Name nm p) ("get" : Str) p1) [.Name x p2, .Name x p3] [] p4) cenv) (GEv (.get nm ks vs) c s) E s := by
  obtain ⟨gv, hg, hr⟩ := ho
  have rc : Rep B B.heap.get? (.str [c]) (.str (sOf [c]) u) := ⟨sok_one hc, u, rfl⟩
  have hm := recv_type (f := .get) (o := .dct ks (vs.map .str)) (P := True) trivial hr hb
  refine wpAny_Call_method (base_plain rfl) rfl h6 F.plainAttrs_dict F.slot_dict_get F.type_dict_get (glob_ok V G hb h5 hg ⟨hm.1, hm.2.1, ?_⟩)
  refine callWith_builtin rfl (spliced_all rfl (spliced_cons (nmG V hn hx (spliced_cons (nmG V hn hx (spliced_nil ?_))))))
  refine methK_ok (f := .get) (ps := [.str [c], .str [c]]) (o := .dct ks (vs.map .str)) (K := fun r => r = (assocP [c] ks (vs.map .str)).getD (.str [c])) (Eq.refl ((assocP [c] ks (vs.map PV.str)).getD (PV.str [c]))) hr ⟨_, _, rfl, rc, _, _, rfl, rc, rfl⟩ hb fun r hr0 v t ht hv => ?_
  rw [hr0, assocS_P] at hv
  refine ⟨?_, s.heap, t, rfl, fun xx xx e => e⟩
  show ∃ t, v = .str (sOf ((assocS [c] ks vs).getD [c])) t
  cases hk : assocS [c] ks vs with
  | none => rw [hk] at hv; exact hv.2
  | some w => rw [hk] at hv; exact hv.2
theorem if_ok {t : List Nat} {a b : GE} {p p2 p3 p4 : Pos} {k : Nat} {cst : Const} {ea eb : Expr} (V : EnvOK cenv [x] csc C) (R : Room d A) (hc : c < 1114112) (hn : s.heap.Ns C m) (hx : m x = some (.str (sOf [c]) u)) (h2 : cPV (.str t) cst = true)
    (ha : ∀ t, wpAny (model B.prog B.w) A (eval ea cenv) (GEv a c { s with toks := t }) E { s with toks := t }) (hb : ∀ t, wpAny (model B.prog B.w) A (eval eb cenv) (GEv b c { s with toks := t }) E { s with toks := t }) :
    wpAny (model B.prog B.w) A (eval (.IfExp (.Compare (.Name x p) [.Eq] [.Constant cst k p2] p3) ea eb p4) cenv) (GEv (.ifeq t a b) c s) E s := by
  refine wpAny_IfExp (wpAny_isTrue_Compare1 (nmG V hn hx (const_ok (B := B) (z := fun xx => none) h2 fun v k ht hr => ?_)) rfl)
  refine cmpK_ok (z := fun xx => none) (op := .Eq) (a := .str [c]) (b := .str t) (K := fun x => x = ⟨[c] = t, inferInstance⟩) rfl ⟨sok_one hc, u, rfl⟩ hr (fun a o e => by cases e) R fun k' hk' ht' hle => wpAny_truthy_bool ?_
  subst hk'
  by_cases q : [c] = t
  · rw [show DP.dec ⟨[c] = t, inferInstance⟩ = true from decide_eq_true q, if_pos rfl]
    refine wpAny_mono (ha ht') (fun y s' h => ⟨?_, keepsTrans keepsToks h.2⟩) (fun xx xx e => e)
    rw [show GE.val (.ifeq t a b) c = a.val c from if_pos q]; exact h.1
  · rw [show DP.dec ⟨[c] = t, inferInstance⟩ = false from decide_eq_false q, if_neg Bool.false_ne_true]
    refine wpAny_mono (hb ht') (fun y s' h => ⟨?_, keepsTrans keepsToks h.2⟩) (fun xx xx e => e)
    rw [show GE.val (.ifeq t a b) c = b.val c from if_neg q]; exact h.1
theorem gE_ok (G : GoodB B) (V : EnvOK cenv [x] csc C) (R : Room d A) (hc : c < 1114112) (hx : m x = some (.str (sOf [c]) u)) {E : Value → Shared → Prop} (g : GE) : ∀ {e : Expr} {s : Shared},
    chkG csc x g e = true → g.ok B → BaseIn B s → s.heap.Ns C m → wpAny (model B.prog B.w) A (eval e cenv) (GEv g c s) E s := by
  induction g with
  | arg =>
    intro e s h _ _ hn
    obtain ⟨q, h⟩ := any_inv h
    rw [q.2, beq_iff_eq.mp h]
    exact nmG V hn hx ⟨⟨u, rfl⟩, s.heap, s.toks, rfl, fun xx xx e => e⟩
  | str t =>
    intro e s h _ _ _
    obtain ⟨q, h⟩ := any_inv h
    rw [q.2]
    refine const_ok (B := B) (z := fun xx => none) h fun v k ht hr => ?_
    exact ⟨hr.2, s.heap, k, rfl, fun xx xx e => e⟩
  | ifeq t a b iha ihb =>
    intro e s h ho hb hn
    obtain ⟨p, cst, k, p2, p3, ea, eb, p4, rfl, h2, h3, h4⟩ := ifG_inv h
    exact if_ok V R hc hn hx h2 (fun t => iha (s := { s with toks := t }) h3 ho.1 hb hn) (fun t => ihb (s := { s with toks := t }) h4 ho.2 hb hn)
  | get nm ks vs =>
    intro e s h ho hb hn
    obtain ⟨p, p1, p2, p3, p4, rfl, h5, h6⟩ := getG_inv h
    exact get_ok G V hc ho hb hn hx h5 h6
end

theorem StC.growTbl {p : Addr} {c : Addr} {ps : Array Value} {h' : Heap} {t : Nat} {o : Obj} (S : StC B z P H s) (hH : H p = some (.tbl c p ps)) (ht : s.toks ≤ t) (hs : Heap.ExtBut p s.heap h') (ho : h'.get? p = some o) (hr : ORep B z o (.tbl c p ps)) :
    StC B z P H { s with heap := h', toks := t } := by
  have hz := (S.hin p _ hH).1
  have hp : P p = none := by
    cases h : P p with
    | none => rfl
    | some o => have := (S.pin p o h).2.2; rw [hH] at this; cases this
  refine ⟨S.base, fun b x e => ?_, fun b x e => ?_, fun b x e => ?_, S.os, S.gens, Nat.lt_of_lt_of_le S.tk.1 ht, S.tk.2⟩
  · exact hs b x (by rintro rfl; rw [hz] at e; cases e) (S.zin b x e)
  · have := S.pin b x e
    exact ⟨hs b x (by rintro rfl; rw [hp] at e; cases e) this.1, this.2⟩
  · obtain ⟨a1, oo, a2, a3⟩ := S.hin b x e
    by_cases q : b = p
    · subst q; rw [hH] at e; cases e; exact ⟨a1, o, ho, hr⟩
    · exact ⟨a1, oo, hs b _ q a2, a3⟩
theorem St.growTbl {p : Addr} {c : Addr} {ps : Array Value} {h' : Heap} {t : Nat} {o : Obj} (S : St B z P vars L ρ H s) (hH : H p = some (.tbl c p ps)) (ht : s.toks ≤ t) (hs : Heap.ExtBut p s.heap h') (ho : h'.get? p = some o) (hr : ORep B z o (.tbl c p ps)) :
    St B z P vars L ρ H { s with heap := h', toks := t } := by
  have hl : L ≠ p := by rintro rfl; have := S.lh; rw [hH] at this; cases this
  exact ⟨S.c.growTbl hH ht hs ho hr, S.lz, S.lp, S.lh, by obtain ⟨m, a1, a2⟩ := S.loc; exact ⟨m, a1.extBut hs hl, a2⟩⟩

theorem codeHead_isCode {c p : Addr} {ps : Array Value} {h : Heap} (K : CodeHead B c p) (hb : ∀ a o, B.heap.get? a = some o → h.get? a = some o) (ho : h.get? p = some { cls := .none, data := .fields ps }) (ht : TriplesOk ps.toList) :
    h.IsCode c p ps ∧ h.TableAt c p ps := by
  obtain ⟨hne, o, vs, file, tf, flags, tg, inF, text, tt, h1, h2, h3, h4, h5, h6, h7, h8, h9⟩ := K
  exact ⟨⟨o, vs, file, tf, flags, tg, inF, text, tt, _, hb _ _ h1, h3, h5, h6, h7, h8, h9, ho, rfl, ht, hne⟩, ⟨o, vs, hb _ _ h1, h2, h3, h4⟩, ho⟩

theorem genCode_ok {env : Env} {c p : Addr} {ps : Array Value} {pos : Pos} {qn : Str} {scope : Scope} {Q : Value → Shared → Prop} (S : St B z P vars L ρ H s) (hcode : env.code = .ref c) (ht : (c, p, ps) ∈ B.tabs)
    (hq : ∀ code h' t, s.toks ≤ t → Heap.ExtBut p s.heap h' → s.heap.objs.size ≤ h'.objs.size → St B z P vars L ρ H { s with heap := h', toks := t } → Q code { s with heap := h', toks := t }) :
    wpAny (model B.prog B.w) A (genexprCode env pos qn scope) Q E s := by
  have hH := S.c.tk.2 _ ht
  dsimp only at hH
  obtain ⟨hz, o, ho, K, more, rfl, htr⟩ := S.c.hin p _ hH
  obtain ⟨hic, hta⟩ := codeHead_isCode K (fun a o e => S.c.zin _ _ (S.c.base _ _ e)) ho htr
  cases hnf : codeAmong pos (ps ++ more).toList with
  | some c' => exact wpAny_genexprCode_hit hcode hic hnf (hq _ s.heap s.toks (Nat.le_refl _) (fun xx xx xx e => e) (Nat.le_refl _) S)
  | none =>
    refine wpAny_with_toks (Nat.le_refl _) (wpAny_genexprCodeX hcode hic hta hnf fun c' h' tk hx hge hlt hic' hrec hta' hP htk => ?_)
    obtain ⟨_, _, _, _, _, _, _, _, _, op, _, _, _, _, _, _, _, g1, g2, g3, _⟩ := hic'
    rw [hta'.2] at g1
    cases g1
    refine hq _ h' tk htk hx (Nat.le_trans hge (Nat.le_of_lt hlt)) (S.growTbl hH htk hx hta'.2 ⟨K, more ++ #[rawInt pos.line, rawInt pos.col, .ref c'], by rw [Array.append_assoc], ?_⟩)
    cases g2
    rw [← Array.append_assoc]; exact g3

noncomputable def GoodM (B : Base) : Prop := ∃ bm o, B.mg "__builtins__" = some (.ref bm) ∧ bm ≠ builtinsNs ∧ B.heap.get? bm = some o ∧ o.cls = .type "module" ∧ o.dict = some builtinsNs ∧ o.data = .plain

theorem St.moved {s' : Shared} (S : St B z P vars L ρ H s) (hk : ∀ b o, s.heap.get? b = some o → s'.heap.get? b = some o) (ho : s'.os = s.os) (hg : AllBare s'.gens) (ht : s.toks ≤ s'.toks) : St B z P vars L ρ H s' :=
  (S.keeps (h' := s'.heap) (t := s'.toks) ht hk).ofHeap rfl ho hg (Nat.le_refl _)

theorem St.retok {t : Nat} (S : St B z P vars L ρ H s) (h : 0 < t) : St B z P vars L ρ H { s with toks := t } :=
  ⟨⟨S.c.base, S.c.zin, S.c.pin, S.c.hin, S.c.os, S.c.gens, h, S.c.tk.2⟩, S.lz, S.lp, S.lh, S.loc⟩
theorem range_get? (n j : Nat) : (List.range n)[j]? = if j < n then some j else none := by
  by_cases h : j < n
  · simp [h]
  · simp [h]
theorem passing_all (n : Nat) : passing (fun xx => true) n 0 = List.range n := by
  unfold passing; simp

theorem flat_len {f : Nat → List Nat} (w : List Nat) : (∀ k ∈ w, (f k).length ≤ 100) → (w.flatMap f).length ≤ 100 * w.length := by
  induction w with
  | nil => intro _; exact Nat.le_refl _
  | cons a r ih =>
    intro h
    have h1 := h a List.mem_cons_self
    have h2 := ih fun k hk => h k (List.mem_cons_of_mem _ hk)
    rw [List.flatMap_cons, List.length_append, List.length_cons]
    lia
theorem join_words {v : List Nat} {g : GE} {n : Nat} {l : List (Str × Tok)} (h1 : (strValues l).length = (passing (fun xx => true) n 0).length) (hn : n = v.length)
    (h2 : ∀ (j : Nat) (y : Value), (strValues l)[j]? = some y → ∃ i, (passing (fun xx => true) n 0)[j]? = some i ∧ ∃ k t, v[i]? = some k ∧ y = Value.str (sOf (g.val k)) t) : l.map (·.1) = (v.map g.val).map sOf := by
  subst hn
  rw [passing_all] at h1 h2
  have hsz : l.length = v.length := by simpa [strValues] using h1
  refine List.ext_getElem? fun j => ?_
  by_cases hj : j < v.length
  · have hj' : j < l.length := hsz ▸ hj
    obtain ⟨i, hi1, k, t, hk, e⟩ := h2 j (.str l[j].1 l[j].2) (by simp [strValues, List.getElem?_eq_getElem hj'])
    rw [range_get?, if_pos hj] at hi1
    obtain rfl := Option.some.inj hi1
    rw [List.getElem?_map, List.getElem?_eq_getElem hj', List.map_map, List.getElem?_map, hk]
    exact congrArg some (Value.str.inj e).1
  · rw [List.getElem?_eq_none (by rw [List.length_map, hsz]; exact Nat.le_of_not_lt hj), List.getElem?_eq_none (by rw [List.length_map, List.length_map]; exact Nat.le_of_not_lt hj)]
theorem genjoin_core {c p : Addr} {ps : Array Value} {sc : Scope} {env : Env} {i : Nat} {v : List Nat} {g : GE} {o elt : Expr} {x vn : Str} {px ip gp apos pos : Pos} {csc : Scope} {Q : PV → AH → Prop}
    (G : GoodB B) (GM : GoodM B) (V : EnvOK env vars sc L) (R : Room (d + 1) A) (S : St B z P vars L ρ H s) (hcode : env.code = .ref c) (htab : (c, p, ps) ∈ B.tabs)
    (ho : ∃ k p0, o = .Constant (.str (sOf [])) k p0) (h4 : (apos.endLine == pos.line) = true) (hc : chkG csc x g elt = true) (hg : g.ok B) (hco : compOk csc x = true) (hcr : csc.isCoroutine = false) (h0 : csc.names.lookup (".0" : Str) = some NameKind.local)
    (hv : getL ρ i = some (.str v)) (hi : locOk vars i vn = true) (hlen : v.length ≤ 100000) (hval : ∀ k ∈ v, (g.val k).length ≤ 100 ∧ ∀ y ∈ g.val k, y < 1114112)
    (hq : Q (.str (v.flatMap g.val)) H) :
    wpAny (model B.prog B.w) A (eval (.Call (.Attribute o ("join" : Str) apos) [.GeneratorExp elt [⟨.Name x px, .Name vn ip, [], 0⟩] csc gp] [] pos) env) (PE B P vars L ρ z Q) E s := by
  obtain ⟨k0, p0, rfl⟩ := ho
  have C := compOk_ok hco
  obtain ⟨bm, ob, b1, b2, b3, b4, b5, b6⟩ := GM
  refine wpAny_with_toks (n := s.toks) (Nat.le_refl _) ?_
  refine wpAny_Call_method (base_plain rfl) rfl h4 F.plainAttrs_str F.slot_str_join F.type_str_join ?_
  refine const_ok (B := B) (z := z) (v := .str []) rfl fun ov t0 ht0 rov => ?_
  obtain ⟨_, u0, rfl⟩ := rov
  have S0 := S.toks ht0
  refine And.intro (typeIs_str _ _ _) (And.intro (fun a e => nomatch e) ?_)
  refine callWith_builtin rfl (spliced_all rfl (spliced_cons ?_))
  have hdep : A.depth < recursionLimit := by
    have h1 := R.dep
    have h2 : recursionLimit = 1000 := rfl
    omega
  refine wpAny_GeneratorExp_walksQD R.h hcr (closure_none C.free) C.cell h0 C.hx C.kind hdep ?_ (fun xx => rfl)
  refine var_ok V S0 hi hv fun xv rxv => ?_
  obtain ⟨sv, tv, rfl⟩ := rxv
  refine wpAny_pyIter_str fun oI StI W hst => ?_
  dsimp only
  generalize hI : s.heap.objs.size = I at *
  have S1 := S0.keeps (t := t0) (h' := s.heap.push oI) (Nat.le_refl _) fun xx xx e => Heap.get?_push_of_some oI e
  have hb1 := S1.c.bin
  refine ⟨G.nolimit.keeps hb1, genCode_ok S1 hcode htab fun code h3 t3 ht3 hx3 hsz3 S3 => ?_⟩
  have hb3 := S3.c.bin
  have hpI : p ≠ I := by
    have hH := S.c.tk.2 _ htab
    obtain ⟨_, o', ho', _⟩ := S.c.hin p _ hH
    rw [← hI]; exact Nat.ne_of_lt (Heap.lt_size ho')
  have hsz1 : (s.heap.push oI).objs.size = I + 1 := by rw [Heap.size_push, hI]
  have hI3 : I < h3.objs.size := Nat.lt_of_lt_of_le (by show I < (s.heap.push oI).objs.size; rw [hsz1]; exact Nat.lt_succ_self _) hsz3
  refine wpAny_builtinsFor (by rw [V.g]; exact G.mg.keeps hb3) b1 b2 (hb3 _ _ b3) b4 b5 b6 ?_
  have hst3 : StI 0 h3 := (W A R.h).frame _ _ _ hst fun b hb o e => by
    rw [List.mem_singleton] at hb; subst hb
    exact hx3 _ o (Ne.symm hpI) e
  have hcs : cStatics < I := by
    obtain ⟨_, hn, _⟩ := G.nolimit
    have := (hn.keeps S.c.bin).lt
    rw [← hI]; exact this
  have VC : EnvOK (genEnv csc [] h3.objs.size code builtinsNs env) [x] csc h3.objs.size := by
    refine ⟨rfl, C.kind, rfl, V.g, rfl, fun y hy => ?_, by simp⟩
    rw [List.mem_singleton] at hy; subst hy
    exact ⟨C.hx, C.dbg⟩
  refine ⟨I, [I], [I], (sOf v).cps.size, SignAt (sOf v), StI, fun xx => true, fun j y => ∃ k t, v[j]? = some k ∧ y = .str (sOf (g.val k)) t, rfl, W, hst3, ?_, G.nolimit.keeps hb3, ?_, ?_, ?_⟩
  · intro b hb
    rw [List.mem_singleton] at hb; subst hb; exact hI3
  · intro hm
    rw [List.mem_singleton] at hm; rw [hm] at hcs; exact Nat.lt_irrefl _ hcs
  · intro href hh
    refine ⟨fun A' E' j y s2 m2 hA hD hU hP hn hx hk => wpAny_pure ⟨rfl, s2.heap, s2.toks, rfl, fun xx xx e => e⟩, fun A' E' j y s2 m2 hA hD hU hP xx hn hx hk => ?_⟩
    obtain ⟨k, u, hk1, rfl⟩ := hP
    have hk2 : v[j]? = some k := by simpa using hk1
    have R' : Room d A' := ⟨hA, by have := R.dep; omega, by have := R.un; omega⟩
    refine wpAny_mono (gE_ok G VC R' (sv.1 k (List.mem_of_getElem? hk2)) hx g hc hg (fun a o e => ?_) hn) ?_ (fun xx xx e => e)
    · have hl := Heap.lt_size (hb3 a o e)
      refine hk a (List.mem_range.mpr hl) ?_ o (hh _ _ (hb3 a o e))
      intro hm
      rw [List.mem_singleton] at hm
      have := Heap.lt_size (S.c.bin a o e)
      rw [hI, hm] at this
      exact Nat.lt_irrefl _ this
    · rintro y s3 ⟨⟨t, rfl⟩, hkp⟩
      exact ⟨⟨k, t, hk2, rfl⟩, hkp⟩
  · intro a h5 tk gs hgb hag hsz5 hk5 W5 hat
    refine spliced_nil ?_
    have hn : (passing (fun xx => true) (sOf v).cps.size 0).length = v.length := by rw [passing_all]; simp
    have hz : zle z z := zle.refl z
    refine SC.joinGen W5.in4_2 (fun i s' st => st.1.typeIs) hat ?_ List.mem_cons_self (fun j y hy => ?_) (fun s' l hm hacc => ?_) ?_
    · intro b hb
      show b < h5.objs.size
      rw [hsz5]
      rcases List.mem_cons.mp hb with rfl | hb
      · exact Nat.lt_succ_self _
      · rcases List.mem_cons.mp hb with rfl | hb
        · exact Nat.lt_succ_of_lt hag
        · exact Nat.lt_succ_of_lt (Nat.lt_trans (List.mem_range.mp hb) hag)
    · obtain ⟨i, _, k, t, _, rfl⟩ := hy
      exact ⟨_, _, rfl⟩
    · have hl := join_words (v := v) (g := g) hacc.1 (by simp) (fun j y e => hacc.2 j y ((List.getElem?_toArray ..).trans e))
      have hfl : (v.map g.val).flatten = v.flatMap g.val := by rw [List.flatMap_def]
      have hL := flat_len v fun k hk => (hval k hk).1
      rw [hl]
      refine ⟨?_, fun t' k hk => ?_⟩
      · unfold JoinOk
        rw [fold_len, Nat.zero_add, hfl]
        unfold tooLong
        rw [sizeLine_is, Bool.not_eq_true', decide_eq_false_iff_not]
        omega
      · have hj : Txt.join (sOf []) ((v.map g.val).map sOf) = sOf (v.flatMap g.val) := by
          show glued _ _ = _
          rw [glued_empty, hfl]
        rw [hj]
        have hzI : z I = none := by rw [← hI]; exact S.c.zfresh
        have hPI : P I = none := by rw [← hI]; exact S.c.pfresh
        have hHI : H I = none := by rw [← hI]; exact S.c.hfresh
        have hLI : L ≠ I := by rw [← hI]; exact Nat.ne_of_lt S.llt
        have hkk : 0 < k := Nat.lt_of_lt_of_le S.c.tk.1 hk
        have S6 := (S3.retok hkk).chg (a := I) (P' := P) (h' := s'.heap) (t := k) (fun xx xx e => e) hPI hzI hHI hLI (Nat.le_refl _) fun b o hb hbo => ?_
        · exact ⟨z, .str (v.flatMap g.val), H, hz, S6.ofHeap (s' := { s' with toks := k }) rfl (hm.os.trans rfl) ((S3.c.gens.push hgb).moved hm.gens) (Nat.le_refl _), ⟨⟨fun y hy => by
            obtain ⟨k, hk, hy⟩ := List.mem_flatMap.mp hy
            exact (hval k hk).2 y hy, by omega⟩, t', rfl⟩, hq⟩
        · refine hm.heap b o (fun hmem => ?_) (hk5 b o hbo)
          rcases List.mem_cons.mp hmem with e | hmem
          · exact Nat.lt_irrefl _ (e ▸ Heap.lt_size hbo)
          · rw [List.mem_singleton] at hmem; exact hb hmem
    · rw [hn, sizeLine_is]; omega

structure JoinFn (B : Base) (fv : Value) (g : GE) (vn : Str) (c p : Addr) (ps : Array Value) : Prop where
  fn : FnOK B fv [vn] 1 [] [vn] [.ret .bad]
  tab : (c, p, ps) ∈ B.tabs
  it : ∀ a o fd, fv = .ref a → B.heap.get? a = some o → o.data = .func fd → fd.code = .ref c ∧ ∀ body, fd.body = .stmts body → joinChk g vn body = true
  ok : g.ok B

theorem joinChk_inv {g : GE} {vn : Str} {body : List Stmt} (h : joinChk g vn body = true) : ∃ k p0 apos elt x px ip csc gp pos rp,
    body = [.Return (some (.Call (.Attribute (.Constant (.str (sOf [])) k p0) ("join" : Str) apos) [.GeneratorExp elt [⟨.Name x px, .Name vn ip, [], 0⟩] csc gp] [] pos)) rp] ∧ (apos.endLine == pos.line) = true ∧ chkG csc x g elt = true ∧ compOk csc x = true ∧ csc.isCoroutine = false ∧ csc.names.lookup (".0" : Str) = some NameKind.local := by
  obtain ⟨q, h⟩ := any_inv h
  obtain ⟨k1, k2⟩ := ands h
  obtain ⟨j0, j1, j2, j3, j4⟩ := ands5 k1
  obtain ⟨j5, j6, j7, j8⟩ := ands4 k2
  exact ⟨_, _, _, _, _, _, _, _, _, _, _, q.2.trans (congrArg (fun z => [Stmt.Return (some z) _]) (call_eq (attr_eq (congrArg (fun z => Expr.Constant (.str z) _ _) (beq_iff_eq.mp j1)) (beq_iff_eq.mp j2)) (congrArg (fun z => [Expr.GeneratorExp _ [⟨_, .Name z _, [], 0⟩] _ _]) (beq_iff_eq.mp j3)) (nil_inv j0))), j4, j5, j6, nots j7, beq_iff_eq.mp j8⟩
theorem callJoin (G : GoodB B) (GM : GoodM B) {fv : Value} {g : GE} {vn : Str} {c p : Addr} {ps : Array Value} (F : JoinFn B fv g vn c p ps) {v : List Nat} (hlen : v.length ≤ 100000) (hval : ∀ k ∈ v, (g.val k).length ≤ 100 ∧ ∀ y ∈ g.val k, y < 1114112) (H : AH) :
    CallSem B (d + 2) fv [.str v] H (fun r H' => r = .str (v.flatMap g.val) ∧ H' = H) := by
  refine CallCode.sem fun z P s A vals R SC hr => callCore (k := 0) G F.fn rfl R (Nat.zero_le _) SC hr fun ha ho hd hbody xx hc V R' S => ?_
  obtain ⟨hcode, hjn⟩ := F.it _ _ _ ha ho hd
  obtain ⟨k0, p0, apos, elt, x, px, ip, csc, gp, pos, rp, rfl, j4, j5, j6, j7, j8⟩ := joinChk_inv (hjn _ hbody)
  refine wpAny_execs_cons (wpAny_Return_some (wpAny_mono (genjoin_core (E := NoExc) (Q := fun r H' => r = .str (v.flatMap g.val) ∧ H' = H) (i := 0) (v := v) G GM V R' S (hc.trans hcode) F.tab ⟨_, _, rfl⟩ j4 j5 F.ok j6 j7 j8 rfl (loc1 _) hlen hval ⟨rfl, rfl⟩) ?_ (fun xx xx => no _ _)))
  rintro y s₁ ⟨z₁, r, H₁, le₁, S₁, ry, hq⟩
  exact ⟨z₁, r, H₁, le₁, S₁.c, ry, hq⟩
theorem conJoin (G : GoodB B) (GM : GoodM B) {nm : Str} {fv : Value} {g : GE} {vn : Str} {c p : Addr} {ps : Array Value} (hm : B.mg nm = some fv) (F : JoinFn B fv g vn c p ps) {v : List Nat} (hlen : v.length ≤ 100000) (hval : ∀ k ∈ v, (g.val k).length ≤ 100 ∧ ∀ y ∈ g.val k, y < 1114112) :
    Con B (d + 2) nm [.str v] (.str (v.flatMap g.val)) := ⟨fv, hm, F.fn.keep, callJoin G GM F hlen hval⟩
end
end Mine
end

section
set_option tactic.hygienic false
set_option maxRecDepth 10000
set_option backward.match.sparseCases false
set_option genInjectivity false
set_option genSizeOf false
namespace Mine
open PySem PySem.W

theorem tst_iff {c : DP} {b : Bool} {X Y : Prop} (e : c.p ↔ b = true) (x : b = true → X) (y : b = false → Y) : tst c X Y := by
  cases b with
  | true => exact tst_both (fun xx => x rfl) (fun n => (n (e.mpr rfl)).elim)
  | false => exact tst_both (fun h => nomatch e.mp h) (fun xx => y rfl)
theorem tst_dT {X Y : Prop} (x : X) : tst dT X Y := tst_pos trivial x
theorem tst_dF {X Y : Prop} (y : Y) : tst dF X Y := tst_neg id y
theorem dec_eq {p : Prop} {i : Decidable p} {b : Bool} (h : p ↔ b = true) : DP.dec ⟨p, i⟩ = b := by
  cases b with
  | true => exact decide_eq_true (h.mpr rfl)
  | false => exact decide_eq_false fun x => nomatch h.mp x
theorem dec_not (c : DP) : c.not.dec = !c.dec := @decide_not c.p c.i (@instDecidableNot c.p c.i)
theorem tst_dec {p : Prop} {i : Decidable p} {X Y : Prop} (x : p → X) (y : ¬ p → Y) : tst (dB (DP.dec ⟨p, i⟩)) X Y := tst_both (fun h => x (of_decide_eq_true h)) (fun h => y fun q => h (decide_eq_true q))
theorem tst_decp {p : Prop} {i : Decidable p} {X Y : Prop} (h : p) (x : X) : tst (dB (DP.dec ⟨p, i⟩)) X Y := tst_pos (decide_eq_true h) x
theorem tst_decn {p : Prop} {i : Decidable p} {X Y : Prop} (h : ¬ p) (y : Y) : tst (dB (DP.dec ⟨p, i⟩)) X Y := tst_neg (fun q => h (of_decide_eq_true q)) y
theorem dec_t {p : Prop} {i : Decidable p} (h : p) : DP.dec ⟨p, i⟩ = true := decide_eq_true h
theorem dec_f {p : Prop} {i : Decidable p} (h : ¬ p) : DP.dec ⟨p, i⟩ = false := decide_eq_false h
theorem wh_mk {vt : VT} {vb ve : VS} {Q : KS} {ρ : Loc} {H : AH} (I : Nat → Loc → AH → Prop) (n : Nat) (h : I n ρ H) (st : ∀ n ρ H, I n ρ H → vt (kwh vb ve I n Q ρ) ρ H) : whB vt vb ve Q ρ H := by
  unfold whB; exact ⟨I, n, h, st⟩
theorem for_mk {i : Nat} {xs : List PV} {vb : VS} {Q : KS} {ρ : Loc} {H : AH} (I : List PV → Loc → AH → Prop) (h : I xs ρ H) (st : ∀ x r ρ H, I (x :: r) ρ H → vb (kforb I r Q) (setL ρ i x) H) (e : ∀ ρ H, I [] ρ H → Q .next ρ H) : forB i xs vb Q ρ H := by
  unfold forB; exact ⟨I, h, st, e⟩
theorem app_mk {l : Addr} {y : PV} {Q : KE} {H : AH} {vs : List PV} (h : H l = some (.list vs)) (hl : vs.length ≤ 1000000) (q : Q .none (H.upd l (.list (vs ++ [y])))) : appB l y Q H := by
  unfold appB; exact ⟨vs, h, hl, q⟩
theorem sat_mk {T : Tab} {nm : Str} {l : Addr} {v : PV} {Q : AH → Prop} {H : AH} {c : Addr} {fs : List (Option PV)} {i : Nat} (h : H l = some (.inst c fs)) (hs : T.sat c nm = some i) (hi : i < 1000) (q : Q (H.upd l (.inst c (slotSet fs i v)))) : satB T nm l v Q H := by
  unfold satB; exact ⟨c, fs, i, h, hs, hi, q⟩

theorem slice1_some {s : List Nat} {a c : Nat} (h : s[a]? = some c) : (s.drop a).take (a + 1 - a) = [c] := by
  rw [Nat.add_sub_cancel_left, take1_drop, h]
theorem slice1_none {s : List Nat} {a : Nat} (h : s[a]? = none) : (s.drop a).take (a + 1 - a) = [] := by
  rw [Nat.add_sub_cancel_left, take1_drop, h]
theorem get_lt {α : Type} {s : List α} {a : Nat} {c : α} (h : s[a]? = some c) : a < s.length := (List.getElem?_eq_some_iff.mp h).1
theorem get_ge {α : Type} {s : List α} {a : Nat} (h : s[a]? = none) : s.length ≤ a := List.getElem?_eq_none_iff.mp h
theorem cons1 {a b : Nat} (h : [a] = [b]) : a = b := (List.cons.inj h).1
theorem tst_bf {b : Bool} {X Y : Prop} (h : b = false) (y : Y) : tst (dB b) X Y := tst_neg (by rw [h]; exact Bool.false_ne_true) y
theorem tst_bt {b : Bool} {X Y : Prop} (h : b = true) (x : X) : tst (dB b) X Y := tst_pos h x
theorem tst_b {b : Bool} {X Y : Prop} (x : b = true → X) (y : b = false → Y) : tst (dB b) X Y := tst_iff Iff.rfl x y
theorem sw_t {s : List Nat} {c i : Nat} (h : s[i]? = some c) : startsAt s [c] i = true := by rw [sw1]; exact decide_eq_true h
theorem sw_f {s : List Nat} {c i : Nat} (h : ¬ s[i]? = some c) : startsAt s [c] i = false := by rw [sw1]; exact decide_eq_false h
theorem ne_none {c : Nat} {o : Option Nat} (h : o = none) : ¬ o = some c := by rw [h]; exact fun h => nomatch h
theorem ne_some {a c : Nat} {o : Option Nat} (h : o = some a) (n : ¬ a = c) : ¬ o = some c := by rw [h]; exact fun h => n (Option.some.inj h)
theorem lt_no {s : List Nat} {a : Nat} (h : s[a]? = none) : ¬ (a : Int) < (s.length : Int) := fun q => Nat.not_le.mpr (Int.ofNat_lt.mp q) (get_ge h)
theorem lt_yes {s : List Nat} {a c : Nat} (h : s[a]? = some c) : (a : Int) < (s.length : Int) := Int.ofNat_lt.mpr (get_lt h)
theorem upd_snoc {H : AH} {l : Addr} {ch : List (List Nat)} {x : List Nat} : (H.upd l (.list (chPV ch))).upd l (.list (chPV ch ++ [.str x])) = H.upd l (.list (chPV (ch ++ [x]))) := by
  rw [upd_upd, chPV_snoc]
theorem upd_snoc2 {H : AH} {l : Addr} {ch : List (List Nat)} {x y : List Nat} : ((H.upd l (.list (chPV ch))).upd l (.list (chPV ch ++ [.str x]))).upd l (.list (chPV ch ++ [.str x] ++ [.str y])) = H.upd l (.list (chPV (ch ++ [x] ++ [y]))) := by
  rw [upd_upd, upd_upd, chPV_snoc, chPV_snoc]
theorem del_upd2 {H : AH} {l : Addr} (h : H l = none) {o p : AO} : ((H.upd l o).upd l p).del l = H := by rw [upd_upd, del_upd h]
theorem allStr_snoc {ch : List (List Nat)} {x : List Nat} : allStr (chPV ch ++ [.str x]) = some (ch ++ [x]) := by rw [chPV_snoc, allStr_chPV]
theorem flat_snoc {ch : List (List Nat)} {x : List Nat} : (ch ++ [x]).flatten = ch.flatten ++ x := by rw [List.flatten_append, List.flatten_singleton]
theorem chPV_le {ch : List (List Nat)} {n : Nat} (h : ch.length ≤ 2 * n) (hn : n ≤ 100000) : (chPV ch).length ≤ 1000000 := by rw [chPV_len]; lia
theorem chPV_le1 {ch : List (List Nat)} {x : PV} {n : Nat} (h : ch.length ≤ 2 * n) (hn : n ≤ 100000) : (chPV ch ++ [x]).length ≤ 1000000 := by rw [List.length_append, chPV_len, List.length_singleton]; lia
theorem Con.run {B : Base} {d : Nat} {nm : Str} {vs : List PV} {r : PV} {H : AH} {Q : KE} (h : Con B d nm vs r) (q : Q r H) : (∃ fv, B.mg nm = some fv ∧ KeepOk B fv) ∧ calB B d nm vs Q H := ⟨h.b, h.use q⟩
theorem seq_nil {B : Base} {T : Tab} {d : Nat} {vr : VS} {Q : KS} {ρ : Loc} {H : AH} (h : vr Q ρ H) : vcSs B T d [] (kseq vr Q) ρ H := h
theorem seq_next {vr : VS} {Q : KS} {ρ : Loc} {H : AH} (h : vr Q ρ H) : kseq vr Q .next ρ H := h
end Mine
end

section
set_option tactic.hygienic false
set_option maxRecDepth 10000
set_option backward.match.sparseCases false
set_option genInjectivity false
set_option genSizeOf false
namespace Mine
open PySem PySem.W

noncomputable def hexRun : Nat → List Nat → Nat
  | 0, _ => 0
  | _, [] => 0
  | k + 1, c :: r => if isHex c then hexRun k r + 1 else 0

theorem mem_below {l : List Nat} {p : Nat → Bool} (h : ∀ c, c < 128 → decide (c ∈ l) = p c) (hl : ∀ c ∈ l, c < 128) (hp : ∀ c, 128 ≤ c → p c = false) (c : Nat) : c ∈ l ↔ p c = true := by
  by_cases hc : c < 128
  · rw [← h c hc]; simp
  · constructor
    · intro hm; exact absurd (hl c hm) hc
    · intro hm; rw [hp c (Nat.le_of_not_lt hc)] at hm; cases hm

theorem hexChars_is (c : Nat) : c ∈ ([48, 49, 50, 51, 52, 53, 54, 55, 56, 57, 97, 98, 99, 100, 101, 102, 65, 66, 67, 68, 69, 70] : List Nat) ↔ isHex c = true := by
  refine mem_below (by decide) (by decide) (fun c h => ?_) c
  unfold isHex hexV
  rw [if_neg (by lia), if_neg (by lia), if_neg (by lia)]; rfl
noncomputable def isNS0 (c : Nat) : Bool := decide (97 ≤ c ∧ c ≤ 122 ∨ 65 ≤ c ∧ c ≤ 90 ∨ c = 95)
noncomputable def isNS (c : Nat) : Bool := isNS0 c || decide (127 < c)
noncomputable def isNC0 (c : Nat) : Bool := isNS0 c || decide (48 ≤ c ∧ c ≤ 57 ∨ c = 45)
noncomputable def isNC (c : Nat) : Bool := isNC0 c || decide (127 < c)
theorem nsChars_is (c : Nat) : c ∈ ([97, 98, 99, 100, 101, 102, 103, 104, 105, 106, 107, 108, 109, 110, 111, 112, 113, 114, 115, 116, 117, 118, 119, 120, 121, 122, 65, 66, 67, 68, 69, 70, 71, 72, 73, 74, 75, 76, 77, 78, 79, 80, 81, 82, 83, 84, 85, 86, 87, 88, 89, 90, 95] : List Nat) ↔ isNS0 c = true := by
  exact mem_below (p := isNS0) (by decide) (by decide) (fun c h => decide_eq_false (by lia)) c

variable {B : Base} {T : Tab} {d : Nat}
theorem hex_end_ok (G : GoodB B) (GT : GoodT B T) (F : FnAt B "_hex_end" p_hex_end 2 [] v_hex_end m_hex_end) {css : List Nat} {pos : Nat} :
    Con B (d + 1) "_hex_end" [.str css, .int pos] (.int (pos + hexRun 6 (css.drop pos) : Nat)) := by
  refine conDef G GT F rfl fun H => ?_
  generalize hr : pos + hexRun 6 (css.drop pos) = r
  refine wh_mk (fun n ρ H' => ∃ e, ρ = [some (.str css), some (.int pos), some (.int (pos + e : Nat))] ∧ H' = H ∧ pos + e + hexRun (6 - e) (css.drop (pos + e)) = r ∧ n = 6 - e) 6 ⟨0, rfl, rfl, hr, rfl⟩ ?_
  rintro n ρ H' ⟨e, rfl, rfl, he, rfl⟩
  by_cases h6 : e < 6
  · obtain ⟨k, hk⟩ : ∃ k, 6 - e = k + 1 := ⟨5 - e, by lia⟩
    refine tst_pos (by lia) ?_
    rw [hk] at he ⊢
    cases hg : css[pos + e]? with
    | none =>
      rw [drop_none hg] at he
      exact tst_neg (fun h => h (slice1_none hg)) (tst_dF ⟨by rw [← he]; rfl, rfl⟩)
    | some c =>
      rw [drop_get hg] at he
      refine tst_pos (by rw [slice1_some hg]; exact List.cons_ne_nil _ _) ⟨c, hg, tst_iff (hexChars_is c) (fun hc => tst_dT ?_) (fun hc => tst_dF ⟨?_, rfl⟩)⟩
      · rw [hexRun, if_pos hc] at he
        exact ⟨k, Nat.lt_succ_self _, e + 1, rfl, rfl, by rw [← he, show 6 - (e + 1) = k by lia]; show pos + e + 1 + _ = _; rw [Nat.add_assoc (pos + e), Nat.add_comm 1]; rfl, by lia⟩
      · rw [hexRun, if_neg (by rw [hc]; exact Bool.false_ne_true)] at he
        rw [← he]; rfl
  · refine tst_neg (by lia) (tst_dF ⟨?_, rfl⟩)
    rw [show 6 - e = 0 by lia] at he
    rw [← he]; rfl

theorem name_start_ok (G : GoodB B) (GT : GoodT B T) (F : FnAt B "_is_name_start" p_is_name_start 2 [] v_is_name_start m_is_name_start) {css : List Nat} {pos c : Nat} (hg : css[pos]? = some c) :
    Con B (d + 1) "_is_name_start" [.str css, .int pos] (.bool (isNS c)) := by
  refine conDef G GT F rfl fun H => ⟨c, hg, ?_⟩
  generalize hr : isNS c = r
  unfold isNS at hr
  refine tst_iff (b := isNS0 c) (decide_eq_true_iff.trans (nsChars_is c)) (fun h => ⟨?_, rfl⟩) (fun h => ⟨?_, rfl⟩)
  · rw [h] at hr; rw [dec_eq (nsChars_is c), h]; exact congrArg PV.bool hr
  · rw [h] at hr; rw [← hr, Bool.false_or]; exact congrArg PV.bool (decide_eq_decide.mpr (by lia))
noncomputable def blankAt (s : List Nat) (i : Nat) : Bool := match s[i]? with
  | some c => decide (c ∈ [32, 10, 9])
  | none => false
theorem blank_iff (s : List Nat) (a : Nat) : (s.drop a).take (a + 1 - a) ∈ ([[32], [10], [9]] : List (List Nat)) ↔ blankAt s a = true := by
  rw [Nat.add_sub_cancel_left, take1_drop]; unfold blankAt
  cases s[a]? <;> simp
theorem blankAt_drop (s : List Nat) (p n : Nat) : blankAt (s.drop p) n = blankAt s (p + n) := by
  unfold blankAt; rw [List.getElem?_drop]
noncomputable def escSpec (r : List Nat) : Nat × Nat :=
  if 0 < hexRun 6 r then (if 0 < hexNum (r.take (hexRun 6 r)) ∧ hexNum (r.take (hexRun 6 r)) ≤ 1114111 then hexNum (r.take (hexRun 6 r)) else 65533,
    if blankAt r (hexRun 6 r) then hexRun 6 r + 1 else hexRun 6 r)
  else match r with
    | c :: _ => (c, 1)
    | [] => (65533, 0)
theorem hexRun_le : ∀ (k : Nat) (s : List Nat), hexRun k s ≤ k ∧ hexRun k s ≤ s.length ∧ ∀ c ∈ s.take (hexRun k s), isHex c = true
  | 0, s => by simp [hexRun]
  | k + 1, [] => by simp [hexRun]
  | k + 1, c :: r => by
    unfold hexRun
    split
    · rename_i h
      obtain ⟨h1, h2, h3⟩ := hexRun_le k r
      refine ⟨by lia, by simp; lia, ?_⟩
      intro x hx
      rw [List.take_succ_cons] at hx
      rcases List.mem_cons.mp hx with rfl | hx
      · exact h
      · exact h3 x hx
    · simp

theorem escape_ok (G : GoodB B) (GT : GoodT B T) (F : FnAt B "_consume_escape" p_consume_escape 2 [] v_consume_escape m_consume_escape)
    (hh : ∀ (css : List Nat) (pos : Nat), Con B d "_hex_end" [.str css, .int pos] (.int (pos + hexRun 6 (css.drop pos) : Nat))) {css : List Nat} {pos : Nat} :
    Con B (d + 1) "_consume_escape" [.str css, .int pos] (.tup [.str [(escSpec (css.drop pos)).1], .int (pos + (escSpec (css.drop pos)).2 : Nat)]) := by
  refine conDef G GT F rfl fun H => ?_
  generalize hr : PV.tup [.str [(escSpec (css.drop pos)).1], .int (pos + (escSpec (css.drop pos)).2 : Nat)] = r
  refine ⟨(hh css pos).b, (hh css pos).use ?_⟩
  obtain ⟨h1, h2, h3⟩ := hexRun_le 6 (css.drop pos)
  by_cases hn : 0 < hexRun 6 (css.drop pos)
  · have e : pos + hexRun 6 (css.drop pos) - pos = hexRun 6 (css.drop pos) := Nat.add_sub_cancel_left ..
    have hl : ((css.drop pos).take (hexRun 6 (css.drop pos))).length = hexRun 6 (css.drop pos) := by rw [List.length_take]; exact Nat.min_eq_left h2
    unfold escSpec at hr
    rw [if_pos hn, blankAt_drop] at hr
    generalize hexRun 6 (css.drop pos) = m at *
    have hs : ((css.drop pos).take (pos + m - pos)).length ≤ 640 ∧ (css.drop pos).take (pos + m - pos) ≠ [] ∧ (16 : Int) = 16 ∧ ((css.drop pos).take (pos + m - pos)).all isHex = true := by
      rw [e, hl]; exact ⟨Nat.le_trans h1 (by decide), fun h => by rw [h] at hl; exact absurd (hl ▸ hn : 0 < ([] : List Nat).length) (Nat.lt_irrefl 0), rfl, List.all_eq_true.mpr h3⟩
    refine tst_pos (Int.ofNat_lt.mpr (Nat.lt_add_of_pos_right hn)) ⟨hs, ?_⟩
    rw [← e] at hr
    generalize hexNum ((css.drop pos).take (pos + m - pos)) = num at *
    rw [e] at hr
    by_cases q1 : 0 < num
    · refine tst_pos (Int.ofNat_lt.mpr q1) ?_
      by_cases q2 : num ≤ 1114111
      · refine tst_pos (Int.ofNat_le.mpr q2) ⟨Nat.lt_succ_of_le q2, tst_iff (blank_iff css (pos + m)) (fun hb => ⟨?_, rfl⟩) (fun hb => ⟨?_, rfl⟩)⟩
        · rw [if_pos ⟨q1, q2⟩, if_pos hb] at hr; exact hr
        · rw [if_pos ⟨q1, q2⟩, hb] at hr; exact hr
      · refine tst_neg (fun h => q2 (Int.ofNat_le.mp h)) (tst_iff (blank_iff css (pos + m)) (fun hb => ⟨?_, rfl⟩) (fun hb => ⟨?_, rfl⟩))
        · rw [if_neg (fun h => q2 h.2), if_pos hb] at hr; exact hr
        · rw [if_neg (fun h => q2 h.2), hb] at hr; exact hr
    · refine tst_neg (fun h => q1 (Int.ofNat_lt.mp h)) (tst_dF (tst_iff (blank_iff css (pos + m)) (fun hb => ⟨?_, rfl⟩) (fun hb => ⟨?_, rfl⟩)))
      · rw [if_neg (fun h => q1 h.1), if_pos hb] at hr; exact hr
      · rw [if_neg (fun h => q1 h.1), hb] at hr; exact hr
  · have h0 : hexRun 6 (css.drop pos) = 0 := Nat.eq_zero_of_not_pos hn
    unfold escSpec at hr
    rw [if_neg hn] at hr
    rw [h0]
    refine tst_neg (Int.lt_irrefl _) ?_
    cases hg : css[pos]? with
    | none =>
      rw [drop_none hg] at hr
      exact tst_neg (fun h => Nat.not_le.mpr (Int.ofNat_lt.mp h) (get_ge hg)) ⟨hr, rfl⟩
    | some c =>
      rw [drop_get hg] at hr
      exact tst_pos (Int.ofNat_lt.mpr (get_lt hg)) ⟨c, hg, hr, rfl⟩
noncomputable def identStart : List Nat → Bool
  | [] => false
  | c :: r => if isNS c then true else if c = 45 then (match r with
      | [] => false
      | c2 :: r2 => isNS c2 || decide (c2 = 45) || (decide (c2 = 92) && !decide (r2.head? = some 10)))
    else if c = 92 then !decide (r.head? = some 10) else false
theorem sw2 (s : List Nat) (a b i : Nat) : startsAt s [a, b] i = (decide (s[i]? = some a) && decide (s[i + 1]? = some b)) := by
  unfold startsAt
  rw [Bool.eq_iff_iff]
  simp only [List.length_cons, List.length_nil, Bool.and_eq_true, beq_iff_eq, decide_eq_true_eq]
  cases h : s[i]? with
  | none => rw [drop_none h]; simp
  | some x =>
    rw [drop_get h]
    have h0 := (List.getElem?_eq_some_iff.mp h).1
    cases h' : s[i + 1]? with
    | none => rw [drop_none h']; simp
    | some y =>
      rw [drop_get h']
      have h1 := (List.getElem?_eq_some_iff.mp h').1
      simp; lia

theorem ident_start_ok (G : GoodB B) (GT : GoodT B T) (F : FnAt B "_is_ident_start" p_is_ident_start 2 [] v_is_ident_start m_is_ident_start)
    (hn : ∀ (css : List Nat) (pos c : Nat), css[pos]? = some c → Con B d "_is_name_start" [.str css, .int pos] (.bool (isNS c))) {css : List Nat} {pos : Nat} (hp : pos < css.length) :
    Con B (d + 1) "_is_ident_start" [.str css, .int pos] (.bool (identStart (css.drop pos))) := by
  refine conDef G GT F rfl fun H => ?_
  generalize hr : identStart (css.drop pos) = r
  obtain ⟨c, hg⟩ : ∃ c, css[pos]? = some c := ⟨_, List.getElem?_eq_getElem hp⟩
  refine ⟨(hn css pos c hg).b, (hn css pos c hg).use ?_⟩
  rw [drop_get hg] at hr
  unfold identStart at hr
  dsimp only at hr
  cases h1 : isNS c with
  | true => rw [h1] at hr; exact tst_t ⟨congrArg PV.bool hr, rfl⟩
  | false =>
    rw [h1, if_neg Bool.false_ne_true] at hr
    refine tst_f ⟨c, hg, ?_⟩
    by_cases h2 : c = 45
    · subst h2
      rw [if_pos rfl] at hr
      refine tst_pos rfl ?_
      cases hg2 : css[pos + 1]? with
      | none =>
        rw [drop_none hg2] at hr
        refine tst_decn (lt_no hg2) (tst_decn (lt_no hg2) (tst_bf (sw_f (ne_none hg2)) ⟨?_, rfl⟩))
        rw [sw_f (ne_none hg2)]; exact congrArg PV.bool hr
      | some c2 =>
        rw [drop_get hg2] at hr
        dsimp only at hr
        rw [List.head?_drop] at hr
        refine tst_decp (lt_yes hg2) ⟨(hn css (pos + 1) c2 hg2).b, (hn css (pos + 1) c2 hg2).use ?_⟩
        cases h4 : isNS c2 with
        | true => rw [h4] at hr; exact tst_t (tst_t ⟨congrArg PV.bool hr, rfl⟩)
        | false =>
          rw [h4, Bool.false_or] at hr
          refine tst_f ⟨c2, hg2, ?_⟩
          by_cases h5 : c2 = 45
          · subst h5
            exact tst_decp rfl ⟨congrArg PV.bool hr, rfl⟩
          · rw [decide_eq_false h5, Bool.false_or] at hr
            refine tst_decn (fun h => h5 (cons1 h)) ?_
            by_cases h6 : c2 = 92
            · subst h6
              rw [decide_eq_true rfl] at hr
              refine tst_bt (sw_t hg2) ⟨congrArg PV.bool (Eq.trans ?_ hr), rfl⟩
              rw [sw2, hg2, dec_not, dec_B]; rfl
            · rw [decide_eq_false h6, Bool.false_and] at hr
              exact tst_bf (sw_f (ne_some hg2 h6)) ⟨congrArg PV.bool ((sw_f (ne_some hg2 h6)).trans hr), rfl⟩
    · rw [if_neg h2] at hr
      refine tst_neg (fun h => h2 (cons1 h)) ⟨c, hg, ?_⟩
      by_cases h3 : c = 92
      · subst h3
        rw [if_pos rfl, List.head?_drop] at hr
        refine tst_pos rfl ⟨congrArg PV.bool (Eq.trans ?_ hr), rfl⟩
        rw [sw2, hg, dec_not, dec_B]; rfl
      · rw [if_neg h3] at hr
        exact tst_neg (fun h => h3 (cons1 h)) ⟨congrArg PV.bool hr, rfl⟩

end Mine
end

section
set_option tactic.hygienic false
set_option maxRecDepth 10000
set_option backward.match.sparseCases false
set_option genInjectivity false
set_option genSizeOf false
namespace Mine
open PySem PySem.W
variable {B : Base} {T : Tab} {d : Nat}
noncomputable def isDig (c : Nat) : Bool := decide (48 ≤ c ∧ c ≤ 57)
noncomputable def digAt (s : List Nat) (i : Nat) : Bool := match s[i]? with
  | some c => isDig c
  | none => false
noncomputable def digRun : List Nat → Nat
  | [] => 0
  | c :: r => if isDig c then digRun r + 1 else 0
noncomputable def signAt (s : List Nat) (i : Nat) : Bool := match s[i]? with
  | some c => decide (c = 45 ∨ c = 43)
  | none => false
noncomputable def eAt (s : List Nat) (i : Nat) : Bool := match s[i]? with
  | some c => decide (c = 101 ∨ c = 69)
  | none => false
theorem mem_one {c : Nat} {l : List Nat} : [c] ∈ l.map (fun x => [x]) ↔ c ∈ l := by
  rw [List.mem_map]
  exact ⟨fun hh => by obtain ⟨x, h, e⟩ := hh; exact cons1 e ▸ h, fun h => ⟨c, h, rfl⟩⟩
theorem slice_mem {s : List Nat} {a : Nat} {l : List Nat} {f : Nat → Bool} {b : Bool} (hf : ∀ c, c ∈ l ↔ f c = true) (hs : ∀ c, s[a]? = some c → b = f c) (hn : s[a]? = none → b = false) : (s.drop a).take (a + 1 - a) ∈ l.map (fun x => [x]) ↔ b = true := by
  cases h : s[a]? with
  | none => rw [slice1_none h, hn h, List.mem_map]; exact ⟨fun hh => by obtain ⟨_, _, e⟩ := hh; exact (nomatch e), fun h => nomatch h⟩
  | some c => rw [slice1_some h, hs c h, mem_one, hf]
theorem dig_iff (s : List Nat) (a : Nat) : (s.drop a).take (a + 1 - a) ∈ ([[48], [49], [50], [51], [52], [53], [54], [55], [56], [57]] : List (List Nat)) ↔ digAt s a = true :=
  slice_mem (l := [48, 49, 50, 51, 52, 53, 54, 55, 56, 57]) (mem_below (p := isDig) (by decide) (by decide) fun c h => decide_eq_false (by lia)) (fun c h => by unfold digAt; rw [h]) (fun h => by unfold digAt; rw [h])
theorem sign_iff (s : List Nat) (a : Nat) : (s.drop a).take (a + 1 - a) ∈ ([[45], [43]] : List (List Nat)) ↔ signAt s a = true :=
  slice_mem (l := [45, 43]) (mem_below (p := fun c => decide (c = 45 ∨ c = 43)) (by decide) (by decide) fun c h => decide_eq_false (by lia)) (fun c h => by unfold signAt; rw [h]) (fun h => by unfold signAt; rw [h])
theorem e_iff (s : List Nat) (a : Nat) : (s.drop a).take (a + 1 - a) ∈ ([[101], [69]] : List (List Nat)) ↔ eAt s a = true :=
  slice_mem (l := [101, 69]) (mem_below (p := fun c => decide (c = 101 ∨ c = 69)) (by decide) (by decide) fun c h => decide_eq_false (by lia)) (fun c h => by unfold eAt; rw [h]) (fun h => by unfold eAt; rw [h])
theorem one_iff (s : List Nat) (a c : Nat) : (s.drop a).take (a + 1 - a) = [c] ↔ s[a]? = some c := by
  cases h : s[a]? with
  | none => rw [slice1_none h]; exact ⟨fun h => (nomatch h), fun h => nomatch h⟩
  | some x => rw [slice1_some h]; exact ⟨fun h => congrArg some (cons1 h), fun h => by rw [Option.some.inj h]⟩
theorem digAt_lt {s : List Nat} {a : Nat} (h : digAt s a = true) : a < s.length := by
  unfold digAt at h
  cases hc : s[a]? with
  | none => rw [hc] at h; cases h
  | some c => exact get_lt hc
theorem meas {n p : Nat} (h : p < n) : n - (p + 1) < n - p := Nat.sub_succ_lt_self _ _ h
theorem digRun_at (s : List Nat) (e : Nat) : digRun (s.drop e) = if digAt s e then digRun (s.drop (e + 1)) + 1 else 0 := by
  unfold digAt
  cases h : s[e]? with
  | none => rw [drop_none h]; rfl
  | some c => rw [drop_get h]; rfl
noncomputable def digs : PV := .tup [.str [48], .str [49], .str [50], .str [51], .str [52], .str [53], .str [54], .str [55], .str [56], .str [57]]
noncomputable def GlobIs (B : Base) (nm : Str) (v : PV) : Prop := ∃ x, B.mg nm = some x ∧ Rep B B.heap.get? v x


theorem dig_loop (hD : GlobIs B "_DIGITS" digs) {css : List Nat} {e : Nat} {p q1 q2 q3 : Option PV} {H : AH} {Q : KS}
    (hq : Q .next [some (.str css), p, some (.int (e + digRun (css.drop e) : Nat)), q1, q2, q3] H) : vcS B T d w_number_end_1 Q [some (.str css), p, some (.int e), q1, q2, q3] H := by
  generalize hr : e + digRun (css.drop e) = r at hq
  refine wh_mk (fun n ρ' H' => ∃ k, ρ' = [some (.str css), p, some (.int (e + k : Nat)), q1, q2, q3] ∧ H' = H ∧ e + k + digRun (css.drop (e + k)) = r ∧ n = css.length - (e + k)) (css.length - e) ⟨0, rfl, rfl, hr, rfl⟩ ?_
  rintro n ρ' H' ⟨k, rfl, rfl, hk, rfl⟩
  rw [digRun_at] at hk
  refine ⟨hD, tst_iff (dig_iff css (e + k)) (fun hd => ⟨css.length - (e + (k + 1)), meas (digAt_lt hd), k + 1, rfl, rfl, ?_, rfl⟩) (fun hd => ?_)⟩
  · rw [hd] at hk; exact (Nat.succ_add_eq_add_succ ..).trans hk
  · rw [hd] at hk
    replace hk : e + k = r := hk
    subst hk; exact hq
noncomputable def numExp (css : List Nat) (e : Nat) (pl : Bool) : Nat × Bool :=
  if eAt css e then (if digAt css (if signAt css (e + 1) then e + 2 else e + 1) then
    ((if signAt css (e + 1) then e + 2 else e + 1) + digRun (css.drop (if signAt css (e + 1) then e + 2 else e + 1)), false) else (e, pl)) else (e, pl)
noncomputable def numFrom (css : List Nat) (pos : Nat) : Option (Nat × Bool) :=
  let e0 := if signAt css pos then pos + 1 else pos
  let e1 := e0 + digRun (css.drop e0)
  if css[e1]? = some 46 ∧ digAt css (e1 + 1) = true then some (numExp css (e1 + 2 + digRun (css.drop (e1 + 2))) false)
  else if e1 = e0 then none else some (numExp css e1 true)
noncomputable def numPV : Option (Nat × Bool) → PV
  | none => .tup [.none, .bool false]
  | some (e, pl) => .tup [.int e, .bool pl]


theorem number_tail {css : List Nat} {pos e : Nat} {pl : Bool} {st : PV} {pw : Option PV} {H : AH} {r : PV} (hr : numPV (some (numExp css e pl)) = r) (hD : GlobIs B "_DIGITS" digs) :
    vcSs B T d r_number_end_3 (isRet r H) [some (.str css), some (.int pos), some (.int e), some st, some (.bool pl), pw] H := by
  unfold numExp at hr
  refine tst_iff (e_iff css e) (fun he => ?_) (fun he => ⟨?_, rfl⟩)
  · rw [he, if_pos rfl] at hr
    refine tst_iff (sign_iff css (e + 1)) (fun hg => ?_) (fun hg => ?_)
    · rw [hg, if_pos rfl] at hr
      refine ⟨hD, tst_iff (dig_iff css (e + 2)) (fun hd => ?_) (fun hd => ⟨?_, rfl⟩)⟩
      · rw [hd, if_pos rfl] at hr
        exact dig_loop hD ⟨hr, rfl⟩
      · rw [hd] at hr; exact hr
    · rw [hg] at hr
      refine ⟨hD, tst_iff (dig_iff css (e + 1)) (fun hd => ?_) (fun hd => ⟨?_, rfl⟩)⟩
      · replace hr : numPV (some (if digAt css (e + 1) = true then (e + 1 + digRun (css.drop (e + 1)), false) else (e, pl))) = r := hr
        rw [hd, if_pos rfl] at hr
        exact dig_loop hD ⟨hr, rfl⟩
      · replace hr : numPV (some (if digAt css (e + 1) = true then (e + 1 + digRun (css.drop (e + 1)), false) else (e, pl))) = r := hr
        rw [hd] at hr; exact hr
  · rw [he] at hr; exact hr

theorem number_end_ok (G : GoodB B) (GT : GoodT B T) (F : FnAt B "_number_end" p_number_end 2 [] v_number_end m_number_end) (hD : GlobIs B "_DIGITS" digs) {css : List Nat} {pos : Nat} :
    Con B (d + 1) "_number_end" [.str css, .int pos] (numPV (numFrom css pos)) := by
  refine conDef G GT F rfl fun H => ?_
  generalize hr : numPV (numFrom css pos) = r
  have main : ∀ {e0 : Nat} (_ : (if signAt css pos then pos + 1 else pos) = e0) {st : Option PV},
      vcSs B T d r_number_end_5 (isRet r H) [some (.str css), some (.int pos), some (.int e0), st, none, none] H := by
    intro e0 he0 st
    unfold numFrom at hr
    rw [he0] at hr
    dsimp only at hr
    refine dig_loop hD ?_
    generalize e0 + digRun (css.drop e0) = e1 at *
    by_cases hdot : css[e1]? = some 46
    · refine tst_pos ((one_iff css e1 46).mpr hdot) ⟨hD, tst_iff (dig_iff css (e1 + 1)) (fun hd => ?_) (fun hd => ?_)⟩
      · rw [if_pos ⟨hdot, hd⟩] at hr
        refine tst_dT (dig_loop hD ?_)
        exact number_tail hr hD
      · rw [if_neg (fun h => by rw [hd] at h; exact Bool.false_ne_true h.2)] at hr
        refine tst_dF (tst_both (fun hz => ⟨?_, rfl⟩) (fun hz => ?_))
        · rw [if_pos (Int.ofNat.inj hz)] at hr; exact hr
        · rw [if_neg (fun h => hz (congrArg Int.ofNat h))] at hr
          exact number_tail hr hD
    · rw [if_neg (fun h => hdot h.1)] at hr
      refine tst_neg (fun h => hdot ((one_iff css e1 46).mp h)) (tst_dF (tst_both (fun hz => ⟨?_, rfl⟩) (fun hz => ?_)))
      · rw [if_pos (Int.ofNat.inj hz)] at hr; exact hr
      · rw [if_neg (fun h => hz (congrArg Int.ofNat h))] at hr
        exact number_tail hr hD
  refine tst_iff (sign_iff css pos) (fun h => main (by rw [if_pos h])) (fun h => main (by rw [h]; rfl))
end Mine
end

section
set_option tactic.hygienic false
set_option maxRecDepth 10000
set_option backward.match.sparseCases false
set_option genInjectivity false
set_option genSizeOf false
namespace Mine
open PySem PySem.W
variable {B : Base} {T : Tab} {d : Nat}
theorem rlt {c : Nat} {r : List Nat} : r.length < (c :: r).length := Nat.lt_succ_self _
theorem dlt {c k : Nat} {r : List Nat} : (r.drop k).length < (c :: r).length := Nat.lt_succ_of_le (by rw [List.length_drop]; exact Nat.sub_le _ _)
noncomputable def identF (s : List Nat) (f : (t : List Nat) → t.length < s.length → List Nat × Nat) : List Nat × Nat := match s, f with
  | [], _ => ([], 0)
  | c :: r, f => if isNC c then (c :: (f r rlt).1, (f r rlt).2 + 1)
    else if c = 92 ∧ ¬ r.head? = some 10 then ((escSpec r).1 :: (f (r.drop (escSpec r).2) dlt).1, (f (r.drop (escSpec r).2) dlt).2 + (escSpec r).2 + 1)
    else ([], 0)
@[irreducible] noncomputable def identSpec : List Nat → List Nat × Nat := WellFounded.fix (measure List.length).wf identF
theorem identSpec_nil : identSpec [] = ([], 0) := by
  delta identSpec; exact WellFounded.fix_eq _ _ _
theorem identSpec_cons (c : Nat) (r : List Nat) : identSpec (c :: r) = if isNC c then (c :: (identSpec r).1, (identSpec r).2 + 1)
    else if c = 92 ∧ ¬ r.head? = some 10 then ((escSpec r).1 :: (identSpec (r.drop (escSpec r).2)).1, (identSpec (r.drop (escSpec r).2)).2 + (escSpec r).2 + 1)
    else ([], 0) := by
  delta identSpec; exact WellFounded.fix_eq _ _ _

theorem ncChars_is (c : Nat) : c ∈ ([97, 98, 99, 100, 101, 102, 103, 104, 105, 106, 107, 108, 109, 110, 111, 112, 113, 114, 115, 116, 117, 118, 119, 120, 121, 122, 45, 95, 48, 49, 50, 51, 52, 53, 54, 55, 56, 57, 65, 66, 67, 68, 69, 70, 71, 72, 73, 74, 75, 76, 77, 78, 79, 80, 81, 82, 83, 84, 85, 86, 87, 88, 89, 90] : List Nat) ↔ isNC0 c = true := by
  refine mem_below (p := isNC0) (by decide) (by decide) (fun c h => ?_) c
  unfold isNC0 isNS0
  rw [decide_eq_false (by lia), decide_eq_false (by lia)]; rfl

theorem escSpec_le (r : List Nat) : (escSpec r).2 ≤ r.length ∧ (r ≠ [] → 1 ≤ (escSpec r).2) := by
  unfold escSpec
  have h := hexRun_le 6 r
  split
  · rename_i hn
    refine ⟨?_, fun xx => ?_⟩
    · dsimp only
      split
      · rename_i hb
        unfold blankAt at hb
        cases hc : r[hexRun 6 r]? with
        | none => rw [hc] at hb; cases hb
        | some c => have := (List.getElem?_eq_some_iff.mp hc).1; lia
      · lia
    · dsimp only
      split <;> lia
  · cases r <;> simp
theorem identSpec_len : ∀ (n : Nat) (s : List Nat), s.length ≤ n → (identSpec s).1.length ≤ s.length ∧ (identSpec s).2 ≤ s.length
  | _, [], _ => by rw [identSpec_nil]; simp
  | 0, _ :: _, h => by simp at h
  | n + 1, c :: r, h => by
    rw [identSpec_cons]
    simp only [List.length_cons] at h ⊢
    split
    · have := identSpec_len n r (by lia)
      simp; lia
    · split
      · have h1 := escSpec_le r
        have := identSpec_len n (r.drop (escSpec r).2) (by rw [List.length_drop]; lia)
        rw [List.length_drop] at this
        simp; lia
      · simp


theorem identSpec_nc {c : Nat} {r : List Nat} (h : isNC c = true) : identSpec (c :: r) = (c :: (identSpec r).1, (identSpec r).2 + 1) := by rw [identSpec_cons, if_pos h]
theorem identSpec_esc {r : List Nat} (h : ¬ r.head? = some 10) : identSpec (92 :: r) = ((escSpec r).1 :: (identSpec (r.drop (escSpec r).2)).1, (identSpec (r.drop (escSpec r).2)).2 + (escSpec r).2 + 1) := by
  rw [identSpec_cons, if_neg (by decide), if_pos ⟨rfl, h⟩]
theorem identSpec_stop {c : Nat} {r : List Nat} (h : isNC c = false) (h2 : ¬ (c = 92 ∧ ¬ r.head? = some 10)) : identSpec (c :: r) = ([], 0) := by
  rw [identSpec_cons, if_neg (by rw [h]; exact Bool.false_ne_true), if_neg h2]

noncomputable def IdI (css : List Nat) (l : Addr) (V : List Nat) (W : Nat) (H : AH) (n : Nat) (ρ : Loc) (H' : AH) : Prop :=
  ∃ p sp ch cv, ρ = [some (.str css), some (.int (p : Nat)), some (.ref l), some (.int css.length), some (.int (sp : Nat)), cv] ∧ H' = H.upd l (.list (chPV ch)) ∧ p ≤ css.length ∧ sp ≤ p ∧
    ch.flatten ++ (css.drop sp).take (p - sp) ++ (identSpec (css.drop p)).1 = V ∧ p + (identSpec (css.drop p)).2 = W ∧ ch.length ≤ 2 * p ∧ n = css.length - p
theorem consume_ident_ok (G : GoodB B) (GT : GoodT B T) (F : FnAt B "_consume_ident" p_consume_ident 2 [] v_consume_ident m_consume_ident)
    (he : ∀ (css : List Nat) (pos : Nat), Con B d "_consume_escape" [.str css, .int pos] (.tup [.str [(escSpec (css.drop pos)).1], .int (pos + (escSpec (css.drop pos)).2 : Nat)]))
    {css : List Nat} {pos : Nat} (hL : css.length ≤ 100000) (hp : pos ≤ css.length) :
    Con B (d + 1) "_consume_ident" [.str css, .int pos] (.tup [.str (identSpec (css.drop pos)).1, .int (pos + (identSpec (css.drop pos)).2 : Nat)]) := by
  refine conDef G GT F rfl fun H l hl => ?_
  have hV : (identSpec (css.drop pos)).1.length ≤ 16777216 := by
    have := (identSpec_len _ (css.drop pos) (Nat.le_refl _)).1
    rw [List.length_drop] at this
    lia
  generalize hV1 : (identSpec (css.drop pos)).1 = V at *
  generalize hW1 : pos + (identSpec (css.drop pos)).2 = W at *
  have fin : ∀ {p sp : Nat} {ch : List (List Nat)} {cv : Option PV}, identSpec (css.drop p) = ([], 0) → p ≤ css.length → ch.flatten ++ (css.drop sp).take (p - sp) ++ (identSpec (css.drop p)).1 = V → p + (identSpec (css.drop p)).2 = W → ch.length ≤ 2 * p →
      vcSs B T d r_consume_ident_1 (isRet (.tup [.str V, .int W]) H) [some (.str css), some (.int p), some (.ref l), some (.int css.length), some (.int sp), cv] (H.upd l (.list (chPV ch))) := by
    intro p sp ch cv h0 h1 h3 h4 h5
    rw [h0] at h3 h4
    replace h4 : p = W := h4
    rw [List.append_nil, ← flat_snoc] at h3
    refine ⟨⟨_, upd_self ..⟩, app_mk (upd_self ..) (chPV_le h5 (Nat.le_trans h1 hL)) ⟨rfl, _, upd_self .., _, allStr_snoc, by rw [h3]; exact hV, ?_, del_upd2 hl⟩⟩
    rw [h3, h4]
  refine wh_mk (IdI css l V W H) (css.length - pos) ⟨pos, pos, [], none, rfl, rfl, hp, Nat.le_refl _, ?_, hW1, Nat.zero_le _, rfl⟩ ?_
  · rw [← hV1, Nat.sub_self]; rfl
  rintro n ρ H' ⟨p, sp, ch, cv, rfl, rfl, h1, h2, h3, h4, h5, rfl⟩
  cases hg : css[p]? with
  | none => exact tst_neg (lt_no hg) (fin (by rw [drop_none hg, identSpec_nil]) h1 h3 h4 h5)
  | some c =>
    have hlt := get_lt hg
    refine tst_pos (lt_yes hg) ⟨c, hg, ?_⟩
    have hd := drop_get hg
    cases hnc : isNC c with
    | true =>
      rw [hd, identSpec_nc hnc] at h3 h4
      have go : ∃ m, m < css.length - p ∧ IdI css l V W H m [some (.str css), some (.int (p + 1 : Nat)), some (.ref l), some (.int css.length), some (.int sp), some (.str [c])] (H.upd l (.list (chPV ch))) := by
        refine ⟨_, meas hlt, p + 1, sp, ch, _, rfl, rfl, hlt, Nat.le_succ_of_le h2, ?_, ?_, by lia, rfl⟩
        · rw [take_snoc hg h2, ← h3, ← List.append_assoc, List.append_assoc _ [c]]; rfl
        · rw [← h4, Nat.add_assoc, Nat.add_comm 1]
      refine tst_iff (ncChars_is c) (fun xx => tst_dT go) (fun h0 => tst_pos ?_ (tst_dT go))
      unfold isNC at hnc
      rw [h0] at hnc
      exact Int.ofNat_lt.mpr (of_decide_eq_true hnc)
    | false =>
      have h0 : isNC0 c = false ∧ decide (127 < c) = false := Bool.or_eq_false_iff.mp hnc
      refine tst_neg (fun h => by rw [(ncChars_is c).mp h] at h0; exact nomatch h0.1) (tst_neg (fun h => of_decide_eq_false h0.2 (Int.ofNat_lt.mp h)) (tst_dF ?_))
      by_cases h92 : c = 92
      · subst h92
        refine tst_pos rfl ?_
        by_cases h10 : css[p + 1]? = some 10
        · refine tst_neg (fun h => h ?_) (tst_dF (fin (by rw [hd, identSpec_stop hnc (fun h => h.2 (by rw [List.head?_drop, h10]))]) h1 h3 h4 h5))
          show startsAt _ _ _ = true
          rw [sw2, hg, h10]; rfl
        · refine tst_pos (fun h => ?_) (tst_dT ?_)
          · replace h : startsAt css [92, 10] p = true := h
            rw [sw2, decide_eq_false h10, Bool.and_false] at h
            exact nomatch h
          rw [hd, identSpec_esc (by rw [List.head?_drop]; exact h10)] at h3 h4
          have hle := (escSpec_le (css.drop (p + 1))).1
          rw [List.length_drop] at hle
          rw [List.drop_drop] at h3 h4
          refine ⟨⟨_, upd_self ..⟩, app_mk (upd_self ..) (chPV_le h5 (Nat.le_trans h1 hL)) ⟨rfl, (he css (p + 1)).b, (he css (p + 1)).use ⟨rfl, ⟨_, upd_self ..⟩, app_mk (upd_self ..) (chPV_le1 h5 (Nat.le_trans h1 hL)) ⟨rfl, ?_⟩⟩⟩⟩
          generalize escSpec (css.drop (p + 1)) = E at *
          have hb : p + 1 + E.2 ≤ css.length := by lia
          refine ⟨css.length - (p + 1 + E.2), by lia, p + 1 + E.2, p + 1 + E.2, ch ++ [(css.drop sp).take (p - sp)] ++ [[E.1]], _, rfl, upd_snoc2, hb, Nat.le_refl _, ?_, ?_, ?_, rfl⟩
          · rw [← h3, flat_snoc, flat_snoc, Nat.sub_self, List.take_zero, List.append_nil, List.append_assoc _ [E.1]]; rfl
          · rw [← h4]; lia
          · rw [List.length_append, List.length_append]; show ch.length + 1 + 1 ≤ _; lia
      · exact tst_neg (fun h => h92 (cons1 h)) (tst_dF (fin (by rw [hd, identSpec_stop hnc (fun h => h92 h.1)]) h1 h3 h4 h5))
end Mine
end

section
set_option tactic.hygienic false
set_option maxRecDepth 10000
set_option backward.match.sparseCases false
set_option genInjectivity false
set_option genSizeOf false
namespace Mine
open PySem PySem.W
variable {B : Base} {T : Tab} {d : Nat}

noncomputable def subH (H H' : AH) : Prop := ∀ a x, H a = some x → H' a = some x
theorem StC.weaken {z P : PH} {H H' : AH} {s : Shared} (S : StC B z P H' s) (h : subH H H') (ht : TabIn B H) : StC B z P H s := by
  refine ⟨S.base, S.zin, fun a o e => ?_, fun a x e => S.hin a x (h a x e), S.os, S.gens, S.tk.1, ht⟩
  obtain ⟨a1, a2, a3⟩ := S.pin a o e
  refine ⟨a1, a2, ?_⟩
  cases hh : H a with
  | none => rfl
  | some x => rw [h a x hh] at a3; cases a3
theorem subH_upd {H : AH} {l : Addr} (h : H l = none) (o : AO) : subH H (H.upd l o) := by
  intro a x e
  unfold AH.upd
  split
  · rename_i q; subst q; rw [h] at e; cases e
  · exact e
theorem subH_refl (H : AH) : subH H H := fun xx xx e => e
noncomputable def keqS (r : PV) (H : AH) : KE := fun v H' => v = r ∧ subH H H'
noncomputable def isRetS (r : PV) (H : AH) : KS := kdef (keqS r H)
theorem conDefS (G : GoodB B) (GT : GoodT B T) {nm : Str} {params : List Str} {np : Nat} {exP : List PV} {vars : List Str} {ms : List MS} (F : FnAt B nm params np exP vars ms) {vs : List PV} {r : PV}
    (hl : vs.length = np) (h : ∀ H, vcSs B T d ms (isRetS r H) (initLoc (vs ++ exP) vars.length) H) : Con B (d + 1) nm vs r := by
  obtain ⟨fv, hm, F⟩ := F.it
  refine ⟨fv, hm, F.keep, fun H z P s A vals R SC hr => ?_⟩
  refine wpAny_mono (callDef (Q := keqS r H) G GT F hl (h H) z P s A vals R SC hr) ?_ (fun xx xx x => x)
  rintro v s' ⟨z', p, H', le, S', rv, rfl, hs⟩
  exact ⟨z', p, H, le, S'.weaken hs SC.tk.2, rv, rfl, rfl⟩

noncomputable def quotedF (q : Nat) (s : List Nat) (f : (t : List Nat) → t.length < s.length → Option (List Nat) × Nat × Nat) : Option (List Nat) × Nat × Nat := match s, f with
  | [], _ => (some [], 0, 1)
  | c :: r, f => if c = q then (some [], 1, 0)
    else if c = 92 then (if r = [] then (some [], 1, 1)
      else if r.head? = some 10 then ((f (r.drop 1) dlt).1, (f (r.drop 1) dlt).2.1 + 2, (f (r.drop 1) dlt).2.2)
      else ((f (r.drop (escSpec r).2) dlt).1.map ((escSpec r).1 :: ·), (f (r.drop (escSpec r).2) dlt).2.1 + (escSpec r).2 + 1, (f (r.drop (escSpec r).2) dlt).2.2))
    else if c = 10 then (none, 0, 2)
    else ((f r rlt).1.map (c :: ·), (f r rlt).2.1 + 1, (f r rlt).2.2)
@[irreducible] noncomputable def quotedSpec (q : Nat) : List Nat → Option (List Nat) × Nat × Nat := WellFounded.fix (measure List.length).wf (quotedF q)
theorem quotedSpec_nil (q : Nat) : quotedSpec q [] = (some [], 0, 1) := by
  delta quotedSpec; exact WellFounded.fix_eq _ _ _
theorem quotedSpec_cons (q c : Nat) (r : List Nat) : quotedSpec q (c :: r) = if c = q then (some [], 1, 0)
    else if c = 92 then (if r = [] then (some [], 1, 1)
      else if r.head? = some 10 then ((quotedSpec q (r.drop 1)).1, (quotedSpec q (r.drop 1)).2.1 + 2, (quotedSpec q (r.drop 1)).2.2)
      else ((quotedSpec q (r.drop (escSpec r).2)).1.map ((escSpec r).1 :: ·), (quotedSpec q (r.drop (escSpec r).2)).2.1 + (escSpec r).2 + 1, (quotedSpec q (r.drop (escSpec r).2)).2.2))
    else if c = 10 then (none, 0, 2)
    else ((quotedSpec q r).1.map (c :: ·), (quotedSpec q r).2.1 + 1, (quotedSpec q r).2.2) := by
  delta quotedSpec; exact WellFounded.fix_eq _ _ _
noncomputable def eofPV : PV := .tup [.str [101, 111, 102, 45, 105, 110, 45, 115, 116, 114, 105, 110, 103], .str [69, 79, 70, 32, 105, 110, 32, 115, 116, 114, 105, 110, 103]]
noncomputable def badPV : PV := .tup [.str [98, 97, 100, 45, 115, 116, 114, 105, 110, 103], .str [66, 97, 100, 32, 115, 116, 114, 105, 110, 103, 32, 116, 111, 107, 101, 110]]
noncomputable def errPV : Nat → PV
  | 0 => .none
  | 1 => eofPV
  | _ => badPV
noncomputable def optPV : Option (List Nat) → PV
  | none => .none
  | some s => .str s
theorem quotedSpec_len (q : Nat) : ∀ (n : Nat) (s : List Nat), s.length ≤ n → (∀ v, (quotedSpec q s).1 = some v → v.length ≤ s.length) ∧ (quotedSpec q s).2.1 ≤ s.length
  | _, [], _ => by rw [quotedSpec_nil]; simp
  | 0, _ :: _, h => by simp at h
  | n + 1, c :: r, h => by
    rw [quotedSpec_cons]
    simp only [List.length_cons] at h ⊢
    split
    · simp
    · split
      · split
        · simp
        · rename_i hr
          have hr0 : 0 < r.length := List.length_pos_iff.mpr hr
          split
          · have := quotedSpec_len q n (r.drop 1) (by rw [List.length_drop]; lia)
            rw [List.length_drop] at this
            exact ⟨fun v hv => by have := this.1 v hv; lia, by dsimp only; lia⟩
          · have h1 := escSpec_le r
            have := quotedSpec_len q n (r.drop (escSpec r).2) (by rw [List.length_drop]; lia)
            rw [List.length_drop] at this
            have h2 := h1.2 hr
            refine ⟨fun v hv => ?_, by dsimp only; lia⟩
            obtain ⟨v', hv', rfl⟩ := Option.map_eq_some_iff.mp hv
            have := this.1 v' hv'
            simp; lia
      · split
        · simp
        · have := quotedSpec_len q n r (by lia)
          refine ⟨fun v hv => ?_, by dsimp only; lia⟩
          obtain ⟨v', hv', rfl⟩ := Option.map_eq_some_iff.mp hv
          have := this.1 v' hv'
          simp; lia


theorem qs_nil {q : Nat} : quotedSpec q [] = (some [], 0, 1) := quotedSpec_nil q
theorem qs_q {q : Nat} {r : List Nat} : quotedSpec q (q :: r) = (some [], 1, 0) := by rw [quotedSpec_cons, if_pos rfl]
theorem qs_bs {q : Nat} {r : List Nat} (h : ¬ 92 = q) : quotedSpec q (92 :: r) = if r = [] then (some [], 1, 1)
      else if r.head? = some 10 then ((quotedSpec q (r.drop 1)).1, (quotedSpec q (r.drop 1)).2.1 + 2, (quotedSpec q (r.drop 1)).2.2)
      else ((quotedSpec q (r.drop (escSpec r).2)).1.map ((escSpec r).1 :: ·), (quotedSpec q (r.drop (escSpec r).2)).2.1 + (escSpec r).2 + 1, (quotedSpec q (r.drop (escSpec r).2)).2.2) := by
  rw [quotedSpec_cons, if_neg h, if_pos rfl]
theorem qs_nl {q : Nat} {r : List Nat} (h : ¬ 10 = q) : quotedSpec q (10 :: r) = (none, 0, 2) := by rw [quotedSpec_cons, if_neg h, if_neg (by decide), if_pos rfl]
theorem qs_ch {q c : Nat} {r : List Nat} (h : ¬ c = q) (h1 : ¬ c = 92) (h2 : ¬ c = 10) : quotedSpec q (c :: r) = ((quotedSpec q r).1.map (c :: ·), (quotedSpec q r).2.1 + 1, (quotedSpec q r).2.2) := by
  rw [quotedSpec_cons, if_neg h, if_neg h1, if_neg h2]
theorem omap {f g : List Nat → List Nat} (h : ∀ v, f v = g v) (o : Option (List Nat)) : o.map f = o.map g := by rw [funext h]

noncomputable def QuI (q : Nat) (css : List Nat) (l : Addr) (V : Option (List Nat)) (W E : Nat) (H : AH) (n : Nat) (ρ : Loc) (H' : AH) : Prop :=
  ∃ p sp ch cv, ρ = [some (.str css), some (.int (p : Nat)), some .none, some (.str [q]), some (.ref l), some (.int css.length), some (.int (sp : Nat)), cv] ∧ H' = H.upd l (.list (chPV ch)) ∧ p ≤ css.length ∧ sp ≤ p ∧
    (quotedSpec q (css.drop p)).1.map (fun v => ch.flatten ++ (css.drop sp).take (p - sp) ++ v) = V ∧ p + (quotedSpec q (css.drop p)).2.1 = W ∧ (quotedSpec q (css.drop p)).2.2 = E ∧ ch.length ≤ 2 * p ∧ n = css.length - p
theorem quoted_ok (G : GoodB B) (GT : GoodT B T) (F : FnAt B "_consume_quoted_string" p_consume_quoted_string 2 [] v_consume_quoted_string m_consume_quoted_string)
    (he : ∀ (css : List Nat) (pos : Nat), Con B d "_consume_escape" [.str css, .int pos] (.tup [.str [(escSpec (css.drop pos)).1], .int (pos + (escSpec (css.drop pos)).2 : Nat)]))
    {css : List Nat} {pos q : Nat} (hL : css.length ≤ 100000) (hq : css[pos]? = some q) (hq' : q = 34 ∨ q = 39) :
    Con B (d + 1) "_consume_quoted_string" [.str css, .int pos] (.tup [optPV (quotedSpec q (css.drop (pos + 1))).1, .int (pos + 1 + (quotedSpec q (css.drop (pos + 1))).2.1 : Nat), errPV (quotedSpec q (css.drop (pos + 1))).2.2]) := by
  refine conDefS G GT F rfl fun H => ⟨q, hq, ?_, fun l hl => ?_⟩
  · rcases hq' with rfl | rfl
    · exact List.mem_cons_self
    · exact List.mem_cons_of_mem _ List.mem_cons_self
  have hq9 : ¬ 92 = q ∧ ¬ 10 = q := by lia
  have hVl : ∀ v, (quotedSpec q (css.drop (pos + 1))).1 = some v → v.length ≤ 16777216 := fun v hv => by
    have := (quotedSpec_len q _ (css.drop (pos + 1)) (Nat.le_refl _)).1 v hv
    rw [List.length_drop] at this
    lia
  generalize hV1 : (quotedSpec q (css.drop (pos + 1))).1 = V at *
  generalize hW1 : pos + 1 + (quotedSpec q (css.drop (pos + 1))).2.1 = W
  generalize hE1 : (quotedSpec q (css.drop (pos + 1))).2.2 = E
  have fin : ∀ {p sp : Nat} {ch : List (List Nat)} {x : List Nat} {ev : PV} {cv : Option PV}, some (ch.flatten ++ x) = V → p = W → ev = errPV E →
      vcSs B T d r_consume_quoted_string_2 (isRetS (.tup [optPV V, .int W, errPV E]) H) [some (.str css), some (.int p), some ev, some (.str [q]), some (.ref l), some (.int css.length), some (.int sp), cv] ((H.upd l (.list (chPV ch))).upd l (.list (chPV ch ++ [.str x]))) := by
    rintro p sp ch x ev cv h1 rfl rfl
    rw [← flat_snoc] at h1
    refine ⟨_, upd_self .., _, allStr_snoc, hVl _ h1.symm, ?_, ?_⟩
    · rw [← h1]; rfl
    · rw [del_upd2 hl]; exact subH_refl H
  refine wh_mk (QuI q css l V W E H) (css.length - (pos + 1)) ⟨pos + 1, pos + 1, [], none, rfl, rfl, get_lt hq, Nat.le_refl _, ?_, hW1, hE1, Nat.zero_le _, rfl⟩ ?_
  · rw [hV1, Nat.sub_self]; cases V <;> rfl
  rintro n ρ H' ⟨p, sp, ch, cv, rfl, rfl, h1, h2, h3, h4, h6, h5, rfl⟩
  have hpL := Nat.le_trans h1 hL
  cases hg : css[p]? with
  | none =>
    rw [drop_none hg, qs_nil] at h3 h4 h6
    refine tst_neg (lt_no hg) ⟨⟨_, upd_self ..⟩, app_mk (upd_self ..) (chPV_le h5 hpL) ⟨rfl, fin ?_ h4 (by rw [← h6]; rfl)⟩⟩
    rw [← h3, Option.map_some, List.append_nil]
  | some c =>
    have hlt := get_lt hg
    have hd := drop_get hg
    rw [hd] at h3 h4 h6
    refine tst_pos (lt_yes hg) ⟨c, hg, ?_⟩
    by_cases hcq : c = q
    · subst hcq
      rw [qs_q] at h3 h4 h6
      refine tst_pos rfl ⟨⟨_, upd_self ..⟩, app_mk (upd_self ..) (chPV_le h5 hpL) ⟨rfl, fin ?_ h4 (by rw [← h6]; rfl)⟩⟩
      rw [← h3, Option.map_some, List.append_nil]
    · refine tst_neg (fun h => hcq (cons1 h)) ?_
      by_cases h92 : c = 92
      · subst h92
        rw [qs_bs hq9.1] at h3 h4 h6
        refine tst_pos rfl ⟨⟨_, upd_self ..⟩, app_mk (upd_self ..) (chPV_le h5 hpL) ⟨rfl, ?_⟩⟩
        cases hg1 : css[p + 1]? with
        | none =>
          rw [drop_none hg1, if_pos rfl] at h3 h4 h6
          refine tst_neg (lt_no hg1) ⟨_, meas hlt, p + 1, p + 1, _, _, rfl, upd_snoc, hlt, Nat.le_refl _, ?_, ?_, ?_, ?_, rfl⟩
          · rw [drop_none hg1, qs_nil, flat_snoc, ← h3, List.take_nil, List.append_nil]
          · rw [drop_none hg1, qs_nil, ← h4]; rfl
          · rw [drop_none hg1, qs_nil, ← h6]
          · rw [List.length_append]; show ch.length + 1 ≤ _; lia
        | some c2 =>
          have hlt1 := get_lt hg1
          have hd1 := drop_get hg1
          rw [if_neg (by rw [hd1]; exact List.cons_ne_nil _ _), hd1, List.head?_cons, ← hd1] at h3 h4 h6
          refine tst_pos (lt_yes hg1) ⟨c2, hg1, ?_⟩
          by_cases h10 : c2 = 10
          · subst h10
            rw [if_pos rfl, List.drop_drop] at h3 h4 h6
            refine tst_pos rfl ⟨css.length - (p + 1 + 1), by lia, p + 1 + 1, p + 1 + 1, _, _, rfl, upd_snoc, hlt1, Nat.le_refl _, ?_, ?_, h6, ?_, rfl⟩
            · rw [← h3, flat_snoc, Nat.sub_self, List.take_zero, List.append_nil]
            · rw [← h4]; show p + 1 + 1 + _ = p + (_ + 2); lia
            · rw [List.length_append]; show ch.length + 1 ≤ _; lia
          · rw [if_neg (fun h => h10 (Option.some.inj h)), List.drop_drop] at h3 h4 h6
            have hle := escSpec_le (css.drop (p + 1))
            have hle2 := hle.2 (by rw [hd1]; exact List.cons_ne_nil _ _)
            have hle1 := hle.1
            rw [List.length_drop] at hle1
            refine tst_neg (fun h => h10 (cons1 h)) ⟨(he css (p + 1)).b, (he css (p + 1)).use ⟨rfl, ⟨_, upd_self ..⟩, app_mk (upd_self ..) (chPV_le1 h5 hpL) ⟨rfl, ?_⟩⟩⟩
            generalize escSpec (css.drop (p + 1)) = X at *
            have hb : p + 1 + X.2 ≤ css.length := by lia
            refine ⟨css.length - (p + 1 + X.2), by lia, p + 1 + X.2, p + 1 + X.2, ch ++ [(css.drop sp).take (p - sp)] ++ [[X.1]], _, rfl, upd_snoc2, hb, Nat.le_refl _, ?_, ?_, h6, ?_, rfl⟩
            · rw [← h3, Option.map_map]
              refine omap (fun v => ?_) _
              rw [flat_snoc, flat_snoc, Nat.sub_self, List.take_zero, List.append_nil, List.append_assoc _ [X.1]]; rfl
            · rw [← h4]; show _ = p + (_ + X.2 + 1); lia
            · rw [List.length_append, List.length_append]; show ch.length + 1 + 1 ≤ _; lia
      · refine tst_neg (fun h => h92 (cons1 h)) ?_
        by_cases h10 : c = 10
        · subst h10
          rw [qs_nl hq9.2] at h3 h4 h6
          refine tst_pos rfl ⟨?_, subH_upd hl _⟩
          rw [← h3, ← h4, ← h6]; rfl
        · rw [qs_ch hcq h92 h10] at h3 h4 h6
          refine tst_neg (fun h => h10 (cons1 h)) ⟨_, meas hlt, p + 1, sp, ch, _, rfl, rfl, hlt, Nat.le_succ_of_le h2, ?_, ?_, h6, by lia, rfl⟩
          · rw [take_snoc hg h2, ← h3, Option.map_map]
            refine omap (fun v => ?_) _
            rw [← List.append_assoc, List.append_assoc _ [c]]; rfl
          · rw [← h4]; exact Nat.succ_add_eq_add_succ ..
end Mine
end

section
set_option tactic.hygienic false
set_option maxRecDepth 10000
set_option backward.match.sparseCases false
set_option genInjectivity false
set_option genSizeOf false
namespace Mine
open PySem PySem.W
variable {B : Base} {T : Tab} {d : Nat}

structure ClsAt (B : Base) (T : Tab) (nm : Str) (C : Addr) (params : List Str) (np : Nat) (vars : List Str) (ms : List MS) (own : List Str) : Prop where
  mg : B.mg nm = some (.ref C)
  keep : KeepOk B (.ref C)
  make : ∃ K fI, Frag.In K B.heap ∧ makesIn K C = true ∧ findIn K (.ref C) "__init__" = some (some (.ref fI)) ∧ typeIn K (.ref fI) = some (.type "function") ∧ FnOK B (.ref fI) params np [] vars ms
  sat : ∀ (i : Nat) (n : Str), (own ++ [("source_column" : Str), ("source_line" : Str)])[i]? = some n → T.sat C n = some i

noncomputable def kmade (C x : Addr) (fs : List PV) (H : AH) : KE := fun v H' => v = .none ∧ H' = H.upd x (.inst C (fs.map some))
theorem CallCode.mono {fv : Value} {vs : List PV} {H : AH} {Q Q' : PV → AH → Prop} (h : CallCode B d fv vs H Q) (hq : ∀ v H, Q v H → Q' v H) : CallCode B d fv vs H Q' := by
  intro z P s A vals R SC hr
  refine codeAny_mono (h z P s A vals R SC hr) ?_
  intro r s' x
  rcases r with e | (v | _ | _ | _) <;> first | exact x | exact x.elim | skip
  obtain ⟨z', p, H', a, b, c, e⟩ := x
  exact ⟨z', p, H', a, b, c, hq _ _ e⟩

theorem conCls (G : GoodB B) (GT : GoodT B T) {nm : Str} {C : Addr} {params : List Str} {np : Nat} {vars : List Str} {ms : List MS} {own : List Str} (K : ClsAt B T nm C params np vars ms own) {vs fs : List PV} (hl : vs.length + 1 = np)
    (h : ∀ H x, H x = none → vcSs B T d ms (kdef (kmade C x fs H)) (initLoc (.ref x :: vs) vars.length) (H.upd x (.inst C []))) : Con B (d + 2) nm vs (.node C fs) := by
  obtain ⟨Kf, fI, X, hm, hi, hf, F⟩ := K.make
  refine ⟨_, K.mg, K.keep, fun H => CallCode.sem ?_⟩
  refine callCls X hm hi hf fun x hx => ?_
  refine (callDefC (Q := kmade C x fs H) G GT F (by simpa using hl) ?_).mono ?_
  · rw [List.append_nil]; exact h H x hx
  · rintro v H' ⟨rfl, rfl⟩
    exact ⟨rfl, fs, upd_self _ _ _, rfl, del_upd hx _⟩

theorem node_init_ok (G : GoodB B) (GT : GoodT B T) {fv : Value} (F : FnOK B fv p_Node_init 3 [] v_Node_init m_Node_init) {x C : Addr} {l c : PV} {H : AH} {fs : List (Option PV)} {i j : Nat} {Q : PV → AH → Prop}
    (hx : H x = some (.inst C fs)) (hi : T.sat C "source_line" = some i) (hj : T.sat C "source_column" = some j) (hi' : i < 1000) (hj' : j < 1000)
    (hq : Q .none (H.upd x (.inst C (slotSet (slotSet fs i l) j c)))) : CallSem B (d + 1) fv [.ref x, l, c] H Q := by
  exact callDef G GT F rfl (sat_mk hx hi hi' (sat_mk (upd_self ..) hj hj' (by rw [upd_upd]; exact hq)))

structure NodeAt (B : Base) (T : Tab) : Prop where
  it : ∃ fv, T.stat "Node" "__init__" = some fv ∧ FnOK B fv p_Node_init 3 [] v_Node_init m_Node_init



theorem mapW_str {f : PV → KE → AH → Prop} {g : Nat → List Nat} : ∀ {s : List Nat} {Q : KL} {H : AH}, (∀ c ∈ s, ∀ (Q : KE) (H : AH), Q (.str (g c)) H → f (.str [c]) Q H) → Q (chPV (s.map g)) H → mapW f (s.map fun c => .str [c]) Q H
  | [], _, _, _, hq => hq
  | c :: r, Q, H, h, hq => h c List.mem_cons_self _ _ (mapW_str (Q := fun rs H'' => Q (.str (g c) :: rs) H'') (fun y hy => h y (List.mem_cons_of_mem _ hy)) hq)
noncomputable def lowC (c : Nat) : Nat := if 65 ≤ c ∧ c ≤ 90 then c + 32 else c
theorem flat_one (f : Nat → Nat) : ∀ s : List Nat, (s.map fun c => [f c]).flatten = s.map f
  | [] => rfl
  | a :: r => by rw [List.map_cons, List.flatten_cons, flat_one f r]; rfl
theorem lower_ok (G : GoodB B) (GT : GoodT B T) (F : FnAt B "ascii_lower" p_ascii_lower 1 [] v_ascii_lower m_ascii_lower) {s : List Nat} (hL : s.length ≤ 100000) : Con B (d + 1) "ascii_lower" [.str s] (.str (s.map lowC)) := by
  refine conDef G GT F rfl fun H => ⟨_, rfl, by rw [List.length_map]; lia, mapW_str (g := fun c => [lowC c]) (fun c hc Q H hq => ?_) ⟨_, allStr_chPV _, ?_, ?_, rfl⟩⟩
  · unfold lowC at hq
    by_cases h1 : 65 ≤ c
    · refine tst_pos h1 ?_
      by_cases h2 : c ≤ 90
      · rw [if_pos ⟨h1, h2⟩] at hq
        exact tst_pos h2 ⟨Nat.lt_of_le_of_lt (Nat.add_le_add_right h2 32) (by decide), hq⟩
      · rw [if_neg (fun h => h2 h.2)] at hq
        exact tst_neg h2 hq
    · rw [if_neg (fun h => h1 h.1)] at hq
      exact tst_neg h1 (tst_dF hq)
  · rw [flat_one, List.length_map]; lia
  · rw [flat_one]
theorem sat_mk' {nm : Str} {l : Addr} {v : PV} {Q : AH → Prop} {H : AH} {c : Addr} {fs fs' : List (Option PV)} {o : AO} {i : Nat} (h : T.sat c nm = some i) (hi : i < 1000) (e : slotSet fs i v = fs') (q : Q (H.upd l (.inst c fs'))) (ho : o = .inst c fs) : satB T nm l v Q (H.upd l o) := by
  subst e; subst ho
  exact sat_mk (upd_self ..) h hi (by rw [upd_upd]; exact q)
section
variable {C : Addr} {own : List Str}
theorem made_of {x : Addr} {fs : List PV} {H : AH} {o : AO} (e : o = .inst C (fs.map some)) {H' : AH} (h : H' = H.upd x o) : kmade C x fs H .none H' := ⟨rfl, by rw [h, e]⟩
theorem cls_value1 (G : GoodB B) (GT : GoodT B T) (N : NodeAt B T) {nm : Str}
    (K : ClsAt B T nm C p_WhitespaceToken_init 4 v_WhitespaceToken_init m_WhitespaceToken_init ["value"]) (l c v : PV) : Con B (d + 3) nm [l, c, v] (.node C [v, c, l]) := by
  refine conCls G GT K rfl fun H x hx => ?_
  obtain ⟨fv, hs, F⟩ := N.it
  refine ⟨⟨fv, hs, F.keep⟩, fv, hs, node_init_ok G GT F (upd_self _ _ _) (K.sat 2 _ rfl) (K.sat 1 _ rfl) (by decide) (by decide) ⟨rfl, ?_⟩⟩
  refine sat_mk (upd_self ..) (K.sat 0 _ rfl) (by decide) ?_
  exact made_of rfl (by rw [upd_upd, upd_upd]; rfl)
theorem cls_ident (G : GoodB B) (GT : GoodT B T) (N : NodeAt B T) {nm : Str} (ha : ∀ s : List Nat, s.length ≤ 100000 → Con B (d + 1) "ascii_lower" [.str s] (.str (s.map lowC)))
    (K : ClsAt B T nm C p_IdentToken_init 4 v_IdentToken_init m_IdentToken_init ["lower_value", "value"]) (l c : PV) {s : List Nat} (hs : s.length ≤ 100000) :
    Con B (d + 3) nm [l, c, .str s] (.node C [.str (s.map lowC), .str s, c, l]) := by
  refine conCls G GT K rfl fun H x hx => ?_
  obtain ⟨fv, hst, F⟩ := N.it
  refine ⟨⟨fv, hst, F.keep⟩, fv, hst, node_init_ok G GT F (upd_self _ _ _) (K.sat 3 _ rfl) (K.sat 2 _ rfl) (by decide) (by decide) ⟨rfl, ?_⟩⟩
  refine sat_mk (upd_self ..) (K.sat 1 _ rfl) (by decide) ⟨(ha s hs).b, (ha s hs).use ?_⟩
  refine sat_mk (upd_self ..) (K.sat 0 _ rfl) (by decide) ?_
  exact made_of rfl (by rw [upd_upd, upd_upd, upd_upd]; rfl)
theorem cls_hash (G : GoodB B) (GT : GoodT B T) (N : NodeAt B T) {nm : Str}
    (K : ClsAt B T nm C p_HashToken_init 5 v_HashToken_init m_HashToken_init ["is_identifier", "value"]) (l c v b : PV) : Con B (d + 3) nm [l, c, v, b] (.node C [b, v, c, l]) := by
  refine conCls G GT K rfl fun H x hx => ?_
  obtain ⟨fv, hs, F⟩ := N.it
  refine ⟨⟨fv, hs, F.keep⟩, fv, hs, node_init_ok G GT F (upd_self _ _ _) (K.sat 3 _ rfl) (K.sat 2 _ rfl) (by decide) (by decide) ⟨rfl, ?_⟩⟩
  refine sat_mk (upd_self ..) (K.sat 1 _ rfl) (by decide) (sat_mk (upd_self ..) (K.sat 0 _ rfl) (by decide) ?_)
  exact made_of rfl (by rw [upd_upd, upd_upd, upd_upd]; rfl)
theorem cls_string (G : GoodB B) (GT : GoodT B T) (N : NodeAt B T) {nm : Str}
    (K : ClsAt B T nm C p_StringToken_init 5 v_StringToken_init m_StringToken_init ["representation", "value"]) (l c v b : PV) : Con B (d + 3) nm [l, c, v, b] (.node C [b, v, c, l]) := by
  refine conCls G GT K rfl fun H x hx => ?_
  obtain ⟨fv, hs, F⟩ := N.it
  refine ⟨⟨fv, hs, F.keep⟩, fv, hs, node_init_ok G GT F (upd_self _ _ _) (K.sat 3 _ rfl) (K.sat 2 _ rfl) (by decide) (by decide) ⟨rfl, ?_⟩⟩
  refine sat_mk (upd_self ..) (K.sat 1 _ rfl) (by decide) (sat_mk (upd_self ..) (K.sat 0 _ rfl) (by decide) ?_)
  exact made_of rfl (by rw [upd_upd, upd_upd, upd_upd]; rfl)
theorem cls_error (G : GoodB B) (GT : GoodT B T) (N : NodeAt B T) {nm : Str}
    (K : ClsAt B T nm C p_ParseError_init 5 v_ParseError_init m_ParseError_init ["kind", "message"]) (l c k m : PV) : Con B (d + 3) nm [l, c, k, m] (.node C [k, m, c, l]) := by
  refine conCls G GT K rfl fun H x hx => ?_
  obtain ⟨fv, hs, F⟩ := N.it
  refine ⟨⟨fv, hs, F.keep⟩, fv, hs, node_init_ok G GT F (upd_self _ _ _) (K.sat 3 _ rfl) (K.sat 2 _ rfl) (by decide) (by decide) ⟨rfl, ?_⟩⟩
  refine sat_mk (upd_self ..) (K.sat 0 _ rfl) (by decide) (sat_mk (upd_self ..) (K.sat 1 _ rfl) (by decide) ?_)
  exact made_of rfl (by rw [upd_upd, upd_upd, upd_upd]; rfl)
theorem cls_number (G : GoodB B) (GT : GoodT B T) (N : NodeAt B T) {nm : Str} 
    (K : ClsAt B T nm C p_NumberToken_init 6 v_NumberToken_init m_NumberToken_init ["int_value", "is_integer", "representation", "value"]) (l c v n r : PV) :
    Con B (d + 3) nm [l, c, v, n, r] (.node C [n, .bool (!isN n), r, v, c, l]) := by
  refine conCls G GT K rfl fun H x hx => ?_
  obtain ⟨fv, hs, F⟩ := N.it
  refine ⟨⟨fv, hs, F.keep⟩, fv, hs, node_init_ok G GT F (upd_self _ _ _) (K.sat 5 _ rfl) (K.sat 4 _ rfl) (by decide) (by decide) ⟨rfl, ?_⟩⟩
  refine sat_mk' (fs := [none, none, none, none, some c, some l]) (fs' := [none, none, none, some v, some c, some l]) (K.sat 3 _ rfl) (by decide) rfl (?_) rfl
  refine sat_mk' (fs := [none, none, none, some v, some c, some l]) (fs' := [some n, none, none, some v, some c, some l]) (K.sat 0 _ rfl) (by decide) rfl (?_) rfl
  refine sat_mk' (fs := [some n, none, none, some v, some c, some l]) (fs' := [some n, some (.bool (DP.dec ⟨isN n = false, inferInstance⟩)), none, some v, some c, some l]) (K.sat 1 _ rfl) (by decide) rfl (?_) rfl
  refine sat_mk' (fs := [some n, some (.bool (DP.dec ⟨isN n = false, inferInstance⟩)), none, some v, some c, some l]) (fs' := [some n, some (.bool (DP.dec ⟨isN n = false, inferInstance⟩)), some r, some v, some c, some l]) (K.sat 2 _ rfl) (by decide) rfl (?_) rfl
  refine made_of ?_ (upd_upd ..)
  cases n <;> rfl
theorem cls_dimension (G : GoodB B) (GT : GoodT B T) (N : NodeAt B T) {nm : Str} (ha : ∀ s : List Nat, s.length ≤ 100000 → Con B (d + 1) "ascii_lower" [.str s] (.str (s.map lowC)))
    (K : ClsAt B T nm C p_DimensionToken_init 7 v_DimensionToken_init m_DimensionToken_init ["int_value", "is_integer", "lower_unit", "representation", "unit", "value"]) (l c v n r : PV) {u : List Nat} (hu : u.length ≤ 100000) :
    Con B (d + 3) nm [l, c, v, n, r, .str u] (.node C [n, .bool (!isN n), .str (u.map lowC), r, .str u, v, c, l]) := by
  refine conCls G GT K rfl fun H x hx => ?_
  obtain ⟨fv, hs, F⟩ := N.it
  refine ⟨⟨fv, hs, F.keep⟩, fv, hs, node_init_ok G GT F (upd_self _ _ _) (K.sat 7 _ rfl) (K.sat 6 _ rfl) (by decide) (by decide) ⟨rfl, ?_⟩⟩
  refine sat_mk' (fs := [none, none, none, none, none, none, some c, some l]) (fs' := [none, none, none, none, none, some v, some c, some l]) (K.sat 5 _ rfl) (by decide) rfl (?_) rfl
  refine sat_mk' (fs := [none, none, none, none, none, some v, some c, some l]) (fs' := [some n, none, none, none, none, some v, some c, some l]) (K.sat 0 _ rfl) (by decide) rfl (?_) rfl
  refine sat_mk' (fs := [some n, none, none, none, none, some v, some c, some l]) (fs' := [some n, some (.bool (DP.dec ⟨isN n = false, inferInstance⟩)), none, none, none, some v, some c, some l]) (K.sat 1 _ rfl) (by decide) rfl (?_) rfl
  refine sat_mk' (fs := [some n, some (.bool (DP.dec ⟨isN n = false, inferInstance⟩)), none, none, none, some v, some c, some l]) (fs' := [some n, some (.bool (DP.dec ⟨isN n = false, inferInstance⟩)), none, some r, none, some v, some c, some l]) (K.sat 3 _ rfl) (by decide) rfl (?_) rfl
  refine sat_mk' (fs := [some n, some (.bool (DP.dec ⟨isN n = false, inferInstance⟩)), none, some r, none, some v, some c, some l]) (fs' := [some n, some (.bool (DP.dec ⟨isN n = false, inferInstance⟩)), none, some r, some (.str u), some v, some c, some l]) (K.sat 4 _ rfl) (by decide) rfl (?_) rfl
  refine ⟨(ha u hu).b, (ha u hu).use ?_⟩
  refine sat_mk' (fs := [some n, some (.bool (DP.dec ⟨isN n = false, inferInstance⟩)), none, some r, some (.str u), some v, some c, some l]) (fs' := [some n, some (.bool (DP.dec ⟨isN n = false, inferInstance⟩)), some (.str (u.map lowC)), some r, some (.str u), some v, some c, some l]) (K.sat 2 _ rfl) (by decide) rfl (?_) rfl
  refine made_of ?_ (upd_upd ..)
  cases n <;> rfl
end
end Mine
end

section
set_option tactic.hygienic false
set_option linter.unusedSimpArgs false
set_option linter.unusedVariables false
set_option backward.match.sparseCases false
set_option genInjectivity false
set_option genSizeOf false
namespace Mine
open PySem PySem.W PySem.StrLaws PySem.Builtin PySem.Builtin.Str

noncomputable def lastR (p : Nat → Bool) : Nat → Nat → Option Nat
  | _, 0 => none
  | lo, n + 1 => match lastR p (lo + 1) n with
    | some i => some i
    | none => if p lo then some lo else none
noncomputable def countR (p : Nat → Bool) : Nat → Nat → Nat
  | _, 0 => 0
  | lo, n + 1 => countR p (lo + 1) n + if p lo then 1 else 0
theorem sub_one (s : List Nat) (c i : Nat) : subAt (sOf s) (sOf [c]) i = true ↔ s[i]? = some c := by
  have h := startsAt_eq s [c] i
  rw [sw1] at h
  by_cases hi : i + 1 ≤ s.length
  · have : decide (i + (sOf [c]).length ≤ (sOf s).length) = true := by rw [sOf_length, sOf_length]; simpa using hi
    rw [this, Bool.true_and] at h
    rw [h]; simp
  · have h0 : s[i]? = none := List.getElem?_eq_none_iff.mpr (by lia)
    rw [h0]
    constructor
    · intro hs
      unfold subAt at hs
      have e := congrArg Array.size (beq_iff_eq.mp hs)
      rw [Array.size_extract] at e
      have h1 : (sOf s).cps.size = s.length := rfl
      have h2 : (sOf [c]).cps.size = 1 := rfl
      have h3 : (sOf [c]).length = 1 := rfl
      rw [h1, h2, h3] at e
      lia
    · intro hs; cases hs
theorem last_run1 {s : List Nat} {c hi : Nat} : ∀ (n lo : Nat) (acc : Option Nat), (forIn (List.range' lo n) acc (lastBody (sOf s) (sOf [c]) hi)).run = match lastR (fun i => decide (i + 1 ≤ hi ∧ s[i]? = some c)) lo n with
    | some i => some i
    | none => acc
  | 0, lo, acc => rfl
  | n + 1, lo, acc => by
    rw [List.range'_succ, List.forIn_cons]
    unfold lastBody lastR
    have hl : (sOf [c]).length = 1 := rfl
    by_cases h : lo + 1 ≤ hi ∧ s[lo]? = some c
    · rw [if_pos ⟨by rw [hl]; exact h.1, (sub_one s c lo).mpr h.2⟩]
      have := last_run1 (s := s) (c := c) (hi := hi) n (lo + 1) (some lo)
      refine Eq.trans this ?_
      cases hr : lastR (fun i => decide (i + 1 ≤ hi ∧ s[i]? = some c)) (lo + 1) n <;> simp [h]
    · rw [if_neg (fun q => h ⟨by have := q.1; rw [hl] at this; exact this, (sub_one s c lo).mp q.2⟩)]
      have := last_run1 (s := s) (c := c) (hi := hi) n (lo + 1) acc
      refine Eq.trans this ?_
      cases hr : lastR (fun i => decide (i + 1 ≤ hi ∧ s[i]? = some c)) (lo + 1) n <;> simp [h]
theorem count_run1 {s : List Nat} {c hi : Nat} : ∀ (n lo : Nat) (st : Array Nat × Nat), st.2 ≤ lo → st.1.size + n ≤ s.length + 1 →
    (forIn (List.range' lo n) st (occBody (sOf s) (sOf [c]) hi (s.length + 1))).run.1.toList.length = st.1.size + countR (fun i => decide (i + 1 ≤ hi ∧ s[i]? = some c)) lo n
  | 0, lo, st, _, _ => by simp [countR]
  | n + 1, lo, st, h1, h2 => by
    rw [List.range'_succ, List.forIn_cons]
    unfold occBody countR
    have hl : (sOf [c]).length = 1 := rfl
    by_cases h : lo + 1 ≤ hi ∧ s[lo]? = some c
    · rw [if_pos ⟨⟨⟨by lia, h1⟩, by rw [hl]; exact h.1⟩, (sub_one s c lo).mpr h.2⟩]
      have := count_run1 (s := s) (c := c) (hi := hi) n (lo + 1) (st.1.push lo, lo + (sOf [c]).length) (by rw [hl]; exact Nat.le_refl _) (by simp; lia)
      refine Eq.trans this ?_
      simp [h]; lia
    · rw [if_neg (fun q => h ⟨by have := q.1.2; rw [hl] at this; exact this, (sub_one s c lo).mp q.2⟩)]
      have := count_run1 (s := s) (c := c) (hi := hi) n (lo + 1) (st.1, st.2) (by dsimp only; lia) (by dsimp only; lia)
      refine Eq.trans this ?_
      simp [h]
theorem lastR_end {p q : Nat → Bool} : ∀ (n lo : Nat), (∀ i, lo ≤ i → i < lo + n → p i = q i) → p (lo + n) = false → lastR p lo (n + 1) = lastR q lo n
  | 0, lo, h, he => by simp [lastR]; simpa using he
  | n + 1, lo, h, he => by
    rw [lastR, lastR_end (p := p) (q := q) n (lo + 1) (fun i h1 h2 => h i (by lia) (by lia)) (by rw [show lo + 1 + n = lo + (n + 1) by lia]; exact he), lastR, h lo (Nat.le_refl _) (by lia)]
theorem countR_end {p q : Nat → Bool} : ∀ (n lo : Nat), (∀ i, lo ≤ i → i < lo + n → p i = q i) → p (lo + n) = false → countR p lo (n + 1) = countR q lo n
  | 0, lo, h, he => by simp [countR]; simpa using he
  | n + 1, lo, h, he => by
    rw [countR, countR_end (p := p) (q := q) n (lo + 1) (fun i h1 h2 => h i (by lia) (by lia)) (by rw [show lo + 1 + n = lo + (n + 1) by lia]; exact he), countR, h lo (Nat.le_refl _) (by lia)]

noncomputable def isAt (s : List Nat) (c : Nat) (i : Nat) : Bool := decide (s[i]? = some c)
theorem rfindL_is {s : List Nat} {c a b : Nat} (hab : a ≤ b) (hb : b ≤ s.length) : rfindL c s a b = lastR (isAt s c) a (b - a) := by
  unfold rfindL
  rw [Nat.min_eq_left hb, last_eq, last_run1, show b + 1 - a = b - a + 1 by lia]
  rw [lastR_end (q := isAt s c) (b - a) a (fun i h1 h2 => ?_) (by simp; lia)]
  · cases lastR (isAt s c) a (b - a) <;> rfl
  · unfold isAt
    have : i + 1 ≤ b := by lia
    simp [this]
theorem countL_is {s : List Nat} {c a b : Nat} (hab : a ≤ b) (hb : b ≤ s.length) : countL c s a b = countR (isAt s c) a (b - a) := by
  unfold countL
  rw [Nat.min_eq_left hb, occ_eq, count_run1 (b + 1 - a) a (#[], a) (Nat.le_refl _) (by simp; lia), show b + 1 - a = b - a + 1 by lia]
  rw [countR_end (q := isAt s c) (b - a) a (fun i h1 h2 => ?_) (by simp; lia)]
  · simp
  · unfold isAt
    have : i + 1 ≤ b := by lia
    simp [this]

noncomputable def placeAt (s : List Nat) : Nat → Nat × Nat
  | 0 => (1, 1)
  | p + 1 => if isAt s 10 p then ((placeAt s p).1 + 1, 1) else ((placeAt s p).1, (placeAt s p).2 + 1)
theorem placeAt_succ (s : List Nat) (p : Nat) : placeAt s (p + 1) = if isAt s 10 p then ((placeAt s p).1 + 1, 1) else ((placeAt s p).1, (placeAt s p).2 + 1) := rfl
theorem place_track (s : List Nat) : ∀ (n a : Nat), match lastR (isAt s 10) a n with
    | none => placeAt s (a + n) = ((placeAt s a).1, (placeAt s a).2 + n)
    | some i => a ≤ i ∧ i < a + n ∧ placeAt s (a + n) = ((placeAt s a).1 + 1 + countR (isAt s 10) a (i - a), a + n - i)
  | 0, a => by simp [lastR]
  | n + 1, a => by
    have ih := place_track s n (a + 1)
    unfold lastR
    rw [show a + (n + 1) = a + 1 + n by lia]
    cases hr : lastR (isAt s 10) (a + 1) n with
    | some i =>
      rw [hr] at ih
      obtain ⟨h1, h2, h3⟩ := ih
      refine ⟨by lia, h2, ?_⟩
      rw [h3, show i - a = i - (a + 1) + 1 by lia, countR]
      rw [placeAt_succ]
      cases hp : isAt s 10 a <;> simp <;> lia
    | none =>
      rw [hr] at ih
      dsimp only at ih ⊢
      rw [ih, placeAt_succ]
      cases hp : isAt s 10 a
      · simp; lia
      · simp [countR]; lia
end Mine
end

section
set_option tactic.hygienic false
set_option maxRecDepth 10000
set_option backward.match.sparseCases false
set_option genInjectivity false
set_option genSizeOf false
namespace Mine
open PySem PySem.W
variable {B : Base} {T : Tab} {d : Nat}

set_option genCtorIdx false in
inductive TK where
  | ws (v : List Nat)
  | lit (v : List Nat)
  | ident (v : List Nat)
  | at_ (v : List Nat)
  | hash (v : List Nat) (b : Bool)
  | str (v r : List Nat)
  | num (r : List Nat) (iv : Option Int)
  | pct (r : List Nat) (iv : Option Int)
  | dim (r : List Nat) (iv : Option Int) (u : List Nat)
  | err (k : Nat)
structure Cls where
  ws : Addr
  lit : Addr
  ident : Addr
  at_ : Addr
  hash : Addr
  str : Addr
  num : Addr
  pct : Addr
  dim : Addr
  err : Addr
noncomputable def ivPV : Option Int → PV
  | none => .none
  | some i => .int i
noncomputable def errK : Nat → PV
  | 1 => .str [101, 111, 102, 45, 105, 110, 45, 115, 116, 114, 105, 110, 103]
  | _ => .str [98, 97, 100, 45, 115, 116, 114, 105, 110, 103]
noncomputable def errM : Nat → PV
  | 1 => .str [69, 79, 70, 32, 105, 110, 32, 115, 116, 114, 105, 110, 103]
  | _ => .str [66, 97, 100, 32, 115, 116, 114, 105, 110, 103, 32, 116, 111, 107, 101, 110]
noncomputable def tkPV (cl : Cls) (l c : PV) : TK → PV
  | .ws v => .node cl.ws [.str v, c, l]
  | .lit v => .node cl.lit [.str v, c, l]
  | .ident v => .node cl.ident [.str (v.map lowC), .str v, c, l]
  | .at_ v => .node cl.at_ [.str (v.map lowC), .str v, c, l]
  | .hash v b => .node cl.hash [.bool b, .str v, c, l]
  | .str v r => .node cl.str [.str r, .str v, c, l]
  | .num r iv => .node cl.num [ivPV iv, .bool (!isN (ivPV iv)), .str r, .str r, c, l]
  | .pct r iv => .node cl.pct [ivPV iv, .bool (!isN (ivPV iv)), .str r, .str r, c, l]
  | .dim r iv u => .node cl.dim [ivPV iv, .bool (!isN (ivPV iv)), .str (u.map lowC), .str r, .str u, .str r, c, l]
  | .err k => .node cl.err [errK k, errM k, c, l]

noncomputable def isBl (c : Nat) : Bool := decide (c ∈ [32, 10, 9])
noncomputable def wsRun : List Nat → Nat
  | [] => 0
  | c :: r => if isBl c then wsRun r + 1 else 0
noncomputable def hashStart : List Nat → Bool
  | [] => false
  | c :: r => isNC c || (decide (c = 92) && !decide (r.head? = some 10))
noncomputable def numVal (r : List Nat) : Int := if r.head? = some 45 then - (hexNum' r.tail : Int) else if r.head? = some 43 then hexNum' r.tail else hexNum' r
where hexNum' (s : List Nat) : Nat := s.foldl (fun a c => a * 10 + (c - 48)) 0
noncomputable def ivOf (pl : Bool) (r : List Nat) : Option Int := if pl then some (numVal r) else none
noncomputable def strToks (ser : List Nat → List Nat) (t : Option (List Nat) × Nat × Nat) : List TK :=
  (match t.1 with
    | none => []
    | some v => [.str v (if t.2.2 = 0 then [34] ++ ser v ++ [34] else [34] ++ ser v)]) ++ (if t.2.2 = 0 then [] else [.err t.2.2])
noncomputable def tkStep (ser : List Nat → List Nat) (css : List Nat) (p : Nat) : List TK × Nat :=
  match css[p]? with
  | none => ([], p + 1)
  | some c =>
    if isBl c then ([.ws ((css.drop p).take (1 + wsRun (css.drop (p + 1))))], p + (1 + wsRun (css.drop (p + 1))))
    else if startsAt css [45, 45, 62] p then ([.lit [45, 45, 62]], p + 3)
    else if identStart (css.drop p) then ([.ident (identSpec (css.drop p)).1], p + (identSpec (css.drop p)).2)
    else match numFrom css p with
      | some (e, pl) =>
        if identStart (css.drop e) then ([.dim ((css.drop p).take (e - p)) (ivOf pl ((css.drop p).take (e - p))) (identSpec (css.drop e)).1], e + (identSpec (css.drop e)).2)
        else if css[e]? = some 37 then ([.pct ((css.drop p).take (e - p)) (ivOf pl ((css.drop p).take (e - p)))], e + 1)
        else ([.num ((css.drop p).take (e - p)) (ivOf pl ((css.drop p).take (e - p)))], e)
      | none =>
        if c = 64 then (if identStart (css.drop (p + 1)) then ([.at_ (identSpec (css.drop (p + 1))).1], p + 1 + (identSpec (css.drop (p + 1))).2) else ([.lit [64]], p + 1))
        else if c = 35 then (if hashStart (css.drop (p + 1)) then ([.hash (identSpec (css.drop (p + 1))).1 (identStart (css.drop (p + 1)))], p + 1 + (identSpec (css.drop (p + 1))).2) else ([.lit [35]], p + 1))
        else if c = 34 ∨ c = 39 then (strToks ser (quotedSpec c (css.drop (p + 1))), p + 1 + (quotedSpec c (css.drop (p + 1))).2.1)
        else ([.lit [c]], p + 1)

structure ParseEnv (B : Base) (d : Nat) (cl : Cls) (ser : List Nat → List Nat) : Prop where
  ids : ∀ (css : List Nat) (pos : Nat), css.length ≤ 100000 → pos < css.length → Con B d "_is_ident_start" [.str css, .int pos] (.bool (identStart (css.drop pos)))
  idc : ∀ (css : List Nat) (pos : Nat), css.length ≤ 100000 → pos ≤ css.length → Con B d "_consume_ident" [.str css, .int pos] (.tup [.str (identSpec (css.drop pos)).1, .int (pos + (identSpec (css.drop pos)).2 : Nat)])
  num : ∀ (css : List Nat) (pos : Nat), Con B d "_number_end" [.str css, .int pos] (numPV (numFrom css pos))
  quo : ∀ (css : List Nat) (pos q : Nat), css.length ≤ 100000 → css[pos]? = some q → (q = 34 ∨ q = 39) →
    Con B d "_consume_quoted_string" [.str css, .int pos] (.tup [optPV (quotedSpec q (css.drop (pos + 1))).1, .int (pos + 1 + (quotedSpec q (css.drop (pos + 1))).2.1 : Nat), errPV (quotedSpec q (css.drop (pos + 1))).2.2])
  serC : ∀ v : List Nat, v.length ≤ 100000 → Con B d "serialize_string_value" [.str v] (.str (ser v))
  serl : ∀ v : List Nat, (ser v).length ≤ 3 * v.length
  ws : ∀ l c v : PV, Con B d "WhitespaceToken" [l, c, v] (.node cl.ws [v, c, l])
  lit : ∀ l c v : PV, Con B d "LiteralToken" [l, c, v] (.node cl.lit [v, c, l])
  ident : ∀ (l c : PV) (s : List Nat), s.length ≤ 100000 → Con B d "IdentToken" [l, c, .str s] (.node cl.ident [.str (s.map lowC), .str s, c, l])
  at_ : ∀ (l c : PV) (s : List Nat), s.length ≤ 100000 → Con B d "AtKeywordToken" [l, c, .str s] (.node cl.at_ [.str (s.map lowC), .str s, c, l])
  hash : ∀ l c v b : PV, Con B d "HashToken" [l, c, v, b] (.node cl.hash [b, v, c, l])
  str : ∀ l c v r : PV, Con B d "StringToken" [l, c, v, r] (.node cl.str [r, v, c, l])
  numT : ∀ l c v n r : PV, Con B d "NumberToken" [l, c, v, n, r] (.node cl.num [n, .bool (!isN n), r, v, c, l])
  pct : ∀ l c v n r : PV, Con B d "PercentageToken" [l, c, v, n, r] (.node cl.pct [n, .bool (!isN n), r, v, c, l])
  dim : ∀ (l c v n r : PV) (u : List Nat), u.length ≤ 100000 → Con B d "DimensionToken" [l, c, v, n, r, .str u] (.node cl.dim [n, .bool (!isN n), .str (u.map lowC), r, .str u, v, c, l])
  err : ∀ l c k m : PV, Con B d "ParseError" [l, c, k, m] (.node cl.err [k, m, c, l])

noncomputable def badChars : List Nat := [40, 41, 91, 93, 123, 125, 47, 60, 61, 124, 94, 36, 42, 117, 85]


noncomputable def tkAt (ser : List Nat → List Nat) (css : List Nat) (p c : Nat) : List TK × Nat :=
    if isBl c then ([.ws ((css.drop p).take (1 + wsRun (css.drop (p + 1))))], p + (1 + wsRun (css.drop (p + 1))))
    else if startsAt css [45, 45, 62] p then ([.lit [45, 45, 62]], p + 3)
    else if identStart (css.drop p) then ([.ident (identSpec (css.drop p)).1], p + (identSpec (css.drop p)).2)
    else match numFrom css p with
      | some (e, pl) =>
        if identStart (css.drop e) then ([.dim ((css.drop p).take (e - p)) (ivOf pl ((css.drop p).take (e - p))) (identSpec (css.drop e)).1], e + (identSpec (css.drop e)).2)
        else if css[e]? = some 37 then ([.pct ((css.drop p).take (e - p)) (ivOf pl ((css.drop p).take (e - p)))], e + 1)
        else ([.num ((css.drop p).take (e - p)) (ivOf pl ((css.drop p).take (e - p)))], e)
      | none =>
        if c = 64 then (if identStart (css.drop (p + 1)) then ([.at_ (identSpec (css.drop (p + 1))).1], p + 1 + (identSpec (css.drop (p + 1))).2) else ([.lit [64]], p + 1))
        else if c = 35 then (if hashStart (css.drop (p + 1)) then ([.hash (identSpec (css.drop (p + 1))).1 (identStart (css.drop (p + 1)))], p + 1 + (identSpec (css.drop (p + 1))).2) else ([.lit [35]], p + 1))
        else if c = 34 ∨ c = 39 then (strToks ser (quotedSpec c (css.drop (p + 1))), p + 1 + (quotedSpec c (css.drop (p + 1))).2.1)
        else ([.lit [c]], p + 1)
theorem tkStep_at {ser : List Nat → List Nat} {css : List Nat} {p c : Nat} (h : css[p]? = some c) : tkStep ser css p = tkAt ser css p c := by
  unfold tkStep; rw [h]; rfl

section
variable {cl : Cls} {ser : List Nat → List Nat} {css : List Nat} {p c e : Nat} {l : Addr} {toks : List PV} {ts : List TK} {Q : KS} {H : AH} {a1 a3 a7 a10 : Option PV} {L N : Int}

theorem any_bl {s : List Nat} {i : Nat} : ([[32], [10], [9]] : List (List Nat)).any (fun p => startsAt s p i) = (s[i]?.any isBl) := by
  rw [Bool.eq_iff_iff]
  simp only [List.any_cons, List.any_nil, sw1, Bool.or_false, Bool.or_eq_true, decide_eq_true_eq]
  cases s[i]? with
  | none => simp
  | some c => simp [isBl]
theorem ws_loop {k : Nat} {a2 a5 a6 a8 a9 : Option PV} {a11 a12 a13 a14 a15 a16 a17 a18 a19 a20 a21 a22 a23 a24 a25 a26 a27 a28 : Option PV}
    (hq : Q .next [some (.str css), a1, a2, a3, some (.int (k + wsRun (css.drop k) : Nat)), a5, a6, a7, a8, a9, a10, a11, a12, a13, a14, a15, a16, a17, a18, a19, a20, a21, a22, a23, a24, a25, a26, a27, a28] H) :
    vcS B T d w_parse_1 Q [some (.str css), a1, a2, a3, some (.int (k : Nat)), a5, a6, a7, a8, a9, a10, a11, a12, a13, a14, a15, a16, a17, a18, a19, a20, a21, a22, a23, a24, a25, a26, a27, a28] H := by
  generalize hr : k + wsRun (css.drop k) = r at hq
  refine wh_mk (fun n ρ' H' => ∃ e, ρ' = [some (.str css), a1, a2, a3, some (.int (k + e : Nat)), a5, a6, a7, a8, a9, a10, a11, a12, a13, a14, a15, a16, a17, a18, a19, a20, a21, a22, a23, a24, a25, a26, a27, a28] ∧ H' = H ∧ k + e + wsRun (css.drop (k + e)) = r ∧ n = css.length - (k + e)) (css.length - k) ⟨0, rfl, rfl, hr, rfl⟩ ?_
  rintro n ρ' H' ⟨e, rfl, rfl, he, rfl⟩
  cases hg : css[k + e]? with
  | none =>
    rw [drop_none hg] at he
    replace he : k + e = r := he
    subst he
    exact tst_bf (by rw [any_bl, hg]; rfl) hq
  | some c =>
    rw [drop_get hg, wsRun] at he
    have hb : ([[32], [10], [9]] : List (List Nat)).any (fun p => startsAt css p (k + e)) = isBl c := by rw [any_bl, hg]; rfl
    cases h : isBl c with
    | true =>
      rw [h] at he hb
      exact tst_bt hb ⟨_, meas (get_lt hg), e + 1, rfl, rfl, (Nat.succ_add_eq_add_succ ..).trans he, rfl⟩
    | false =>
      rw [h] at he hb
      replace he : k + e = r := he
      subst he
      exact tst_bf hb hq

noncomputable def Rho (css : List Nat) (a1 a7 a10 : Option PV) (l : Addr) (tsp p : Nat) (L N : Int) (ρ : Loc) : Prop :=
  ∃ a11 a12 a13 a14 a15 a16 a17 a18 a19 a20 a21 a22 a23 a24 a25 a26 a27 a28 : Option PV, ρ = [some (.str css), a1, some (.int css.length), some (.int tsp), some (.int p), some (.int L), some (.int N), a7, some (.ref l), some .none, a10, a11, a12, a13, a14, a15, a16, a17, a18, a19, a20, a21, a22, a23, a24, a25, a26, a27, a28]
abbrev US : List PV → List PV := id

theorem num12_ok (E : ParseEnv B d cl ser) (hget : H l = some (.list toks)) (ht : toks.length ≤ 1000000) {iv : Option Int} {R : List Nat} (hid : identStart (css.drop e) = false)
    (hS : (if identStart (css.drop e) then ([.dim R iv (identSpec (css.drop e)).1], e + (identSpec (css.drop e)).2) else if css[e]? = some 37 then ([.pct R iv], e + 1) else ([.num R iv], e)) = (ts, q))
    (hq : ∀ ρ' H', Rho css a1 a7 a10 l p (q) L N ρ' → H' = H.upd l (.list (toks ++ ts.map (tkPV cl (.int L) (.int (p - N))))) → Q .next ρ' H') {a11 a13 a15 a16 a17 a18 a19 a20 a21 a22 a23 a26 a27 a28 : Option PV} :
    vcSs B T d b_parse_12 Q [some (.str css), a1, some (.int css.length), some (.int p), some (.int e), some (.int L), some (.int N), a7, some (.ref l), some .none, a10, a11, some (.int (p - N)), a13, some (.str R), a15, a16, a17, a18, a19, a20, a21, a22, a23, some (.str R), some (ivPV iv), a26, a27, a28] H := by
  rw [hid, if_neg Bool.false_ne_true] at hS
  by_cases h37 : css[e]? = some 37
  · rw [if_pos h37] at hS
    cases hS
    exact tst_bt (sw_t h37) ⟨⟨_, hget⟩, (E.pct _ _ _ _ _).run (app_mk hget ht ⟨rfl, hq _ _ ⟨_, _, _, _, _, _, _, _, _, _, _, _, _, _, _, _, _, _, rfl⟩ rfl⟩)⟩
  · rw [if_neg h37] at hS
    cases hS
    exact tst_bf (sw_f h37) ⟨⟨_, hget⟩, (E.numT _ _ _ _ _).run (app_mk hget ht ⟨rfl, hq _ _ ⟨_, _, _, _, _, _, _, _, _, _, _, _, _, _, _, _, _, _, rfl⟩ rfl⟩)⟩
theorem idlen {s : List Nat} {e : Nat} (hL : s.length ≤ 100000) : (identSpec (s.drop e)).1.length ≤ 100000 := by
  have := (identSpec_len _ (s.drop e) (Nat.le_refl _)).1
  rw [List.length_drop] at this
  lia
theorem num2_ok (E : ParseEnv B d cl ser) (hL : css.length ≤ 100000) (he : e ≤ css.length) (hget : H l = some (.list toks)) (ht : toks.length ≤ 1000000) {iv : Option Int} {R : List Nat}
    (hS : (if identStart (css.drop e) then ([.dim R iv (identSpec (css.drop e)).1], e + (identSpec (css.drop e)).2) else if css[e]? = some 37 then ([.pct R iv], e + 1) else ([.num R iv], e)) = (ts, q))
    (hq : ∀ ρ' H', Rho css a1 a7 a10 l p (q) L N ρ' → H' = H.upd l (.list (toks ++ ts.map (tkPV cl (.int L) (.int (p - N))))) → Q .next ρ' H') {a11 a13 a15 a16 a17 a18 a19 a20 a21 a22 a23 a26 a27 a28 : Option PV} :
    vcSs B T d (b_parse_13.drop 4) Q [some (.str css), a1, some (.int css.length), some (.int p), some (.int e), some (.int L), some (.int N), a7, some (.ref l), some .none, a10, a11, some (.int (p - N)), a13, some (.str R), a15, a16, a17, a18, a19, a20, a21, a22, a23, some (.str R), some (ivPV iv), a26, a27, a28] H := by
  cases hg : css[e]? with
  | none => exact tst_neg (lt_no hg) (tst_dF (num12_ok E hget ht (by rw [drop_none hg]; rfl) hS hq))
  | some x =>
    refine tst_pos (lt_yes hg) ((E.ids css e hL (get_lt hg)).run ?_)
    cases hid : identStart (css.drop e) with
    | false => exact tst_f (tst_dF (num12_ok E hget ht hid hS hq))
    | true =>
      rw [hid, if_pos rfl] at hS
      cases hS
      exact tst_t (tst_dT ((E.idc css e hL he).run ⟨rfl, ⟨_, hget⟩, (E.dim _ _ _ _ _ _ (idlen hL)).run (app_mk hget ht ⟨rfl, hq _ _ ⟨_, _, _, _, _, _, _, _, _, _, _, _, _, _, _, _, _, _, rfl⟩ rfl⟩)⟩))
theorem num_ok (E : ParseEnv B d cl ser) (hL : css.length ≤ 100000) (he : e ≤ css.length) (hget : H l = some (.list toks)) (ht : toks.length ≤ 1000000) {pl : Bool} {R : List Nat} (hR : (css.drop p).take (e - p) = R)
    (hiv : pl = true → R.length ≤ 640 ∧ PySem.intText? (sOf R) = some (numVal R))
    (hS : (if identStart (css.drop e) then ([.dim R (ivOf pl R) (identSpec (css.drop e)).1], e + (identSpec (css.drop e)).2) else if css[e]? = some 37 then ([.pct R (ivOf pl R)], e + 1) else ([.num R (ivOf pl R)], e)) = (ts, q))
    (hq : ∀ ρ' H', Rho css a1 a7 a10 l p (q) L N ρ' → H' = H.upd l (.list (toks ++ ts.map (tkPV cl (.int L) (.int (p - N))))) → Q .next ρ' H') {a11 a13 a14 a15 a17 a18 a19 a20 a21 a22 a24 a25 a26 a27 a28 : Option PV} :
    vcSs B T d b_parse_13 Q [some (.str css), a1, some (.int css.length), some (.int p), some (.int p), some (.int L), some (.int N), a7, some (.ref l), some .none, a10, a11, some (.int (p - N)), a13, a14, a15, some (.int e), a17, a18, a19, a20, a21, a22, some (.bool pl), a24, a25, a26, a27, a28] H := by
  subst hR
  cases pl with
  | true => exact tst_t ⟨(hiv rfl).1, _, (hiv rfl).2, num2_ok E hL he hget ht hS hq⟩
  | false => exact tst_f (num2_ok E hL he hget ht hS hq)
theorem at_ok (E : ParseEnv B d cl ser) (hL : css.length ≤ 100000) (hget : H l = some (.list toks)) (ht : toks.length ≤ 1000000)
    (hS : (if identStart (css.drop (p + 1)) then ([.at_ (identSpec (css.drop (p + 1))).1], p + 1 + (identSpec (css.drop (p + 1))).2) else ([.lit [64]], p + 1)) = (ts, q))
    (hq : ∀ ρ' H', Rho css a1 a7 a10 l p (q) L N ρ' → H' = H.upd l (.list (toks ++ ts.map (tkPV cl (.int L) (.int (p - N))))) → Q .next ρ' H') {a11 a13 a14 a15 a16 a17 a18 a19 a20 a21 a22 a23 a24 a25 a26 a27 a28 : Option PV} :
    vcSs B T d b_parse_16 Q [some (.str css), a1, some (.int css.length), some (.int p), some (.int p), some (.int L), some (.int N), a7, some (.ref l), some .none, a10, a11, some (.int (p - N)), a13, a14, a15, a16, a17, a18, a19, a20, a21, a22, a23, a24, a25, a26, a27, a28] H := by
  have lit : identStart (css.drop (p + 1)) = false → vcSs B T d b_parse_15 (kseq (vcSs B T d []) Q) [some (.str css), a1, some (.int css.length), some (.int p), some (.int (p + 1 : Nat)), some (.int L), some (.int N), a7, some (.ref l), some .none, a10, a11, some (.int (p - N)), a13, a14, a15, a16, a17, a18, a19, a20, a21, a22, a23, a24, a25, a26, a27, a28] H := by
    intro hid
    rw [hid, if_neg Bool.false_ne_true] at hS
    cases hS
    exact ⟨⟨_, hget⟩, (E.lit _ _ _).run (app_mk hget ht ⟨rfl, hq _ _ ⟨_, _, _, _, _, _, _, _, _, _, _, _, _, _, _, _, _, _, rfl⟩ rfl⟩)⟩
  cases hg : css[p + 1]? with
  | none => exact tst_neg (lt_no hg) (tst_dF (lit (by rw [drop_none hg]; rfl)))
  | some x =>
    refine tst_pos (lt_yes hg) ((E.ids css (p + 1) hL (get_lt hg)).run ?_)
    cases hid : identStart (css.drop (p + 1)) with
    | false => exact tst_f (tst_dF (lit hid))
    | true =>
      rw [hid, if_pos rfl] at hS
      cases hS
      have hi := E.idc css (p + 1) hL (Nat.le_of_lt (get_lt hg))
      exact tst_t (tst_dT (hi.run ⟨rfl, ⟨_, hget⟩, (E.at_ _ _ _ (idlen hL)).run (app_mk hget ht ⟨rfl, hq _ _ ⟨_, _, _, _, _, _, _, _, _, _, _, _, _, _, _, _, _, _, rfl⟩ rfl⟩)⟩))
theorem hashChars_is (c : Nat) : c ∈ ([48, 49, 50, 51, 52, 53, 54, 55, 56, 57, 97, 98, 99, 100, 101, 102, 103, 104, 105, 106, 107, 108, 109, 110, 111, 112, 113, 114, 115, 116, 117, 118, 119, 120, 121, 122, 45, 95, 65, 66, 67, 68, 69, 70, 71, 72, 73, 74, 75, 76, 77, 78, 79, 80, 81, 82, 83, 84, 85, 86, 87, 88, 89, 90] : List Nat) ↔ isNC0 c = true := by
  refine mem_below (p := isNC0) (by decide) (by decide) (fun c h => ?_) c
  unfold isNC0 isNS0
  rw [decide_eq_false (by lia), decide_eq_false (by lia)]; rfl
theorem hash_ok (E : ParseEnv B d cl ser) (hL : css.length ≤ 100000) (hget : H l = some (.list toks)) (ht : toks.length ≤ 1000000)
    (hS : (if hashStart (css.drop (p + 1)) then ([.hash (identSpec (css.drop (p + 1))).1 (identStart (css.drop (p + 1)))], p + 1 + (identSpec (css.drop (p + 1))).2) else ([.lit [35]], p + 1)) = (ts, q))
    (hq : ∀ ρ' H', Rho css a1 a7 a10 l p (q) L N ρ' → H' = H.upd l (.list (toks ++ ts.map (tkPV cl (.int L) (.int (p - N))))) → Q .next ρ' H') {a11 a13 a14 a15 a16 a17 a18 a19 a20 a21 a22 a23 a24 a25 a26 a27 a28 : Option PV} :
    vcSs B T d b_parse_19 Q [some (.str css), a1, some (.int css.length), some (.int p), some (.int p), some (.int L), some (.int N), a7, some (.ref l), some .none, a10, a11, some (.int (p - N)), a13, a14, a15, a16, a17, a18, a19, a20, a21, a22, a23, a24, a25, a26, a27, a28] H := by
  have lit : hashStart (css.drop (p + 1)) = false → vcSs B T d b_parse_18 (kseq (vcSs B T d []) Q) [some (.str css), a1, some (.int css.length), some (.int p), some (.int (p + 1 : Nat)), some (.int L), some (.int N), a7, some (.ref l), some .none, a10, a11, some (.int (p - N)), a13, a14, a15, a16, a17, a18, a19, a20, a21, a22, a23, a24, a25, a26, a27, a28] H := by
    intro hid
    rw [hid, if_neg Bool.false_ne_true] at hS
    cases hS
    exact ⟨⟨_, hget⟩, (E.lit _ _ _).run (app_mk hget ht ⟨rfl, hq _ _ ⟨_, _, _, _, _, _, _, _, _, _, _, _, _, _, _, _, _, _, rfl⟩ rfl⟩)⟩
  cases hg : css[p + 1]? with
  | none => exact tst_neg (lt_no hg) (tst_dF (lit (by rw [drop_none hg]; rfl)))
  | some x =>
    have hd := drop_get hg
    have yes : hashStart (css.drop (p + 1)) = true → vcSs B T d b_parse_17 (kseq (vcSs B T d []) Q) [some (.str css), a1, some (.int css.length), some (.int p), some (.int (p + 1 : Nat)), some (.int L), some (.int N), a7, some (.ref l), some .none, a10, a11, some (.int (p - N)), a13, a14, a15, a16, a17, a18, a19, a20, a21, a22, a23, a24, a25, a26, a27, a28] H := by
      intro hh
      rw [hh, if_pos rfl] at hS
      cases hS
      have h1 := E.ids css (p + 1) hL (get_lt hg)
      have h2 := E.idc css (p + 1) hL (Nat.le_of_lt (get_lt hg))
      exact h1.run (h2.run ⟨rfl, ⟨_, hget⟩, (E.hash _ _ _ _).run (app_mk hget ht ⟨rfl, hq _ _ ⟨_, _, _, _, _, _, _, _, _, _, _, _, _, _, _, _, _, _, rfl⟩ rfl⟩)⟩)
    have hh : hashStart (css.drop (p + 1)) = (isNC x || (decide (x = 92) && !decide (css[p + 1 + 1]? = some 10))) := by rw [hd, hashStart, List.head?_drop]
    rw [hh] at lit yes
    unfold isNC at lit yes
    refine tst_pos (lt_yes hg) ⟨x, hg, tst_iff (hashChars_is x) (fun h0 => tst_dT (tst_dT (yes (by rw [h0]; rfl)))) (fun h0 => ?_)⟩
    rw [h0, Bool.false_or] at lit yes
    by_cases h127 : 127 < x
    · exact ⟨x, hg, tst_pos (Int.ofNat_lt.mpr h127) (tst_dT (tst_dT (yes (by rw [decide_eq_true h127]; rfl))))⟩
    · rw [decide_eq_false h127, Bool.false_or] at lit yes
      refine ⟨x, hg, tst_neg (fun h => h127 (Int.ofNat_lt.mp h)) ⟨x, hg, ?_⟩⟩
      by_cases h92 : x = 92
      · subst h92
        rw [decide_eq_true rfl, Bool.true_and] at lit yes
        refine tst_pos rfl ?_
        by_cases h10 : css[p + 1 + 1]? = some 10
        · rw [decide_eq_true h10] at lit
          refine tst_neg (fun h => h ?_) (tst_dF (tst_dF (tst_dF (lit rfl))))
          show startsAt _ _ _ = true
          rw [sw2, hg, h10]; rfl
        · rw [decide_eq_false h10] at yes
          refine tst_pos (fun h => ?_) (tst_dT (tst_dT (tst_dT (yes rfl))))
          replace h : startsAt css [92, 10] (p + 1) = true := h
          rw [sw2, decide_eq_false h10, Bool.and_false] at h
          exact nomatch h
      · rw [decide_eq_false h92] at lit
        exact tst_neg (fun h => h92 (cons1 h)) (tst_dF (tst_dF (tst_dF (lit rfl))))
end
end Mine
end

section
set_option tactic.hygienic false
set_option maxRecDepth 10000
set_option backward.match.sparseCases false
set_option genInjectivity false
set_option genSizeOf false
namespace Mine
open PySem PySem.W
variable {B : Base} {T : Tab} {d : Nat}
section
variable {cl : Cls} {ser : List Nat → List Nat} {css : List Nat} {p c e q : Nat} {l : Addr} {toks : List PV} {ts : List TK} {Q : KS} {H : AH} {a1 a3 a7 a10 : Option PV} {L N : Int}
theorem upd_same {H : AH} {l : Addr} {o : AO} (h : H l = some o) : H.upd l o = H := by
  funext b; unfold AH.upd; split
  · rename_i e; rw [e, h]
  · rfl
theorem sw_head {s r : List Nat} {a i : Nat} (h : startsAt s (a :: r) i = true) : s[i]? = some a := by
  unfold startsAt at h
  cases hg : s[i]? with
  | none => rw [drop_none hg] at h; exact nomatch h
  | some x =>
    rw [drop_get hg] at h
    have h1 := beq_iff_eq.mp (ands h).1
    rw [(List.cons.inj h1).1]
theorem err_ok (E : ParseEnv B d cl ser) {er n : Nat} {X : List PV} (hget : H l = some (.list X)) (ht : X.length ≤ 1000000)
    (hq : ∀ ρ' H', Rho css a1 a7 a10 l p n L N ρ' → H' = (if er = 0 then H else H.upd l (.list (X ++ [tkPV cl (.int L) (.int (p - N)) (.err er)]))) → Q .next ρ' H') {a11 a13 a14 a15 a16 a17 a18 a20 a21 a22 a23 a24 a25 a26 a27 a28 : Option PV} :
    vcSs B T d r_parse_3 Q [some (.str css), a1, some (.int css.length), some (.int p), some (.int n), some (.int L), some (.int N), a7, some (.ref l), some .none, a10, a11, some (.int (p - N)), a13, a14, a15, a16, a17, a18, some (errPV er), a20, a21, a22, a23, a24, a25, a26, a27, a28] H := by
  match er, hq with
  | 0, hq => exact tst_neg (fun h => nomatch h) (hq _ _ ⟨_, _, _, _, _, _, _, _, _, _, _, _, _, _, _, _, _, _, rfl⟩ rfl)
  | 1, hq => exact tst_pos rfl ⟨⟨_, hget⟩, (E.err .none .none .none .none).b, _, rfl, _, rfl, (E.err _ _ _ _).use (app_mk hget ht ⟨rfl, hq _ _ ⟨_, _, _, _, _, _, _, _, _, _, _, _, _, _, _, _, _, _, rfl⟩ rfl⟩)⟩
  | m + 2, hq => exact tst_pos rfl ⟨⟨_, hget⟩, (E.err .none .none .none .none).b, _, rfl, _, rfl, (E.err _ _ _ _).use (app_mk hget ht ⟨rfl, hq _ _ ⟨_, _, _, _, _, _, _, _, _, _, _, _, _, _, _, _, _, _, rfl⟩ rfl⟩)⟩
theorem isN_err : ∀ {er : Nat}, ¬ er = 0 → isN (errPV er) = false
  | 0, h => (h rfl).elim
  | 1, _ => rfl
  | _ + 2, _ => rfl
theorem take_last {s : List Nat} {x : Nat} : ((s ++ [x]).drop 0).take ((s ++ [x]).length - (0 + 1) - 0) = s := by
  rw [List.drop_zero, List.length_append]; exact List.take_left
theorem quo_ok (E : ParseEnv B d cl ser) (hL : css.length ≤ 100000) (hg : css[p]? = some c) (hqt : c = 34 ∨ c = 39) (hget : H l = some (.list toks)) (ht : toks.length ≤ 400000)
    (hS : (strToks ser (quotedSpec c (css.drop (p + 1))), p + 1 + (quotedSpec c (css.drop (p + 1))).2.1) = (ts, q))
    (hq : ∀ ρ' H', Rho css a1 a7 a10 l p (q) L N ρ' → H' = H.upd l (.list (toks ++ ts.map (tkPV cl (.int L) (.int (p - N))))) → Q .next ρ' H') {a11 a14 a15 a16 a17 a18 a19 a20 a21 a22 a23 a24 a25 a26 a27 a28 : Option PV} :
    vcSs B T d b_parse_23 Q [some (.str css), a1, some (.int css.length), some (.int p), some (.int p), some (.int L), some (.int N), a7, some (.ref l), some .none, a10, a11, some (.int (p - N)), some (.str [c]), a14, a15, a16, a17, a18, a19, a20, a21, a22, a23, a24, a25, a26, a27, a28] H := by
  have hlen := (quotedSpec_len c _ (css.drop (p + 1)) (Nat.le_refl _)).1
  rw [List.length_drop] at hlen
  refine (E.quo css p c hL hg hqt).run ⟨rfl, ?_⟩
  generalize quotedSpec c (css.drop (p + 1)) = V at *
  obtain ⟨v, n, er⟩ := V
  cases hS
  cases v with
  | none =>
    refine tst_neg (fun h => nomatch h) (err_ok (er := er) E hget (by lia) fun ρ' H' hR e => hq ρ' H' hR ?_)
    rw [e]
    cases er with
    | zero => rw [if_pos rfl]; exact (upd_same (by rw [hget]; exact congrArg (fun x => some (AO.list x)) (List.append_nil toks).symm)).symm
    | succ k => rfl
  | some v =>
    have hv := hlen v rfl
    have hsl := E.serl v
    have str : ∀ {r : List Nat}, (if er = 0 then [34] ++ ser v ++ [34] else [34] ++ ser v) = r → vcSs B T d r_parse_2 (kseq (vcSs B T d r_parse_3) Q) [some (.str css), a1, some (.int css.length), some (.int p), some (.int (p + 1 + n : Nat)), some (.int L), some (.int N), a7, some (.ref l), some .none, a10, a11, some (.int (p - N)), some (.str [c]), some (.str v), a15, a16, a17, a18, some (errPV er), some (.str r), a21, a22, a23, a24, a25, a26, a27, a28] H := by
      rintro r rfl
      refine ⟨⟨_, hget⟩, (E.str _ _ _ _).run (app_mk hget (by lia) ⟨rfl, err_ok (er := er) E (upd_self ..) (by rw [List.length_append]; show toks.length + 1 ≤ _; lia) fun ρ' H' hR e => hq ρ' H' hR ?_⟩)⟩
      rw [e]
      cases er with
      | zero => rfl
      | succ k =>
        rw [if_neg (Nat.succ_ne_zero k), upd_upd, List.append_assoc]; rfl
    refine tst_pos rfl ⟨by decide, (E.serC v (by lia)).run ⟨by show 1 + _ ≤ _; lia, by rw [List.length_append]; show 1 + _ + 1 ≤ _; lia, ?_⟩⟩
    by_cases he : er = 0
    · exact tst_neg (fun h => by rw [he] at h; exact nomatch h) (str (by rw [if_pos he]; rfl))
    · exact tst_pos (isN_err he) (str (by rw [if_neg he]; exact take_last.symm))
theorem lit_ok (E : ParseEnv B d cl ser) (hget : H l = some (.list toks)) (ht : toks.length ≤ 400000) (hcb : c ∉ badChars) (hn : ∀ x ∈ badChars, ∀ i : Nat, ¬ css[i]? = some x) (hqt : ¬ (c = 34 ∨ c = 39)) (hS : ([TK.lit [c]], p + 1) = (ts, q))
    (hq : ∀ ρ' H', Rho css a1 a7 a10 l p (q) L N ρ' → H' = H.upd l (.list (toks ++ ts.map (tkPV cl (.int L) (.int (p - N))))) → Q .next ρ' H') {a11 a14 a15 a16 a17 a18 a19 a20 a21 a22 a23 a24 a25 a26 a27 a28 : Option PV} :
    vcSs B T d b_parse_36 Q [some (.str css), a1, some (.int css.length), some (.int p), some (.int p), some (.int L), some (.int N), a7, some (.ref l), some .none, a10, a11, some (.int (p - N)), some (.str [c]), a14, a15, a16, a17, a18, a19, a20, a21, a22, a23, a24, a25, a26, a27, a28] H := by
  cases hS
  have nb : ∀ x ∈ badChars, ¬ [c] = [x] := fun x hx h => hcb (cons1 h ▸ hx)
  have nw : ∀ (x : Nat) (r : List Nat), x ∈ badChars → startsAt css (x :: r) p = false := fun x r hx => by
    cases h : startsAt css (x :: r) p with
    | false => rfl
    | true => exact (hn x hx p (sw_head h)).elim
  have b1 : c ∉ [125, 93, 41] := fun h => hcb (by
    rcases List.mem_cons.mp h with rfl | h
    · decide
    · rcases List.mem_cons.mp h with rfl | h
      · decide
      · cases List.mem_singleton.mp h; decide)
  have b2 : [c] ∉ [[34], [39]] := fun h => hqt (by
    rcases List.mem_cons.mp h with h | h
    · exact .inl (cons1 h)
    · exact .inr (cons1 (List.mem_singleton.mp h)))
  refine tst_neg (nb 123 (by decide)) (tst_neg (nb 91 (by decide)) (tst_neg (nb 40 (by decide)) (tst_dF (tst_neg b1 (tst_neg b2 (tst_bf (nw 47 _ (by decide)) (tst_bf (nw 60 _ (by decide)) (tst_bf (nw 124 _ (by decide)) ?_))))))))
  refine tst_both (fun xx => tst_bf (sw_f (hn 61 (by decide) _)) ⟨⟨_, hget⟩, (E.lit _ _ _).run (app_mk hget (by lia) ⟨rfl, hq _ _ ⟨_, _, _, _, _, _, _, _, _, _, _, _, _, _, _, _, _, _, rfl⟩ rfl⟩)⟩) (fun xx => ⟨⟨_, hget⟩, (E.lit _ _ _).run (app_mk hget (by lia) ⟨rfl, hq _ _ ⟨_, _, _, _, _, _, _, _, _, _, _, _, _, _, _, _, _, _, rfl⟩ rfl⟩)⟩)
theorem tail_ok (E : ParseEnv B d cl ser) (hL : css.length ≤ 100000) (hg : css[p]? = some c) (hbad : ∀ x ∈ css, x ∉ badChars) (hget : H l = some (.list toks)) (ht : toks.length ≤ 400000)
    (hnum : ∀ e pl, numFrom css p = some (e, pl) → p < e ∧ e ≤ css.length ∧ (pl = true → ((css.drop p).take (e - p)).length ≤ 640 ∧ PySem.intText? (sOf ((css.drop p).take (e - p))) = some (numVal ((css.drop p).take (e - p)))))
    (hbl : isBl c = false) (hdd : startsAt css [45, 45, 62] p = false) (hid : identStart (css.drop p) = false) (hS : tkAt ser css p c = (ts, q))
    (hq : ∀ ρ' H', Rho css a1 a7 a10 l p (q) L N ρ' → H' = H.upd l (.list (toks ++ ts.map (tkPV cl (.int L) (.int (p - N))))) → Q .next ρ' H') {a11 a14 a15 a16 a17 a18 a19 a20 a21 a22 a23 a24 a25 a26 a27 a28 : Option PV} :
    vcSs B T d r_parse_4 Q [some (.str css), a1, some (.int css.length), some (.int p), some (.int p), some (.int L), some (.int N), a7, some (.ref l), some .none, a10, a11, some (.int (p - N)), some (.str [c]), a14, a15, a16, a17, a18, a19, a20, a21, a22, a23, a24, a25, a26, a27, a28] H := by
  unfold tkAt at hS
  rw [hbl, hdd, hid] at hS
  simp only [Bool.false_eq_true, if_false] at hS
  refine (E.num css p).run ?_
  cases hn : numFrom css p with
  | some ep =>
    obtain ⟨e, pl⟩ := ep
    obtain ⟨he1, he2, hiv⟩ := hnum e pl hn
    rw [hn] at hS
    exact ⟨rfl, tst_pos rfl (num_ok E hL he2 hget (by lia) rfl hiv hS hq)⟩
  | none =>
    rw [hn] at hS
    refine ⟨rfl, tst_neg (fun h => nomatch h) ?_⟩
    dsimp only at hS
    by_cases h64 : c = 64
    · rw [if_pos h64] at hS
      subst h64
      exact tst_pos rfl (at_ok E hL hget (by lia) hS hq)
    · rw [if_neg h64] at hS
      refine tst_neg (fun h => h64 (cons1 h)) ?_
      by_cases h35 : c = 35
      · rw [if_pos h35] at hS
        subst h35
        exact tst_pos rfl (hash_ok E hL hget (by lia) hS hq)
      · rw [if_neg h35] at hS
        refine tst_neg (fun h => h35 (cons1 h)) ?_
        have hcb : c ∉ badChars := hbad c (List.mem_of_getElem? hg)
        by_cases hqt : c = 34 ∨ c = 39
        · rw [if_pos hqt] at hS
          have nb : ∀ x ∈ badChars, ¬ [c] = [x] := fun x hx h => hcb (cons1 h ▸ hx)
          refine tst_neg (nb 123 (by decide)) (tst_neg (nb 91 (by decide)) (tst_neg (nb 40 (by decide)) (tst_dF (tst_neg ?_ (tst_pos ?_ (quo_ok E hL hg hqt hget ht hS hq))))))
          · rcases hqt with rfl | rfl <;> decide
          · rcases hqt with rfl | rfl <;> decide
        · rw [if_neg hqt] at hS
          exact lit_ok E hget ht hcb (fun x hx i h => hbad x (List.mem_of_getElem? h) hx) hqt hS hq
theorem body_ok (E : ParseEnv B d cl ser) (hL : css.length ≤ 100000) (hg : css[p]? = some c) (hbad : ∀ x ∈ css, x ∉ badChars) (hget : H l = some (.list toks)) (ht : toks.length ≤ 400000)
    (hnum : ∀ e pl, numFrom css p = some (e, pl) → p < e ∧ e ≤ css.length ∧ (pl = true → ((css.drop p).take (e - p)).length ≤ 640 ∧ PySem.intText? (sOf ((css.drop p).take (e - p))) = some (numVal ((css.drop p).take (e - p)))))
    (hS : tkStep ser css p = (ts, q)) (hq : ∀ f ρ' H', f = .next ∨ f = .cont → Rho css a1 a7 a10 l p q L N ρ' → H' = H.upd l (.list (toks ++ ts.map (tkPV cl (.int L) (.int (p - N))))) → Q f ρ' H') {a11 a12 a13 a14 a15 a16 a17 a18 a19 a20 a21 a22 a23 a24 a25 a26 a27 a28 : Option PV} :
    vcSs B T d r_parse_5 Q [some (.str css), a1, some (.int css.length), a3, some (.int p), some (.int L), some (.int N), a7, some (.ref l), some .none, a10, a11, a12, a13, a14, a15, a16, a17, a18, a19, a20, a21, a22, a23, a24, a25, a26, a27, a28] H := by
  have hcb : c ∉ badChars := hbad c (List.mem_of_getElem? hg)
  rw [tkStep_at hg] at hS
  have hS' := hS
  unfold tkAt at hS
  refine ⟨c, hg, ?_⟩
  cases hbl : isBl c with
  | true =>
    rw [if_pos hbl] at hS
    refine tst_pos (of_decide_eq_true hbl) (ws_loop ⟨⟨_, hget⟩, (E.ws _ _ _).run (app_mk hget (by lia) ⟨rfl, ?_⟩)⟩)
    have e1 : p + 1 + wsRun (css.drop (p + 1)) = p + (1 + wsRun (css.drop (p + 1))) := Nat.add_assoc ..
    cases hS
    refine hq .cont _ _ (.inr rfl) (by rw [e1]; exact ⟨_, _, _, _, _, _, _, _, _, _, _, _, _, _, _, _, _, _, rfl⟩) ?_
    rw [e1, Nat.add_sub_cancel_left]; rfl
  | false =>
    rw [hbl, if_neg Bool.false_ne_true] at hS
    refine tst_neg (of_decide_eq_false hbl) (tst_neg (fun h => hcb ?_) (tst_dF ?_))
    · rcases List.mem_cons.mp h with rfl | h
      · decide
      · cases List.mem_singleton.mp h; decide
    cases hdd : startsAt css [45, 45, 62] p with
    | true =>
      rw [if_pos hdd] at hS
      cases hS
      exact tst_bt hdd ⟨⟨_, hget⟩, (E.lit _ _ _).run (app_mk hget (by lia) ⟨rfl, hq .cont _ _ (.inr rfl) ⟨_, _, _, _, _, _, _, _, _, _, _, _, _, _, _, _, _, _, rfl⟩ rfl⟩)⟩
    | false =>
      rw [hdd, if_neg Bool.false_ne_true] at hS
      refine tst_bf hdd ((E.ids css p hL (get_lt hg)).run ?_)
      cases hid : identStart (css.drop p) with
      | true =>
        rw [if_pos hid] at hS
        cases hS
        have hi := E.idc css p hL (Nat.le_of_lt (get_lt hg))
        refine tst_t (hi.run ⟨rfl, tst_pos (fun h => ?_) ⟨⟨_, hget⟩, (E.ident _ _ _ (idlen hL)).run (app_mk hget (by lia) ⟨rfl, hq .cont _ _ (.inr rfl) ⟨_, _, _, _, _, _, _, _, _, _, _, _, _, _, _, _, _, _, rfl⟩ rfl⟩)⟩⟩)
        replace h : startsAt css [40] (p + (identSpec (css.drop p)).2) = true := h
        exact hbad 40 (List.mem_of_getElem? (sw_head h)) (by decide)
      | false => exact tst_f (tail_ok E hL hg hbad hget ht hnum hbl hdd hid hS' fun ρ' H' h1 h2 => hq .next ρ' H' (.inl rfl) h1 h2)
end
end Mine
end

section
set_option tactic.hygienic false
set_option maxRecDepth 10000
set_option backward.match.sparseCases false
set_option genInjectivity false
set_option genSizeOf false
namespace Mine
open PySem PySem.W
variable {B : Base} {T : Tab} {d : Nat}
section
variable {cl : Cls} {ser : List Nat → List Nat} {css : List Nat}

noncomputable def placed (cl : Cls) (pl : Nat × Nat) (ts : List TK) : List PV := ts.map (tkPV cl (.int pl.1) (.int pl.2))
noncomputable def parseToks (cl : Cls) (ser : List Nat → List Nat) (css : List Nat) : Nat → Nat → List PV
  | 0, _ => []
  | n + 1, p => if p < css.length then placed cl (placeAt css p) (tkStep ser css p).1 ++ parseToks cl ser css n (tkStep ser css p).2 else []

theorem identStart_pos {s : List Nat} (h : identStart s = true) : 0 < (identSpec s).2 ∧ s ≠ [] := by
  cases s with
  | nil => cases h
  | cons c r =>
    refine ⟨?_, by simp⟩
    rw [identSpec_cons]
    simp only [identStart] at h
    split
    · simp
    · rename_i hnc
      have hns : isNS c = false := by
        unfold isNC isNC0 at hnc
        unfold isNS
        cases h0 : isNS0 c <;> simp [h0] at hnc ⊢
        exact hnc.2
      rw [hns] at h
      simp only [Bool.false_eq_true, if_false] at h
      by_cases h45 : c = 45
      · subst h45
        exfalso; apply hnc; rfl
      · rw [if_neg h45] at h
        by_cases h92 : c = 92
        · rw [if_pos h92] at h
          rw [if_pos ⟨h92, by simpa using h⟩]
          simp
        · rw [if_neg h92] at h; cases h
theorem wsRun_le : ∀ s : List Nat, wsRun s ≤ s.length
  | [] => Nat.le_refl _
  | c :: r => by
    have := wsRun_le r
    unfold wsRun; split <;> simp <;> lia
theorem sw_len {s t : List Nat} {i : Nat} (h : startsAt s t i = true) : i + t.length ≤ s.length := by
  unfold startsAt at h
  simp only [Bool.and_eq_true, decide_eq_true_eq] at h
  exact h.2

theorem strToks_len {ser : List Nat → List Nat} (t : Option (List Nat) × Nat × Nat) : (strToks ser t).length ≤ 2 := by
  obtain ⟨v, n, e⟩ := t
  cases v <;> cases e <;> first | exact Nat.zero_le _ | exact Nat.le_succ 1 | exact Nat.le_refl 2
theorem idle {s : List Nat} {e : Nat} (h : e ≤ s.length) : e + (identSpec (s.drop e)).2 ≤ s.length := by
  have := (identSpec_len _ (s.drop e) (Nat.le_refl _)).2
  rw [List.length_drop] at this
  lia
theorem tkStep_pos {p : Nat} (hp : p < css.length) (hnum : ∀ e pl, numFrom css p = some (e, pl) → p < e ∧ e ≤ css.length) : p < (tkStep ser css p).2 ∧ (tkStep ser css p).2 ≤ css.length ∧ (tkStep ser css p).1.length ≤ 2 := by
  obtain ⟨c, hg⟩ : ∃ c, css[p]? = some c := ⟨_, List.getElem?_eq_getElem hp⟩
  rw [tkStep_at hg]
  have P : ∀ (r : List TK × Nat), tkAt ser css p c = r → p < r.2 ∧ r.2 ≤ css.length ∧ r.1.length ≤ 2 := by
    intro r hr
    unfold tkAt at hr
    by_cases h1 : isBl c = true
    · rw [if_pos h1] at hr; subst hr
      have := wsRun_le (css.drop (p + 1)); rw [List.length_drop] at this
      exact ⟨by lia, by lia, Nat.le_succ 1⟩
    rw [if_neg h1] at hr
    by_cases h2 : startsAt css [45, 45, 62] p = true
    · rw [if_pos h2] at hr; subst hr
      exact ⟨by lia, sw_len h2, Nat.le_succ 1⟩
    rw [if_neg h2] at hr
    by_cases h3 : identStart (css.drop p) = true
    · rw [if_pos h3] at hr; subst hr
      exact ⟨Nat.lt_add_of_pos_right (identStart_pos h3).1, idle (Nat.le_of_lt hp), Nat.le_succ 1⟩
    rw [if_neg h3] at hr
    cases hn : numFrom css p with
    | some ep =>
      obtain ⟨e, pl⟩ := ep
      rw [hn] at hr
      dsimp only at hr
      obtain ⟨he1, he2⟩ := hnum e pl hn
      by_cases h4 : identStart (css.drop e) = true
      · rw [if_pos h4] at hr; subst hr
        exact ⟨Nat.lt_of_lt_of_le he1 (Nat.le_add_right _ _), idle he2, Nat.le_succ 1⟩
      rw [if_neg h4] at hr
      by_cases h5 : css[e]? = some 37
      · rw [if_pos h5] at hr; subst hr
        exact ⟨Nat.lt_succ_of_lt he1, get_lt h5, Nat.le_succ 1⟩
      · rw [if_neg h5] at hr; subst hr
        exact ⟨he1, he2, Nat.le_succ 1⟩
    | none =>
      rw [hn] at hr
      dsimp only at hr
      have i1 : p < p + 1 + (identSpec (css.drop (p + 1))).2 := by lia
      by_cases h4 : c = 64
      · rw [if_pos h4] at hr
        by_cases h5 : identStart (css.drop (p + 1)) = true
        · rw [if_pos h5] at hr; subst hr; exact ⟨i1, idle hp, Nat.le_succ 1⟩
        · rw [if_neg h5] at hr; subst hr; exact ⟨Nat.lt_succ_self p, hp, Nat.le_succ 1⟩
      rw [if_neg h4] at hr
      by_cases h6 : c = 35
      · rw [if_pos h6] at hr
        by_cases h5 : hashStart (css.drop (p + 1)) = true
        · rw [if_pos h5] at hr; subst hr; exact ⟨i1, idle hp, Nat.le_succ 1⟩
        · rw [if_neg h5] at hr; subst hr; exact ⟨Nat.lt_succ_self p, hp, Nat.le_succ 1⟩
      rw [if_neg h6] at hr
      by_cases h7 : c = 34 ∨ c = 39
      · rw [if_pos h7] at hr; subst hr
        have := (quotedSpec_len c _ (css.drop (p + 1)) (Nat.le_refl _)).2
        rw [List.length_drop] at this
        exact ⟨by lia, by lia, strToks_len _⟩
      · rw [if_neg h7] at hr; subst hr; exact ⟨Nat.lt_succ_self p, hp, Nat.le_succ 1⟩
  exact P _ rfl

theorem b1_ok {p tsp i : Nat} {L : Int} {a1 a6 a7 a8 a9 a10 : Option PV} {Q : KS} {H : AH} {a12 a13 a14 a15 a16 a17 a18 a19 a20 a21 a22 a23 a24 a25 a26 a27 a28 : Option PV} (hq : Q .next [some (.str css), a1, some (.int css.length), some (.int tsp), some (.int p), some (.int (L + (1 + countL 10 css tsp i))), some (.int i), a7, a8, a9, a10, some (.int i), a12, a13, a14, a15, a16, a17, a18, a19, a20, a21, a22, a23, a24, a25, a26, a27, a28] H) :
    vcSs B T d b_parse_1 Q [some (.str css), a1, some (.int css.length), some (.int tsp), some (.int p), some (.int L), a6, a7, a8, a9, a10, some (.int i), a12, a13, a14, a15, a16, a17, a18, a19, a20, a21, a22, a23, a24, a25, a26, a27, a28] H := hq
noncomputable def PaI (cl : Cls) (ser : List Nat → List Nat) (css : List Nat) (a1 a10 : Option PV) (l : Addr) (HH : List PV → AH) (R : List PV) (n : Nat) (ρ : Loc) (H' : AH) : Prop :=
  ∃ (p tsp fuel : Nat) (toks : List PV), Rho css a1 (some (.ref l)) a10 l tsp p (placeAt css tsp).1 ((tsp : Int) - (placeAt css tsp).2) ρ ∧
    H' = HH toks ∧ tsp ≤ p ∧ p ≤ css.length ∧ toks ++ parseToks cl ser css fuel p = R ∧ toks.length ≤ 2 * p ∧ css.length - p ≤ fuel ∧ n = css.length - p
theorem loop_ok (E : ParseEnv B d cl ser) (hL : css.length ≤ 100000) (hbad : ∀ x ∈ css, x ∉ badChars) {HH : List PV → AH} {l : Addr} (hget : ∀ X, HH X l = some (.list X)) (hupd : ∀ X Y, (HH X).upd l (.list Y) = HH Y)
    (hnum : ∀ p e pl, numFrom css p = some (e, pl) → p < e ∧ e ≤ css.length ∧ (pl = true → ((css.drop p).take (e - p)).length ≤ 640 ∧ PySem.intText? (sOf ((css.drop p).take (e - p))) = some (numVal ((css.drop p).take (e - p)))))
    {a1 a10 : Option PV} {Q : KS}
    (hq : ∀ ρ tsp p L N, Rho css a1 (some (.ref l)) a10 l tsp p L N ρ → Q .next ρ (HH (parseToks cl ser css css.length 0)))
    {a11 a12 a13 a14 a15 a16 a17 a18 a19 a20 a21 a22 a23 a24 a25 a26 a27 a28 : Option PV} :
    vcS B T d w_parse_2 Q [some (.str css), a1, some (.int css.length), some (.int 0), some (.int 0), some (.int 1), some (.int (-1)), some (.ref l), some (.ref l), some .none, a10, a11, a12, a13, a14, a15, a16, a17, a18, a19, a20, a21, a22, a23, a24, a25, a26, a27, a28] (HH []) := by
  generalize hR : parseToks cl ser css css.length 0 = R at hq
  refine wh_mk (PaI cl ser css a1 a10 l HH R) css.length ⟨0, 0, css.length, [], ⟨_, _, _, _, _, _, _, _, _, _, _, _, _, _, _, _, _, _, rfl⟩, rfl, Nat.le_refl _, Nat.zero_le _, hR, Nat.le_refl _, Nat.le_refl _, rfl⟩ ?_
  rintro n ρ H' ⟨p, tsp, fuel, toks, ⟨b11, b12, b13, b14, b15, b16, b17, b18, b19, b20, b21, b22, b23, b24, b25, b26, b27, b28, rfl⟩, rfl, h1, h2, h3, h4, h5, rfl⟩
  by_cases hp : p < css.length
  · obtain ⟨c, hg⟩ : ∃ c, css[p]? = some c := ⟨_, List.getElem?_eq_getElem hp⟩
    obtain ⟨s1, s2, s3⟩ := tkStep_pos (ser := ser) hp (fun e pl h => ⟨(hnum p e pl h).1, (hnum p e pl h).2.1⟩)
    obtain ⟨f, rfl⟩ : ∃ f, fuel = f + 1 := ⟨fuel - 1, by lia⟩
    rw [parseToks, if_pos hp] at h3
    have tr := place_track css (p - tsp) tsp
    rw [Nat.add_sub_cancel' h1] at tr
    refine tst_pos (Int.ofNat_lt.mpr hp) ?_
    have body : ∀ {L N : Int} {a3 c11 : Option PV}, L = (placeAt css p).1 → N = (p : Int) - (placeAt css p).2 →
        vcSs B T d r_parse_5 (kwhb (PaI cl ser css a1 a10 l HH R) (css.length - p) Q) [some (.str css), a1, some (.int css.length), a3, some (.int p), some (.int L), some (.int N), some (.ref l), some (.ref l), some .none, a10, c11, b12, b13, b14, b15, b16, b17, b18, b19, b20, b21, b22, b23, b24, b25, b26, b27, b28] (HH toks) := by
      rintro L N a3 c11 rfl rfl
      refine body_ok (ts := (tkStep ser css p).1) (q := (tkStep ser css p).2) E hL hg hbad (hget _) (by lia) (hnum p) rfl fun f' ρ' H' hf hR' e => ?_
      have go : ∃ m, m < css.length - p ∧ PaI cl ser css a1 a10 l HH R m ρ' H' := by
        refine ⟨css.length - (tkStep ser css p).2, by lia, (tkStep ser css p).2, p, f, _, hR', e.trans (hupd _ _), Nat.le_of_lt s1, s2, ?_, ?_, by lia, rfl⟩
        · rw [Int.sub_sub_self, List.append_assoc]; exact h3
        · rw [List.length_append, List.length_map]; lia
      rcases hf with rfl | rfl <;> exact go
    cases hr : lastR (isAt css 10) tsp (p - tsp) with
    | none =>
      have hr2 : rfindL 10 css tsp p = none := by rw [rfindL_is h1 h2, hr]
      rw [hr] at tr
      dsimp only at tr
      refine tst_neg (fun h => h (by rw [hr2])) (seq_nil (vr := vcSs B T d r_parse_5) (body ?_ ?_))
      · rw [tr]
      · rw [tr]; dsimp only; lia
    | some i =>
      have hr2 : rfindL 10 css tsp p = some i := by rw [rfindL_is h1 h2, hr]
      rw [hr] at tr
      obtain ⟨t1, t2, t3⟩ := tr
      refine tst_pos (by rw [hr2]; exact fun h => nomatch h) ?_
      rw [hr2]
      refine b1_ok (seq_next (vr := vcSs B T d r_parse_5) (body ?_ ?_))
      · rw [t3]; dsimp only; rw [countL_is t1 (by lia)]; lia
      · rw [t3]; dsimp only; lia
  · refine tst_neg (fun h => hp (Int.ofNat_lt.mp h)) ?_
    have : parseToks cl ser css fuel p = [] := by cases fuel <;> simp [parseToks, hp]
    rw [this, List.append_nil] at h3
    subst h3
    exact hq _ _ _ _ _ ⟨_, _, _, _, _, _, _, _, _, _, _, _, _, _, _, _, _, _, rfl⟩
end
noncomputable def m0 (t : List Nat) : List Nat := replL [0] 65533 t
noncomputable def m1 (t : List Nat) : List Nat := replL [13, 10] 10 (m0 t)
noncomputable def m2 (t : List Nat) : List Nat := replL [13] 10 (m1 t)
noncomputable def mendR (t : List Nat) : List Nat := replL [12] 10 (m2 t)
structure Mends (t : List Nat) : Prop where
  k0 : 2 * t.length + 1 ≤ 16777216 ∧ sok (m0 t)
  k1 : 2 * (m0 t).length + 1 ≤ 16777216 ∧ sok (m1 t)
  k2 : 2 * (m1 t).length + 1 ≤ 16777216 ∧ sok (m2 t)
  k3 : 2 * (m2 t).length + 1 ≤ 16777216 ∧ sok (mendR t)
  len : (mendR t).length ≤ 100000
  bad : ∀ x ∈ mendR t, x ∉ badChars
  num : ∀ p e pl, numFrom (mendR t) p = some (e, pl) → p < e ∧ e ≤ (mendR t).length ∧ (pl = true → (((mendR t).drop p).take (e - p)).length ≤ 640 ∧ PySem.intText? (sOf (((mendR t).drop p).take (e - p))) = some (numVal (((mendR t).drop p).take (e - p))))


theorem parse_ok (G : GoodB B) (GT : GoodT B T) {cl : Cls} {ser : List Nat → List Nat} (F : FnAt B "parse_component_value_list" p_parse 1 [.bool false] v_parse m_parse) (E : ParseEnv B d cl ser) {t : List Nat} (M : Mends t) :
    Con B (d + 1) "parse_component_value_list" [.str t] (.lst (parseToks cl ser (mendR t) (mendR t).length 0)) := by
  obtain ⟨k0, k1, k2, k3, hL, hbad, hnum⟩ := M
  refine conDefS G GT F rfl fun H => ⟨⟨by decide, by decide, k0.1, k0.2⟩, ⟨by decide, by decide, k1.1, k1.2⟩, ⟨by decide, by decide, k2.1, k2.2⟩, ⟨by decide, by decide, k3.1, k3.2⟩, fun l hl st hst => ?_⟩
  have hne : l ≠ st := by rintro rfl; rw [upd_self] at hst; cases hst
  have hst0 : H st = none := by
    unfold AH.upd at hst
    rw [if_neg (Ne.symm hne)] at hst; exact hst
  refine loop_ok (css := mendR t) (HH := fun X => (H.upd l (.list X)).upd st (.list [])) E hL hbad ?_ ?_ hnum ?_
  · intro X; simp [AH.upd, hne]
  · intro X Y
    funext b
    by_cases h1 : b = l
    · subst h1; simp [AH.upd, hne]
    · simp [AH.upd, h1]
  · rintro ρ tsp p L N ⟨b11, b12, b13, b14, b15, b16, b17, b18, b19, b20, b21, b22, b23, b24, b25, b26, b27, b28, rfl⟩
    refine ⟨_, by simp [AH.upd, hne], rfl, ?_⟩
    intro a x ha
    have h1 : a ≠ l := by rintro rfl; rw [hl] at ha; cases ha
    have h2 : a ≠ st := by rintro rfl; rw [hst0] at ha; cases ha
    simp [AH.del, AH.upd, h1, h2, ha]
end Mine
end

section
set_option tactic.hygienic false
set_option maxRecDepth 10000
set_option backward.match.sparseCases false
set_option genInjectivity false
set_option genSizeOf false
namespace Mine
open PySem PySem.W
variable {B : Base} {T : Tab} {d : Nat}

theorem chPV_drop (l : List (List Nat)) (n : Nat) : (chPV l).drop n = chPV (l.drop n) := by simp [chPV, List.map_drop]
theorem chPV_take (l : List (List Nat)) (n : Nat) : (chPV l).take n = chPV (l.take n) := by simp [chPV, List.map_take]
theorem chPV_get {l : List (List Nat)} {n : Nat} {x : List Nat} (h : l[n]? = some x) : (chPV l)[n]? = some (.str x) := by simp [chPV, h]
theorem toPDs_ch : ∀ l : List (List Nat), toPDs (chPV l) = some (l.map fun s => PyData.str (sOf s))
  | [] => rfl
  | x :: r => by
    have ih := toPDs_ch r
    show ((toPDs (chPV r)).bind fun y => some (PyData.str (sOf x) :: y)) = _
    rw [ih]; rfl
theorem depth_ch : ∀ l : List (List Nat), PyData.depthAll (l.map fun s => PyData.str (sOf s)) = 0
  | [] => rfl
  | x :: r => by
    show max (PyData.depth (.str (sOf x))) (PyData.depthAll (r.map fun s => PyData.str (sOf s))) = 0
    rw [depth_ch r]; rfl
theorem eqvAll_ch : ∀ a b : List (List Nat), PyData.eqvAll (a.map fun s => PyData.str (sOf s)) (b.map fun s => PyData.str (sOf s)) = decide (a = b)
  | [], [] => by simp [PyData.eqvAll]
  | [], _ :: _ => by simp [PyData.eqvAll]
  | _ :: _, [] => by simp [PyData.eqvAll]
  | x :: a, y :: b => by
    show (PyData.eqv (.str (sOf x)) (.str (sOf y)) && PyData.eqvAll _ _) = _
    rw [eqvAll_ch a b]
    have : PyData.eqv (.str (sOf x)) (.str (sOf y)) = decide (x = y) := by
      show (sOf x == sOf y) = _
      rw [Bool.eq_iff_iff, beq_iff_eq, decide_eq_true_eq]
      exact ⟨sOf_inj, fun h => by rw [h]⟩
    rw [this, Bool.eq_iff_iff]; simp
theorem depth1 (a : List (List Nat)) : (PyData.list (a.map fun s => PyData.str (sOf s))).depth = 1 := by show PyData.depthAll _ + 1 = 1; rw [depth_ch]
theorem toPD_ch (a : List (List Nat)) : toPD (.lst (chPV a)) = some (.list (a.map fun s => PyData.str (sOf s))) := by show (toPDs (chPV a)).map _ = _; rw [toPDs_ch]; rfl
theorem eqPD_ch (a b : List (List Nat)) : eqPD (.lst (chPV a)) (.lst (chPV b)) = some (decide (a = b)) := by
  unfold eqPD
  rw [toPD_ch, toPD_ch]
  show (if _ then _ else _) = _
  rw [if_pos ⟨by rw [depth1]; decide, by rw [depth1]; decide⟩]
  show some (PyData.eqvAll _ _) = _
  rw [eqvAll_ch]
theorem chPV_slice (l : List (List Nat)) (a n : Nat) : ((chPV l).drop a).take n = chPV ((l.drop a).take n) := by rw [chPV_drop, chPV_take]
theorem sl1_ch {α : Type} {l : List α} {a : Nat} {x : α} : (l.drop a).take (a + 1 - a) = [x] ↔ l[a]? = some x := by
  rw [Nat.add_sub_cancel_left]
  cases h : l[a]? with
  | none => rw [drop_none h]; exact ⟨fun h => (nomatch h), fun h => (nomatch h)⟩
  | some c => rw [drop_get h]; exact ⟨fun h => congrArg some (List.cons.inj h).1, fun h => by rw [Option.some.inj h]; rfl⟩
theorem eq1 (l : List (List Nat)) (a : Nat) (x : List Nat) : eqPD (.lst (((chPV l).drop a).take (a + 1 - a))) (.lst [.str x]) = some (decide (l[a]? = some x)) := by
  rw [chPV_slice, show [PV.str x] = chPV [x] from rfl, eqPD_ch]
  exact congrArg some (decide_eq_decide.mpr sl1_ch)
theorem eqn (l : List (List Nat)) (a n : Nat) (xs : List (List Nat)) : eqPD (.lst (((chPV l).drop a).take n)) (.lst (chPV xs)) = some (decide ((l.drop a).take n = xs)) := by
  rw [chPV_slice, eqPD_ch]
theorem in2 {l : List (List Nat)} {a : Nat} {x y : List Nat} {k : DP → Prop} {b : Bool} (hb : (l[a]? = some x ∨ l[a]? = some y) ↔ b = true) (h : k (dB b)) : inLK (.lst (((chPV l).drop a).take (a + 1 - a))) (.lst [.lst [.str x], .lst [.str y]]) k := by
  unfold inLK
  rw [chPV_slice]
  refine ⟨_, [.list ([x].map fun s => PyData.str (sOf s)), .list ([y].map fun s => PyData.str (sOf s))], toPD_ch _, ?_, by rw [depth1]; decide, ?_⟩
  · rfl
  · have e : ([PyData.list ([x].map fun s => PyData.str (sOf s)), .list ([y].map fun s => PyData.str (sOf s))].any fun w => PyData.eqv w (.list (((l.drop a).take (a + 1 - a)).map fun s => PyData.str (sOf s)))) = b := by
      show (PyData.eqvAll _ _ || (PyData.eqvAll _ _ || false)) = _
      rw [eqvAll_ch, eqvAll_ch, Bool.or_false, Bool.eq_iff_iff, Bool.or_eq_true, decide_eq_true_eq, decide_eq_true_eq, ← hb, ← sl1_ch (l := l) (x := x), ← sl1_ch (l := l) (x := y), eq_comm, @eq_comm _ [y]]
    rw [e]; exact h

noncomputable def runL (ws : List (List Nat)) : List (List Nat) → Nat
  | [] => 0
  | x :: r => if x ∈ ws then runL ws r + 1 else 0
theorem lenL {a n : Nat} {l : List (List Nat)} (h : l.length = n) : (chPV l).length = n := by rw [chPV_len, h]
theorem ltL_no {l : List (List Nat)} {a : Nat} (h : l[a]? = none) : ¬ (a : Int) < ((chPV l).length : Int) := by rw [chPV_len]; exact fun q => Nat.not_le.mpr (Int.ofNat_lt.mp q) (get_ge h)
theorem ltL_yes {l : List (List Nat)} {a : Nat} {x : List Nat} (h : l[a]? = some x) : (a : Int) < ((chPV l).length : Int) := by rw [chPV_len]; exact Int.ofNat_lt.mpr (get_lt h)
theorem run_ok (G : GoodB B) (GT : GoodT B T) (F : FnAt B "_law_run" p_law_run 3 [] v_law_run m_law_run) {pl ws : List (List Nat)} {at_ : Nat} :
    Con B (d + 1) "_law_run" [.lst (chPV pl), .int at_, .lst (chPV ws)] (.int (at_ + runL ws (pl.drop at_) : Nat)) := by
  refine conDef G GT F rfl fun H => ?_
  generalize hr : at_ + runL ws (pl.drop at_) = r
  refine wh_mk (fun n ρ H' => ∃ e, ρ = [some (.lst (chPV pl)), some (.int (at_ + e : Nat)), some (.lst (chPV ws))] ∧ H' = H ∧ at_ + e + runL ws (pl.drop (at_ + e)) = r ∧ n = pl.length - (at_ + e)) (pl.length - at_) ⟨0, rfl, rfl, hr, rfl⟩ ?_
  rintro n ρ H' ⟨e, rfl, rfl, he, rfl⟩
  cases hg : pl[at_ + e]? with
  | none =>
    rw [drop_none hg] at he
    exact tst_neg (ltL_no hg) (tst_dF ⟨congrArg (fun n : Nat => PV.int n) he, rfl⟩)
  | some x =>
    rw [drop_get hg, runL] at he
    refine tst_pos (ltL_yes hg) ⟨_, chPV_get hg, onStrs_mk (allStr_chPV _) (tst_both (fun hx => tst_dT ?_) (fun hx => tst_dF ⟨?_, rfl⟩))⟩
    · rw [if_pos hx] at he
      exact ⟨_, meas (get_lt hg), e + 1, rfl, rfl, (Nat.succ_add_eq_add_succ ..).trans he, rfl⟩
    · rw [if_neg hx] at he
      exact congrArg (fun n : Nat => PV.int n) he

noncomputable def S_start : List Nat := [115, 116, 97, 114, 116]
noncomputable def S_hyphen : List Nat := [104, 121, 112, 104, 101, 110]
noncomputable def S_figure : List Nat := [102, 105, 103, 117, 114, 101]
noncomputable def S_other : List Nat := [111, 116, 104, 101, 114]
noncomputable def startsL (pl : List (List Nat)) : Bool := match pl with
  | [] => false
  | x :: r => if x = S_hyphen then (match r with
      | [] => false
      | y :: _ => decide (y = S_start ∨ y = S_hyphen))
    else decide (x = S_start)
theorem starts_ok (G : GoodB B) (GT : GoodT B T) (F : FnAt B "_law_starts" p_law_starts 2 [] v_law_starts m_law_starts) {pl : List (List Nat)} {at_ : Nat} :
    Con B (d + 1) "_law_starts" [.lst (chPV pl), .int at_] (.bool (startsL (pl.drop at_))) := by
  refine conDef G GT F rfl fun H => ?_
  generalize hr : startsL (pl.drop at_) = r
  refine ⟨_, eq1 pl at_ S_hyphen, tst_b (fun h => in2 (l := pl) (a := at_ + 1) (x := S_start) (y := S_hyphen) decide_eq_true_iff.symm ⟨?_, rfl⟩) (fun h => ⟨_, eq1 pl at_ S_start, ?_, rfl⟩)⟩
  · have h := of_decide_eq_true h
    rw [drop_get h] at hr
    unfold startsL at hr
    dsimp only at hr
    rw [if_pos rfl] at hr
    rw [← hr, dec_B]
    refine congrArg PV.bool ?_
    cases hg : pl[at_ + 1]? with
    | none => rw [drop_none hg]; exact decide_eq_false (by rintro (h | h) <;> exact nomatch h)
    | some y => rw [drop_get hg]; exact decide_eq_decide.mpr ⟨fun h => h.elim (fun h => .inl (Option.some.inj h)) (fun h => .inr (Option.some.inj h)), fun h => h.elim (fun h => .inl (congrArg some h)) (fun h => .inr (congrArg some h))⟩
  · have h := of_decide_eq_false h
    rw [← hr, dec_B]
    refine congrArg PV.bool ?_
    cases hg : pl[at_]? with
    | none => rw [drop_none hg]; exact decide_eq_false (fun h => nomatch h)
    | some y =>
      rw [hg] at h
      rw [drop_get hg]
      unfold startsL
      dsimp only
      rw [if_neg (fun e => h (congrArg some e))]
      exact decide_eq_decide.mpr ⟨fun h => Option.some.inj h, fun h => congrArg some h⟩

noncomputable def S_escape : List Nat := [101, 115, 99, 97, 112, 101]
noncomputable def S_last : List Nat := [108, 97, 115, 116]
noncomputable def mkN (n : Nat) : List Nat := if n = 1114112 then S_escape else if n = 1114113 then S_last else [n]
noncomputable def partN (n : Nat) : List Nat :=
  if 127 < n ∨ n = 95 ∨ (97 ≤ n ∧ n ≤ 122) ∨ (65 ≤ n ∧ n ≤ 90) then S_start
  else if 48 ≤ n ∧ n ≤ 57 then S_figure else if n = 45 then S_hyphen else S_other

theorem tst_rng {p q : Prop} {i : Decidable p} {j : Decidable q} {X Y Z : Prop} (x : p ∧ q → X) (y : ¬ (p ∧ q) → Y) : tst ⟨p, i⟩ (tst ⟨q, j⟩ X Y) (tst dF Z Y) :=
  tst_both (fun h => tst_both (fun k => x ⟨h, k⟩) (fun k => y fun z => k z.2)) (fun h => tst_dF (y fun z => h z.1))
theorem part_ok (G : GoodB B) (GT : GoodT B T) (F : FnAt B "_law_part" p_law_part 1 [] v_law_part m_law_part) {n : Nat} :
    Con B (d + 1) "_law_part" [.str (mkN n)] (.str (partN n)) := by
  have p1 : (127 < n ∨ n = 95 ∨ (97 ≤ n ∧ n ≤ 122) ∨ (65 ≤ n ∧ n ≤ 90)) → PV.str [115, 116, 97, 114, 116] = .str (partN n) := fun h => congrArg PV.str (if_pos h).symm
  by_cases h1 : n = 1114112
  · rw [show mkN n = S_escape from if_pos h1]
    exact conDef G GT F rfl fun H => tst_pos rfl (tst_dT ⟨p1 (.inl (by rw [h1]; decide)), rfl⟩)
  by_cases h2 : n = 1114113
  · rw [show mkN n = S_last by unfold mkN; rw [if_neg h1, if_pos h2]]
    exact conDef G GT F rfl fun H => tst_neg (fun h => nomatch h) (tst_pos rfl (tst_dT ⟨p1 (.inl (by rw [h2]; decide)), rfl⟩))
  rw [show mkN n = [n] by unfold mkN; rw [if_neg h1, if_neg h2]]
  refine conDef G GT F rfl fun H => tst_neg (fun h => nomatch h) (tst_neg (fun h => nomatch h) (tst_both (fun a => tst_dT ⟨p1 (.inl a), rfl⟩) (fun a1 => tst_both (fun a => tst_dT ⟨p1 (.inr (.inl (cons1 a))), rfl⟩) (fun a2 => tst_dF ?_))))
  refine tst_rng (fun a => tst_dT ⟨p1 (.inr (.inr (.inl a))), rfl⟩) (fun a3 => tst_rng (fun a => tst_dT ⟨p1 (.inr (.inr (.inr a))), rfl⟩) (fun a4 => tst_dF ?_))
  have hn : ¬ (127 < n ∨ n = 95 ∨ (97 ≤ n ∧ n ≤ 122) ∨ (65 ≤ n ∧ n ≤ 90)) := fun h => h.elim a1 fun h => h.elim (fun h => a2 (by rw [h])) fun h => h.elim a3 a4
  unfold partN
  rw [if_neg hn]
  refine tst_rng (fun a => ⟨by rw [if_pos a]; rfl, rfl⟩) (fun a5 => tst_both (fun a => ⟨?_, rfl⟩) (fun a => ⟨?_, rfl⟩))
  · rw [if_neg a5, if_pos (cons1 a)]; rfl
  · rw [if_neg a5, if_neg (fun h => a (by rw [h]))]; rfl

theorem mkN_one (n k : Nat) (hk : k < 1000) : mkN n = [k] ↔ n = k := by
  unfold mkN
  split
  · rename_i h; exact ⟨fun h => (nomatch h), fun e => by lia⟩
  · split
    · rename_i h; exact ⟨fun h => (nomatch h), fun e => by lia⟩
    · exact ⟨cons1, fun e => by rw [e]⟩
theorem mkN_last (n : Nat) : mkN n = [108, 97, 115, 116] ↔ n = 1114113 := by
  unfold mkN
  split
  · rename_i h; exact ⟨fun h => (nomatch h), fun e => by lia⟩
  · split
    · rename_i h; exact ⟨fun xx => h, fun xx => rfl⟩
    · rename_i h; exact ⟨fun h => (nomatch h), fun e => (h e).elim⟩
abbrev Atom := Nat × Nat × Nat
noncomputable def marksA (as : List Atom) : List (List Nat) := as.map fun a => mkN a.1
noncomputable def valsA (as : List Atom) : List (List Nat) := as.map fun a => [a.2.1]
theorem marksA_get {as : List Atom} {n : Nat} {a : Atom} (h : as[n]? = some a) : (marksA as)[n]? = some (mkN a.1) := by simp [marksA, h]
theorem valsA_get {as : List Atom} {n : Nat} {a : Atom} (h : as[n]? = some a) : (valsA as)[n]? = some [a.2.1] := by simp [valsA, h]
theorem marksA_len (as : List Atom) : (marksA as).length = as.length := by simp [marksA]
theorem valsA_len (as : List Atom) : (valsA as).length = as.length := by simp [valsA]
noncomputable def S_eof : List Nat := [101, 111, 102, 45, 105, 110, 45, 115, 116, 114, 105, 110, 103]
noncomputable def S_bad : List Nat := [98, 97, 100, 45, 115, 116, 114, 105, 110, 103]
noncomputable def quA (q : Nat) : List Atom → Bool → List Nat → Nat → List Nat × List Nat × Nat
  | [], _, acc, p => (S_eof, acc, p)
  | _ :: r, true, acc, p => quA q r false acc p
  | (m, v, _) :: r, false, acc, p =>
    if m = q then ([], acc, p + 1)
    else if m = 10 then (S_bad, acc, p)
    else if m = 92 then quA q r true acc (p + 2)
    else if m = 1114113 then quA q r false acc (p + 1)
    else quA q r false (acc ++ [v]) (p + 1)
noncomputable def tri (t : List Nat × List Nat × Nat) : PV := .tup [.str t.1, .str t.2.1, .int t.2.2]
theorem mget {as : List Atom} {n : Nat} {a : Atom} (h : as[n]? = some a) : (chPV (marksA as))[n]? = some (.str (mkN a.1)) := chPV_get (marksA_get h)
theorem lt_as {as : List Atom} {n : Nat} {a : Atom} (h : as[n]? = some a) : (n : Int) < ((chPV (marksA as)).length : Int) := ltL_yes (marksA_get h)
theorem lt_asn {as : List Atom} {n : Nat} (h : as[n]? = none) : ¬ (n : Int) < ((chPV (marksA as)).length : Int) := ltL_no (by unfold marksA; rw [List.getElem?_map, h]; rfl)
theorem law_quoted_ok (G : GoodB B) (GT : GoodT B T) (F : FnAt B "_law_quoted" p_law_quoted 3 [] v_law_quoted m_law_quoted) {as : List Atom} {at_ q v0 b0 : Nat}
    (h0 : as[at_]? = some (q, v0, b0)) (hq : q < 128) (hl : as.length ≤ 10000) :
    Con B (d + 1) "_law_quoted" [.lst (chPV (marksA as)), .lst (chPV (valsA as)), .int at_] (tri (quA q (as.drop (at_ + 1)) false [] (at_ + 1))) := by
  refine conDef G GT F rfl fun H => ⟨_, mget h0, ?_⟩
  generalize hr : quA q (as.drop (at_ + 1)) false [] (at_ + 1) = r
  refine wh_mk (fun n ρ H' => ∃ p acc, ρ = [some (.lst (chPV (marksA as))), some (.lst (chPV (valsA as))), some (.int (p : Nat)), some (.str (mkN q)), some (.str acc)] ∧ H' = H ∧ acc.length ≤ p ∧ quA q (as.drop p) false acc p = r ∧ n = as.length - p) (as.length - (at_ + 1)) ⟨at_ + 1, [], rfl, rfl, Nat.zero_le _, hr, rfl⟩ ?_
  rintro n ρ H' ⟨p, acc, rfl, rfl, ha, he, rfl⟩
  cases hg : as[p]? with
  | none =>
    rw [drop_none hg] at he
    exact tst_neg (lt_asn hg) ⟨by rw [← he]; rfl, rfl⟩
  | some a =>
    obtain ⟨m, v, b⟩ := a
    have hlt := get_lt hg
    rw [drop_get hg, quA] at he
    have hmq : mkN q = [q] := (mkN_one q q (Nat.lt_trans hq (by decide))).mpr rfl
    have ne : ∀ k, k < 1000 → ¬ m = k → ¬ mkN m = [k] := fun k hk h h' => h ((mkN_one m k hk).mp h')
    refine tst_pos (lt_as hg) ⟨_, mget hg, ?_⟩
    by_cases h1 : m = q
    · rw [if_pos h1] at he
      exact tst_pos (by rw [h1]) ⟨by rw [← he]; rfl, rfl⟩
    · rw [if_neg h1] at he
      refine tst_neg (by rw [hmq]; exact ne q (Nat.lt_trans hq (by decide)) h1) ⟨_, mget hg, ?_⟩
      by_cases h2 : m = 10
      · rw [if_pos h2] at he
        exact tst_pos ((mkN_one m 10 (by decide)).mpr h2) ⟨by rw [← he]; rfl, rfl⟩
      · rw [if_neg h2] at he
        refine tst_neg (ne 10 (by decide) h2) ⟨_, mget hg, ?_⟩
        by_cases h3 : m = 92
        · rw [if_pos h3] at he
          refine tst_pos ((mkN_one m 92 (by decide)).mpr h3) ⟨as.length - (p + 2), by lia, p + 2, acc, rfl, rfl, Nat.le_trans ha (Nat.le_add_right _ _), ?_, rfl⟩
          rw [← he]
          cases hg2 : as[p + 1]? with
          | none => rw [drop_none hg2, drop_none (List.getElem?_eq_none_iff.mpr (Nat.le_succ_of_le (get_ge hg2)))]; rfl
          | some a2 => rw [drop_get hg2]; rfl
        · rw [if_neg h3] at he
          refine tst_neg (ne 92 (by decide) h3) ⟨_, mget hg, ?_⟩
          by_cases h4 : m = 1114113
          · rw [if_pos h4] at he
            exact tst_neg (fun h => h ((mkN_last m).mpr h4)) ⟨_, meas hlt, p + 1, acc, rfl, rfl, Nat.le_succ_of_le ha, he, rfl⟩
          · rw [if_neg h4] at he
            refine tst_pos (fun h => h4 ((mkN_last m).mp h)) ⟨_, chPV_get (valsA_get hg), by show acc.length + 1 ≤ _; lia, _, meas hlt, p + 1, acc ++ [v], rfl, rfl, ?_, he, rfl⟩
            rw [List.length_append]; exact Nat.succ_le_succ ha

noncomputable def codesA (as : List Atom) : List Nat := as.map (·.1)
noncomputable def partsA (as : List Atom) : List (List Nat) := as.map fun a => partN a.1
theorem partN_fig (n : Nat) : partN n ∈ [S_figure] ↔ isDig n = true := by
  rw [List.mem_singleton]
  unfold partN isDig
  rw [decide_eq_true_eq]
  split
  · exact ⟨fun h => (nomatch h), fun h => by lia⟩
  · split
    · rename_i h; exact ⟨fun xx => h, fun xx => rfl⟩
    · split
      · exact ⟨fun h => (nomatch h), fun h => by lia⟩
      · rename_i h _; exact ⟨fun h => (nomatch h), fun e => (h e).elim⟩
theorem runL_fig : ∀ as : List Atom, runL [S_figure] (partsA as) = digRun (codesA as)
  | [] => rfl
  | a :: r => by
    have ih := runL_fig r
    simp only [partsA, codesA, List.map_cons, runL, digRun] at ih ⊢
    by_cases h : isDig a.1 = true
    · rw [if_pos ((partN_fig _).mpr h), if_pos h, ih]
    · rw [if_neg (fun k => h ((partN_fig _).mp k)), if_neg h]
theorem partsA_drop (as : List Atom) (n : Nat) : (partsA as).drop n = partsA (as.drop n) := by simp [partsA, List.map_drop]
theorem codesA_drop (as : List Atom) (n : Nat) : (codesA as).drop n = codesA (as.drop n) := by simp [codesA, List.map_drop]
theorem codesA_get (as : List Atom) (n : Nat) : (codesA as)[n]? = as[n]?.map (·.1) := by simp [codesA]
theorem marksA_one {as : List Atom} {e k : Nat} (hk : k < 1000) : (marksA as)[e]? = some [k] ↔ (codesA as)[e]? = some k := by
  unfold marksA codesA
  rw [List.getElem?_map, List.getElem?_map]
  cases as[e]? with
  | none => exact ⟨fun h => (nomatch h), fun h => (nomatch h)⟩
  | some a => exact ⟨fun h => congrArg some ((mkN_one _ _ hk).mp (Option.some.inj h)), fun h => congrArg some ((mkN_one _ _ hk).mpr (Option.some.inj h))⟩
noncomputable def numLaw (cs : List Nat) (at_ : Nat) : Nat × Bool := match numFrom cs at_ with
  | none => (at_, false)
  | some r => r
theorem fig_run (as : List Atom) (p : Nat) : p + runL [[102, 105, 103, 117, 114, 101]] ((partsA as).drop p) = p + digRun ((codesA as).drop p) := by
  rw [partsA_drop, codesA_drop]; exact congrArg _ (runL_fig _)
theorem digRun_pos (cs : List Nat) (e : Nat) : 0 < digRun (cs.drop e) ↔ digAt cs e = true := by
  rw [digRun_at]
  cases digAt cs e with
  | true => exact ⟨fun xx => rfl, fun xx => Nat.succ_pos _⟩
  | false => exact ⟨fun h => absurd h (Nat.lt_irrefl 0), fun h => (nomatch h)⟩
theorem digRun_one {cs : List Nat} {e : Nat} (h : digAt cs e = true) : digRun (cs.drop e) = digRun (cs.drop (e + 1)) + 1 := by rw [digRun_at, if_pos h]
theorem behind_gt {cs : List Nat} {p : Nat} : ((p : Nat) : Int) < ((p + digRun (cs.drop p) : Nat) : Int) ↔ digAt cs p = true :=
  Int.ofNat_lt.trans (Nat.lt_add_right_iff_pos.trans (digRun_pos cs p))
theorem runC (R : ∀ {pl : List (List Nat)} {at_ : Nat} {ws : List (List Nat)}, Con B d "_law_run" [.lst (chPV pl), .int at_, .lst (chPV ws)] (.int (at_ + runL ws (pl.drop at_) : Nat)))
    (as : List Atom) (p : Nat) : Con B d "_law_run" [.lst (chPV (partsA as)), .int p, .lst [.str [102, 105, 103, 117, 114, 101]]] (.int (p + digRun ((codesA as).drop p) : Nat)) := by
  have := R (pl := partsA as) (at_ := p) (ws := [[102, 105, 103, 117, 114, 101]])
  rw [fig_run] at this
  exact this

abbrev RunC (B : Base) (d : Nat) : Prop := ∀ {pl : List (List Nat)} {at_ : Nat} {ws : List (List Nat)}, Con B d "_law_run" [.lst (chPV pl), .int at_, .lst (chPV ws)] (.int (at_ + runL ws (pl.drop at_) : Nat))
theorem or_opt {a b : Nat} : ∀ {o : Option Nat}, (o = some a ∨ o = some b) ↔ o.any (fun c => decide (c = a ∨ c = b)) = true
  | none => ⟨fun h => h.elim (fun h => (nomatch h)) (fun h => (nomatch h)), fun h => (nomatch h)⟩
  | some _ => (or_congr ⟨Option.some.inj, congrArg some⟩ ⟨Option.some.inj, congrArg some⟩).trans decide_eq_true_iff.symm
theorem eA_one {as : List Atom} {e : Nat} : ((marksA as)[e]? = some [101] ∨ (marksA as)[e]? = some [69]) ↔ eAt (codesA as) e = true := by
  rw [marksA_one (by decide), marksA_one (by decide), or_opt]
  unfold eAt; cases (codesA as)[e]? <;> rfl
theorem sA_one {as : List Atom} {e : Nat} : ((marksA as)[e]? = some [43] ∨ (marksA as)[e]? = some [45]) ↔ signAt (codesA as) e = true := by
  rw [marksA_one (by decide), marksA_one (by decide), or_comm, or_opt]
  unfold signAt; cases (codesA as)[e]? <;> rfl
theorem law_number_tail (R : RunC B d) {as : List Atom} {e : Nat} {pl : Bool} {a2 a3 a6 : Option PV} {H : AH} {r : Nat × Bool} (hr : numExp (codesA as) e pl = r) :
    vcSs B T d r_law_number_3 (isRet (.tup [.int r.1, .bool r.2]) H) [some (.lst (chPV (marksA as))), some (.lst (chPV (partsA as))), a2, a3, some (.int (e : Nat)), some (.bool pl), a6, none] H := by
  unfold numExp at hr
  refine in2 (l := marksA as) (a := e) (x := [101]) (y := [69]) eA_one ?_
  cases hE : eAt (codesA as) e with
  | false => rw [hE] at hr; subst hr; exact tst_f ⟨rfl, rfl⟩
  | true =>
    rw [hE, if_pos rfl] at hr
    have fin : ∀ p : Nat, p = (if signAt (codesA as) (e + 1) then e + 2 else e + 1) → vcSs B T d r_law_number_1 (kseq (vcSs B T d []) (kseq (vcSs B T d r_law_number_2) (isRet (.tup [.int r.1, .bool r.2]) H))) [some (.lst (chPV (marksA as))), some (.lst (chPV (partsA as))), a2, a3, some (.int (e : Nat)), some (.bool pl), a6, some (.int (p : Nat))] H := by
      intro p hp
      rw [← hp] at hr
      refine (runC R as p).run (tst_iff (behind_gt (cs := codesA as)) (fun hd => ?_) (fun hd => ?_))
      · rw [if_pos hd] at hr; subst hr; exact ⟨rfl, rfl⟩
      · rw [hd] at hr; subst hr; exact ⟨rfl, rfl⟩
    refine tst_t (in2 (l := marksA as) (a := e + 1) (x := [43]) (y := [45]) sA_one ?_)
    cases hs : signAt (codesA as) (e + 1) with
    | true => exact tst_t (fin (e + 2) (by rw [hs]; rfl))
    | false => exact tst_f (fin (e + 1) (by rw [hs]; rfl))
theorem law_number_ok (G : GoodB B) (GT : GoodT B T) (F : FnAt B "_law_number" p_law_number 3 [] v_law_number m_law_number) (R : RunC B d) {as : List Atom} {at_ : Nat} (h0 : at_ < as.length) :
    Con B (d + 1) "_law_number" [.lst (chPV (marksA as)), .lst (chPV (partsA as)), .int at_] (.tup [.int (numLaw (codesA as) at_).1, .bool (numLaw (codesA as) at_).2]) := by
  obtain ⟨a, hg⟩ : ∃ a, as[at_]? = some a := ⟨_, List.getElem?_eq_getElem h0⟩
  have hs : mkN a.1 ∈ [[43], [45]] ↔ signAt (codesA as) at_ = true := by
    unfold signAt
    rw [codesA_get, hg, Option.map_some, List.mem_cons, List.mem_singleton, mkN_one _ _ (by decide), mkN_one _ _ (by decide), or_comm]
    exact decide_eq_true_iff.symm
  refine conDef G GT F rfl fun H => ?_
  generalize hr : numLaw (codesA as) at_ = r
  have main : ∀ e0 : Nat, (if signAt (codesA as) at_ then at_ + 1 else at_) = e0 → vcSs B T d (m_law_number.drop 1) (isRet (.tup [.int r.1, .bool r.2]) H) [some (.lst (chPV (marksA as))), some (.lst (chPV (partsA as))), some (.int at_), some (.int e0), none, none, none, none] H := by
    intro e0 he0
    unfold numLaw numFrom at hr
    rw [he0] at hr
    dsimp only at hr
    refine (runC R as e0).run ((runC R as (e0 + digRun ((codesA as).drop e0) + 1)).run ?_)
    generalize e0 + digRun ((codesA as).drop e0) = e1 at *
    have plain : ¬ ((codesA as)[e1]? = some 46 ∧ digAt (codesA as) (e1 + 1) = true) → ∀ {a6 : Option PV}, vcSs B T d [.ite (.cmp .Eq (.var 4) (.var 3)) [.ret (.tup [(.var 2), (.const (.bool false))])] []] (kseq (vcSs B T d r_law_number_3) (isRet (.tup [.int r.1, .bool r.2]) H)) [some (.lst (chPV (marksA as))), some (.lst (chPV (partsA as))), some (.int at_), some (.int e0), some (.int e1), some (.bool true), a6, none] H := by
      intro hn a6
      rw [if_neg hn] at hr
      refine tst_both (fun hz => ⟨?_, rfl⟩) (fun hz => ?_)
      · rw [if_pos (Int.ofNat.inj hz)] at hr; subst hr; rfl
      · rw [if_neg (fun h => hz (congrArg Int.ofNat h))] at hr
        exact law_number_tail R hr
    refine ⟨_, eq1 (marksA as) e1 [46], tst_b (fun hdot => tst_iff (behind_gt (cs := codesA as) (p := e1 + 1)) (fun hd => ?_) (fun hd => tst_dF (plain fun k => by rw [hd] at k; exact nomatch k.2))) (fun hdot => tst_dF (plain fun k => of_decide_eq_false hdot ((marksA_one (by decide)).mpr k.1)))⟩
    have h46 := (marksA_one (by decide)).mp (of_decide_eq_true hdot)
    rw [if_pos ⟨h46, hd⟩] at hr
    have e2 : e1 + 1 + digRun ((codesA as).drop (e1 + 1)) = e1 + 2 + digRun ((codesA as).drop (e1 + 2)) := by
      rw [digRun_one hd]; exact (Nat.succ_add_eq_add_succ ..).symm
    rw [← e2] at hr
    exact tst_dT (law_number_tail R hr)
  exact ⟨_, mget hg, tst_iff hs (fun h => main (at_ + 1) (by rw [if_pos h])) (fun h => main at_ (by rw [h]; rfl))⟩
end Mine
end

section
set_option tactic.hygienic false
set_option maxRecDepth 10000
set_option backward.match.sparseCases false
set_option genInjectivity false
set_option genSizeOf false
namespace Mine
open PySem PySem.W
variable {B : Base} {T : Tab} {d : Nat}

noncomputable def one1 (s : List Nat) : List PV := s.map fun c => PV.str [c]
theorem one1_snoc (s : List Nat) (c : Nat) : one1 s ++ [.str [c]] = one1 (s ++ [c]) := by simp [one1]
theorem one1_ch (s : List Nat) : one1 s = chPV (s.map fun c => [c]) := by simp [one1, chPV]
theorem one1_len (s : List Nat) : (one1 s).length = s.length := by simp [one1]
theorem one1_get {s : List Nat} {n c : Nat} (h : s[n]? = some c) : (one1 s)[n]? = some (.str [c]) := by simp [one1, h]
noncomputable def mendF : Bool → List Nat → List Nat
  | _, [] => []
  | b, c :: r => (if c = 13 ∨ c = 12 ∨ (c = 10 ∧ b = false) then [10] else if c = 10 then [] else [if c = 0 then 65533 else c]) ++ mendF (c == 13) r
theorem mendF_len : ∀ (b : Bool) (s : List Nat), (mendF b s).length ≤ s.length
  | _, [] => Nat.le_refl _
  | b, c :: r => by
    have := mendF_len (c == 13) r
    rw [mendF, List.length_append, List.length_cons]
    have h1 : (if c = 13 ∨ c = 12 ∨ (c = 10 ∧ b = false) then [10] else if c = 10 then [] else [if c = 0 then 65533 else c]).length ≤ 1 := by
      split
      · exact Nat.le_refl 1
      · split
        · exact Nat.zero_le _
        · exact Nat.le_refl 1
    lia
noncomputable def mendI (t : List Nat) (H : AH) (a : Addr) (xs : List PV) (ρ : Loc) (H' : AH) : Prop :=
  ∃ (done rest b : List Nat) (x : Option PV), xs = one1 rest ∧ ρ = [some (.str t), some (.ref a), some (.str b), x] ∧ H' = H.upd a (.list (one1 done)) ∧ done.length + rest.length ≤ 100000 ∧ done ++ mendF (decide (b = [13])) rest = mendF false t
theorem one1_snoc2 {H : AH} {a : Addr} {s : List Nat} {c : Nat} : (H.upd a (.list (one1 s))).upd a (.list (one1 s ++ [.str [c]])) = H.upd a (.list (one1 (s ++ [c]))) := by rw [upd_upd, one1_snoc]
theorem mended_ok (G : GoodB B) (GT : GoodT B T) (F : FnAt B "_law_mended" p_law_mended 1 [] v_law_mended m_law_mended) {t : List Nat} (hL : t.length ≤ 100000) :
    Con B (d + 1) "_law_mended" [.str t] (.lst (one1 (mendF false t))) := by
  refine conDef G GT F rfl fun H a ha => for_mk (mendI t H a) ⟨[], t, [], none, rfl, rfl, rfl, by show 0 + _ ≤ _; lia, rfl⟩ ?_ ?_
  · rintro x r ρ H' ⟨done, rest, b, y, hx, rfl, rfl, hl, he⟩
    cases rest with
    | nil => cases hx
    | cons c rest =>
      obtain ⟨rfl, rfl⟩ := List.cons.inj hx
      rw [List.length_cons] at hl
      rw [mendF] at he
      have hlen : (one1 done).length ≤ 1000000 := by rw [one1_len]; lia
      have hb : decide ([c] = [13]) = (c == 13) := by rw [Bool.eq_iff_iff, decide_eq_true_eq, beq_iff_eq]; exact ⟨cons1, fun h => by rw [h]⟩
      have nl : (c = 13 ∨ c = 12 ∨ (c = 10 ∧ decide (b = [13]) = false)) → mendI t H a (one1 rest) [some (.str t), some (.ref a), some (.str [c]), some (.str [c])] ((H.upd a (.list (one1 done))).upd a (.list (one1 done ++ [.str [10]]))) := by
        intro h
        rw [if_pos h, ← List.append_assoc] at he
        exact ⟨done ++ [10], rest, [c], _, rfl, rfl, one1_snoc2, by rw [List.length_append, List.length_singleton]; lia, by rw [hb]; exact he⟩
      by_cases h13 : c = 13
      · exact tst_pos (congrArg (fun x => [x]) h13) (tst_dT ⟨⟨_, upd_self ..⟩, app_mk (upd_self ..) hlen ⟨rfl, nl (.inl h13)⟩⟩)
      refine tst_neg (fun h => h13 (cons1 h)) ?_
      by_cases h12 : c = 12
      · exact tst_pos (congrArg (fun x => [x]) h12) (tst_dT ⟨⟨_, upd_self ..⟩, app_mk (upd_self ..) hlen ⟨rfl, nl (.inr (.inl h12))⟩⟩)
      refine tst_neg (fun h => h12 (cons1 h)) ?_
      by_cases h10 : c = 10
      · refine tst_pos (congrArg (fun x => [x]) h10) ?_
        by_cases hb' : b = [13]
        · refine tst_neg (fun h => h hb') (tst_dF (tst_dF (tst_neg (fun h => h (congrArg (fun x => [x]) h10)) ?_)))
          have hn : ¬ (c = 13 ∨ c = 12 ∨ (c = 10 ∧ decide (b = [13]) = false)) := by
            rintro (h | h | h)
            · exact h13 h
            · exact h12 h
            · exact of_decide_eq_false h.2 hb'
          rw [if_neg hn, if_pos h10] at he
          exact ⟨done, rest, [c], _, rfl, rfl, rfl, by lia, by rw [hb]; exact he⟩
        · exact tst_pos hb' (tst_dT (tst_dT ⟨⟨_, upd_self ..⟩, app_mk (upd_self ..) hlen ⟨rfl, nl (.inr (.inr ⟨h10, decide_eq_false hb'⟩))⟩⟩))
      · refine tst_neg (fun h => h10 (cons1 h)) (tst_dF (tst_dF (tst_pos (fun h => h10 (cons1 h)) ⟨⟨_, upd_self ..⟩, ?_⟩)))
        have hn : ¬ (c = 13 ∨ c = 12 ∨ (c = 10 ∧ decide (b = [13]) = false)) := by
          rintro (h | h | h)
          · exact h13 h
          · exact h12 h
          · exact h10 h.1
        rw [if_neg hn, if_neg h10, ← List.append_assoc] at he
        refine tst_both (fun h => app_mk (upd_self ..) hlen ⟨rfl, done ++ [65533], rest, [c], _, rfl, rfl, one1_snoc2, by rw [List.length_append, List.length_singleton]; lia, ?_⟩) (fun h => app_mk (upd_self ..) hlen ⟨rfl, done ++ [c], rest, [c], _, rfl, rfl, one1_snoc2, by rw [List.length_append, List.length_singleton]; lia, ?_⟩)
        · rw [if_pos (cons1 h)] at he; rw [hb]; exact he
        · rw [if_neg (fun e => h (by rw [e]))] at he; rw [hb]; exact he
  · rintro ρ H' ⟨done, rest, b, y, hx, rfl, rfl, hl, he⟩
    cases rest with
    | cons c r => cases hx
    | nil =>
      rw [mendF, List.append_nil] at he
      subst he
      exact ⟨_, upd_self .., rfl, del_upd ha _⟩

noncomputable def plPV (q : Nat × Nat) : PV := .tup [.int q.1, .int q.2]
noncomputable def placesF : Nat → Nat → List Nat → List (Nat × Nat)
  | _, _, [] => []
  | l, c, x :: r => (l, c) :: (if x = 10 then placesF (l + 1) 1 r else placesF l (c + 1) r)
theorem placesF_len : ∀ (l c : Nat) (s : List Nat), (placesF l c s).length = s.length
  | _, _, [] => rfl
  | l, c, x :: r => by
    rw [placesF]
    split
    · exact congrArg (· + 1) (placesF_len _ _ r)
    · exact congrArg (· + 1) (placesF_len _ _ r)
noncomputable def placesI (t : List Nat) (H : AH) (a : Addr) (xs : List PV) (ρ : Loc) (H' : AH) : Prop :=
  ∃ (done : List (Nat × Nat)) (rest : List Nat) (l c : Nat) (x : Option PV), xs = one1 rest ∧ ρ = [some (.lst (one1 t)), some (.ref a), some (.int l), some (.int c), x] ∧ H' = H.upd a (.list (done.map plPV)) ∧ done.length + rest.length ≤ 100000 ∧ done ++ placesF l c rest = placesF 1 1 t
theorem places_ok (G : GoodB B) (GT : GoodT B T) (F : FnAt B "_law_places" p_law_places 1 [] v_law_places m_law_places) {t : List Nat} (hL : t.length ≤ 100000) :
    Con B (d + 1) "_law_places" [.lst (one1 t)] (.lst ((placesF 1 1 t).map plPV)) := by
  refine conDef G GT F rfl fun H a ha => for_mk (placesI t H a) ⟨[], t, 1, 1, none, rfl, rfl, rfl, by show 0 + _ ≤ _; lia, rfl⟩ ?_ ?_
  · rintro x r ρ H' ⟨done, rest, l, c, y, hx, rfl, rfl, hl, he⟩
    cases rest with
    | nil => cases hx
    | cons k rest =>
      obtain ⟨rfl, rfl⟩ := List.cons.inj hx
      rw [List.length_cons] at hl
      rw [placesF] at he
      have hlen : (done.map plPV).length ≤ 1000000 := by rw [List.length_map]; lia
      have eu : (H.upd a (.list (done.map plPV))).upd a (.list (done.map plPV ++ [.tup [.int l, .int c]])) = H.upd a (.list ((done ++ [(l, c)]).map plPV)) := by rw [upd_upd, List.map_append]; rfl
      have hl' : (done ++ [(l, c)]).length + rest.length ≤ 100000 := by rw [List.length_append, List.length_singleton]; lia
      refine ⟨⟨_, upd_self ..⟩, app_mk (upd_self ..) hlen ⟨rfl, tst_both (fun h => ⟨done ++ [(l, c)], rest, l + 1, 1, _, rfl, rfl, eu, hl', ?_⟩) (fun h => ⟨done ++ [(l, c)], rest, l, c + 1, _, rfl, rfl, eu, hl', ?_⟩)⟩⟩
      · rw [if_pos (cons1 h)] at he; rw [← he, List.append_assoc]; rfl
      · rw [if_neg (fun e => h (by rw [e]))] at he; rw [← he, List.append_assoc]; rfl
  · rintro ρ H' ⟨done, rest, l, c, y, hx, rfl, rfl, hl, he⟩
    cases rest with
    | cons c r => cases hx
    | nil =>
      rw [placesF, List.append_nil] at he
      subst he
      exact ⟨_, upd_self .., rfl, del_upd ha _⟩

noncomputable def plainC (c : Nat) : Nat := if 55296 ≤ c ∧ c ≤ 57343 then 65533 else c
theorem law_plain_ok (G : GoodB B) (GT : GoodT B T) (F : FnAt B "_law_plain" p_law_plain 1 [] v_law_plain m_law_plain) {s : List Nat} (hL : s.length ≤ 100000) :
    Con B (d + 1) "_law_plain" [.str s] (.str (s.map plainC)) := by
  refine conDef G GT F rfl fun H => ⟨_, rfl, by rw [List.length_map]; lia, mapW_str (g := fun c => [plainC c]) (fun c hc Q H hq => ?_) ⟨_, allStr_chPV _, ?_, ?_, rfl⟩⟩
  · unfold plainC at hq
    refine tst_rng (p := (55296 : Int) ≤ c) (q := (c : Int) ≤ 57343) (fun h => ?_) (fun h => ?_)
    · rw [if_pos ⟨Int.ofNat_le.mp h.1, Int.ofNat_le.mp h.2⟩] at hq; exact hq
    · rw [if_neg (fun k => h ⟨Int.ofNat_le.mpr k.1, Int.ofNat_le.mpr k.2⟩)] at hq; exact hq
  · rw [flat_one, List.length_map]; lia
  · rw [flat_one]

theorem consts_BLANKS (G : GoodB B) (GT : GoodT B T) (F : FnAt B "_law_BLANKS" p_law_BLANKS 0 [] v_law_BLANKS m_law_BLANKS) : Con B (d + 1) "_law_BLANKS" [] (.lst (chPV [[32], [9], [10]])) :=
  conDef G GT F rfl fun H => ⟨rfl, rfl⟩
theorem consts_TAILS (G : GoodB B) (GT : GoodT B T) (F : FnAt B "_law_TAILS" p_law_TAILS 0 [] v_law_TAILS m_law_TAILS) : Con B (d + 1) "_law_TAILS" [] (.lst (chPV [[], [32], [32, 32], [9], [10], [13, 10], [12, 32], [13]])) :=
  conDef G GT F rfl fun H => ⟨rfl, rfl⟩
theorem consts_ENDS (G : GoodB B) (GT : GoodT B T) (F : FnAt B "_law_ENDS" p_law_ENDS 0 [] v_law_ENDS m_law_ENDS) : Con B (d + 1) "_law_ENDS" [] (.lst (chPV [[10], [13, 10], [13], [12]])) :=
  conDef G GT F rfl fun H => ⟨rfl, rfl⟩
theorem consts_LETTERS (G : GoodB B) (GT : GoodT B T) (F : FnAt B "_law_LETTERS" p_law_LETTERS 0 [] v_law_LETTERS m_law_LETTERS) : Con B (d + 1) "_law_LETTERS" [] (.lst (chPV [[103], [95], [90], [233], [0], [128512], [128]])) :=
  conDef G GT F rfl fun H => ⟨rfl, rfl⟩
theorem consts_NUMBERS (G : GoodB B) (GT : GoodT B T) (F : FnAt B "_law_NUMBERS" p_law_NUMBERS 0 [] v_law_NUMBERS m_law_NUMBERS) : Con B (d + 1) "_law_NUMBERS" [] (.lst (chPV [[49], [45, 50], [43, 46, 53], [51, 101, 49], [52, 101], [55, 37], [56, 46], [48, 48]])) :=
  conDef G GT F rfl fun H => ⟨rfl, rfl⟩
theorem consts_SIGNS (G : GoodB B) (GT : GoodT B T) (F : FnAt B "_law_SIGNS" p_law_SIGNS 0 [] v_law_SIGNS m_law_SIGNS) : Con B (d + 1) "_law_SIGNS" [] (.lst (chPV [[44], [62], [127], [1], [126], [37], [46], [43]])) :=
  conDef G GT F rfl fun H => ⟨rfl, rfl⟩

theorem hexW_dec {w n : Nat} {fig : List Nat} {c : Nat} (h : n ≠ 0 ∨ fig.length < w) : n / 16 + (w - (c :: fig).length) < n + (w - fig.length) := by
  rw [List.length_cons]
  by_cases h0 : n = 0
  · subst h0; have := h.resolve_left (fun h => h rfl); lia
  · have := Nat.div_lt_self (Nat.pos_of_ne_zero h0) (by lia : 1 < 16)
    lia
noncomputable def hexF (tb : List Nat) (w : Nat) (x : Nat × List Nat) (f : (y : Nat × List Nat) → y.1 + (w - y.2.length) < x.1 + (w - x.2.length) → List Nat) : List Nat :=
  if h : x.1 ≠ 0 ∨ x.2.length < w then f (x.1 / 16, tb.getD (x.1 % 16) 48 :: x.2) (hexW_dec h) else x.2
@[irreducible] noncomputable def hexW (tb : List Nat) (w : Nat) (n : Nat) (fig : List Nat) : List Nat :=
  WellFounded.fix (measure fun x : Nat × List Nat => x.1 + (w - x.2.length)).wf (hexF tb w) (n, fig)
theorem hexW_eq (tb : List Nat) (w n : Nat) (fig : List Nat) : hexW tb w n fig = if n ≠ 0 ∨ fig.length < w then hexW tb w (n / 16) (tb.getD (n % 16) 48 :: fig) else fig := by
  delta hexW; exact (WellFounded.fix_eq _ _ _)
noncomputable def hexI (tb : List Nat) (w n : Nat) (H : AH) (m : Nat) (ρ : Loc) (H' : AH) : Prop :=
  ∃ n' fig k, ρ = [some (.int (n' : Nat)), some (.int w), some (.str tb), some (.str fig)] ∧ H' = H ∧ n' < 16 ^ k ∧ fig.length + k ≤ 50 ∧ hexW tb w n' fig = hexW tb w n [] ∧ m = n' + (w - fig.length)
theorem hexed_ok (G : GoodB B) (GT : GoodT B T) (F : FnAt B "_law_hexed" p_law_hexed 3 [] v_law_hexed m_law_hexed) {n w : Nat} {tb : List Nat} (hn : n < 16777216) (hw : w ≤ 6) (ht : tb.length = 16) :
    Con B (d + 1) "_law_hexed" [.int n, .int w, .str tb] (.str (hexW tb w n [])) := by
  refine conDef G GT F rfl fun H => wh_mk (hexI tb w n H) (n + w) ⟨n, [], 6, rfl, rfl, by lia, by decide, rfl, rfl⟩ ?_
  rintro m ρ H' ⟨n', fig, k, rfl, rfl, hk, hf, he, rfl⟩
  rw [hexW_eq] at he
  have hb : tb[n' % 16]? = some (tb.getD (n' % 16) 48) := by
    rw [List.getD_eq_getElem?_getD, List.getElem?_eq_getElem (by rw [ht]; lia)]; rfl
  have hf' : [tb.getD (n' % 16) 48].length + fig.length ≤ 16777216 := by show 1 + _ ≤ _; lia
  have nx : (n' ≠ 0 ∨ fig.length < w) → ∃ m, m < n' + (w - fig.length) ∧ hexI tb w n H' m [some (.int (n' / 16 : Nat)), some (.int w), some (.str tb), some (.str (tb.getD (n' % 16) 48 :: fig))] H' := by
    intro h
    rw [if_pos h] at he
    refine ⟨n' / 16 + (w - (fig.length + 1)), ?_, n' / 16, _, k - 1, rfl, rfl, ?_, ?_, he, rfl⟩
    · lia
    · cases k with
      | zero => simp at hk; subst hk; decide
      | succ k => rw [Nat.add_sub_cancel]; rw [Nat.pow_succ] at hk; lia
    · rw [List.length_cons]
      cases k with
      | zero => simp at hk; subst hk; lia
      | succ k => lia
  have go : (n' ≠ 0 ∨ fig.length < w) → ∃ c, tb[n' % 16]? = some c ∧ [c].length + fig.length ≤ 16777216 ∧ (((16 : Int).natAbs < 1073741824 ∧ (16 : Int) ≠ 0) ∧ ∃ m, m < n' + (w - fig.length) ∧ hexI tb w n H' m [some (.int (n' / 16 : Nat)), some (.int w), some (.str tb), some (.str (c :: fig))] H') :=
    fun h => ⟨_, hb, hf', ⟨by decide, by decide⟩, nx h⟩
  by_cases h0 : n' = 0
  · refine tst_neg (fun h => h (congrArg Int.ofNat h0)) ?_
    by_cases hx : fig.length < w
    · exact tst_pos (Int.ofNat_lt.mpr hx) (tst_dT ⟨by decide, go (.inr hx)⟩)
    · rw [if_neg (fun h => h.elim (fun h => h h0) hx)] at he
      exact tst_neg (fun h => hx (Int.ofNat_lt.mp h)) (tst_dF ⟨congrArg PV.str he, rfl⟩)
  · exact tst_pos (fun h => h0 (Int.ofNat.inj h)) (tst_dT ⟨by decide, go (.inl h0)⟩)

noncomputable def L_tails : List (List Nat) := [[], [32], [32, 32], [9], [10], [13, 10], [12, 32], [13]]
noncomputable def L_ends : List (List Nat) := [[10], [13, 10], [13], [12]]
noncomputable def L_letters : List (List Nat) := [[103], [95], [90], [233], [0], [128512], [128]]
noncomputable def L_numbers : List (List Nat) := [[49], [45, 50], [43, 46, 53], [51, 101, 49], [52, 101], [55, 37], [56, 46], [48, 48]]
noncomputable def L_signs : List (List Nat) := [[44], [62], [127], [1], [126], [37], [46], [43]]
noncomputable def L_hyph : List (List Nat) := [[45], [45, 45], [45, 45, 62]]
noncomputable def L_low : List Nat := [48, 49, 50, 51, 52, 53, 54, 55, 56, 57, 97, 98, 99, 100, 101, 102]
noncomputable def L_up : List Nat := [48, 49, 50, 51, 52, 53, 54, 55, 56, 57, 65, 66, 67, 68, 69, 70]
noncomputable def L_hex : List Nat := [97, 70, 52, 101, 48, 98]
structure PieceEnv (B : Base) (d : Nat) : Prop where
  hexed : ∀ {n w : Nat} {tb : List Nat}, n < 16777216 → w ≤ 6 → tb.length = 16 → Con B d "_law_hexed" [.int n, .int w, .str tb] (.str (hexW tb w n []))
  tails : Con B d "_law_TAILS" [] (.lst (chPV L_tails))
  ends : Con B d "_law_ENDS" [] (.lst (chPV L_ends))
  letters : Con B d "_law_LETTERS" [] (.lst (chPV L_letters))
  numbers : Con B d "_law_NUMBERS" [] (.lst (chPV L_numbers))
  signs : Con B d "_law_SIGNS" [] (.lst (chPV L_signs))
noncomputable def numK (k j : Nat) : Nat := if j = 0 then k % 128 else if j = 1 then 55296 + k % 2048 else if j = 2 then 1114112 + k % 15663104 else k % 1114112
noncomputable def pieceF (n : Nat) : List Nat :=
  let kind := n % 12
  let m := n / 12
  let k := m / 4
  if kind < 2 then 92 :: (hexW (if k % 3 ≠ 0 then L_low else L_up) (1 + k % 6) (numK k (m % 4)) [] ++ L_tails.getD ((k + k / 128) % 8) [])
  else if kind = 2 then [92]
  else if kind = 3 then L_ends.getD (m % 4) []
  else if kind = 4 then (if m % 2 ≠ 0 then [32] else [9])
  else if kind = 5 then [L_hex.getD (m % 6) 0]
  else if kind = 6 then L_letters.getD (m % 7) []
  else if kind = 7 then (if m % 2 ≠ 0 then [39] else [34])
  else if kind = 8 then (if m % 2 ≠ 0 then [64] else [35])
  else if kind = 9 then L_hyph.getD (m % 3) []
  else if kind = 10 then L_numbers.getD (m % 8) []
  else L_signs.getD (m % 8) []
theorem getD_one {α : Type} {l : List α} {i : Nat} {x : α} (h : i < l.length) : l[i]? = some (l.getD i x) := by
  rw [List.getD_eq_getElem?_getD, List.getElem?_eq_getElem h]; rfl
theorem chD {l : List (List Nat)} {i : Nat} (h : i < l.length) : (chPV l)[i]? = some (.str (l.getD i [])) := chPV_get (getD_one h)
theorem hexW_len (tb : List Nat) (w : Nat) (hw : w ≤ 6) : ∀ (m n : Nat) (fig : List Nat), n + (w - fig.length) ≤ m → ∀ k, n < 16 ^ k → fig.length + k ≤ 6 → (hexW tb w n fig).length ≤ 6 := by
  intro m
  induction m with
  | zero =>
    intro n fig hm k hk hf
    rw [hexW_eq, if_neg (by lia)]; lia
  | succ m ih =>
    intro n fig hm k hk hf
    rw [hexW_eq]
    split
    · rename_i h
      refine ih _ _ (Nat.le_of_lt_succ (Nat.lt_of_lt_of_le (hexW_dec h) hm)) (k - 1) ?_ ?_
      · cases k with
        | zero => simp at hk; subst hk; decide
        | succ k => rw [Nat.add_sub_cancel]; rw [Nat.pow_succ] at hk; lia
      · rw [List.length_cons]
        cases k with
        | zero => simp at hk; subst hk; lia
        | succ k => lia
    · lia
theorem hexW_mem (tb : List Nat) (w : Nat) : ∀ (m n : Nat) (fig : List Nat), n + (w - fig.length) ≤ m → ∀ c ∈ hexW tb w n fig, c ∈ fig ∨ c ∈ tb ∨ c = 48 := by
  intro m
  induction m with
  | zero =>
    intro n fig hm c hc
    rw [hexW_eq, if_neg (by lia)] at hc; exact Or.inl hc
  | succ m ih =>
    intro n fig hm c hc
    rw [hexW_eq] at hc
    split at hc
    · rename_i h
      rcases ih _ _ (Nat.le_of_lt_succ (Nat.lt_of_lt_of_le (hexW_dec h) hm)) c hc with h' | h' | h'
      · rcases List.mem_cons.mp h' with h'' | h''
        · subst h''
          rw [List.getD_eq_getElem?_getD]
          cases hg : tb[n % 16]? with
          | none => exact Or.inr (Or.inr rfl)
          | some x => exact Or.inr (Or.inl (List.mem_of_getElem? hg))
        · exact Or.inl h''
      · exact Or.inr (Or.inl h')
      · exact Or.inr (Or.inr h')
    · exact Or.inl hc
theorem modlt {a b : Nat} (h : 0 < b) : a % b < b := Nat.mod_lt _ h
theorem numK_lt (k j : Nat) : numK k j < 16777216 := by
  unfold numK; split
  · lia
  · split
    · lia
    · split <;> lia
theorem numK_get {k : Nat} : ∀ {j : Nat}, j < 4 → [PV.int (k % 128 : Nat), .int (55296 + k % 2048 : Nat), .int (1114112 + k % 15663104 : Nat), .int (k % 1114112 : Nat)][j]? = some (.int (numK k j : Nat))
  | 0, _ => rfl
  | 1, _ => rfl
  | 2, _ => rfl
  | 3, _ => rfl
  | _ + 4, h => absurd h (by lia)
theorem tails_len : ∀ {j : Nat}, j < 8 → (L_tails.getD j []).length ≤ 2
  | 0, _ => by decide
  | 1, _ => by decide
  | 2, _ => by decide
  | 3, _ => by decide
  | 4, _ => by decide
  | 5, _ => by decide
  | 6, _ => by decide
  | 7, _ => by decide
  | _ + 8, h => absurd h (by lia)
theorem ne_nat {a b : Nat} (h : ¬ a = b) : ¬ (a : Int) = (b : Int) := fun e => h (Int.ofNat.inj e)
theorem piece1_ok (E : PieceEnv B d) {m k : Nat} (hk : m / 4 = k) {H : AH} {a0 a1 a3 a4 a5 : Option PV} {Q : KS} {ρo : Prop}
    (hq : ∀ ρ, Q (.ret (.str (92 :: (hexW (if k % 3 ≠ 0 then L_low else L_up) (1 + k % 6) (numK k (m % 4)) [] ++ L_tails.getD ((k + k / 128) % 8) [])))) ρ H) :
    vcSs B T d b_law_piece_1 Q [a0, a1, some (.int m), a3, a4, a5] H := by
  subst hk
  refine ⟨⟨by decide, by decide⟩, by decide, by decide, by decide, by decide, by decide, _, numK_get (k := m / 4) (modlt (by decide)), by decide, ?_⟩
  have hnk := numK_lt (m / 4) (m % 4)
  have fin : ∀ tb : List Nat, tb.length = 16 → tb = (if m / 4 % 3 ≠ 0 then L_low else L_up) → vcSs B T d (b_law_piece_1.drop 3) Q [a0, a1, some (.int m), some (.int (m / 4 : Nat)), some (.int (numK (m / 4) (m % 4) : Nat)), some (.str tb)] H := by
    intro tb ht he
    rw [← he] at hq
    have h6 := hexW_len tb (1 + m / 4 % 6) (by lia) _ (numK (m / 4) (m % 4)) [] (Nat.le_refl _) 6 hnk (by decide)
    have h2 := tails_len (modlt (a := m / 4 + m / 4 / 128) (b := 8) (by decide))
    have hx := E.hexed (n := numK (m / 4) (m % 4)) (w := 1 + m / 4 % 6) (tb := tb) hnk (by lia) ht
    refine ⟨hx.b, by decide, hx.use ⟨by show 1 + _ ≤ _; lia, E.tails.run ⟨⟨by decide, by decide⟩, by decide, _, chD (l := L_tails) (modlt (by decide)), ?_, ?_⟩⟩⟩
    · rw [List.length_append]; exact Nat.le_trans (Nat.add_le_add (Nat.add_le_add_left h6 1) h2) (by decide)
    · exact hq _
  refine tst_both (fun h => fin L_low rfl (by rw [if_pos (fun e => h (congrArg Int.ofNat e))])) (fun h => fin L_up rfl ?_)
  have : ¬ (m / 4 % 3 ≠ 0) := fun e => h (ne_nat e)
  rw [if_neg this]
theorem piece_ok (G : GoodB B) (GT : GoodT B T) (F : FnAt B "_law_piece" p_law_piece 1 [] v_law_piece m_law_piece) (E : PieceEnv B d) {n : Nat} :
    Con B (d + 1) "_law_piece" [.int n] (.str (pieceF n)) := by
  refine conDef G GT F rfl fun H => ?_
  generalize hr : pieceF n = r
  unfold pieceF at hr
  dsimp only at hr
  refine ⟨by decide, ⟨by decide, by decide⟩, ?_⟩
  by_cases hk : n % 12 < 2
  · rw [if_pos hk] at hr
    exact tst_pos (Int.ofNat_lt.mpr hk) (piece1_ok (ρo := True) E (m := n / 12) rfl fun ρ => ⟨congrArg PV.str hr, rfl⟩)
  rw [if_neg hk] at hr
  refine tst_neg (fun h => hk (Int.ofNat_lt.mp h)) ?_
  by_cases h2 : n % 12 = 2
  · rw [if_pos h2] at hr
    refine tst_pos (congrArg Int.ofNat h2) ⟨congrArg PV.str hr, rfl⟩
  rw [if_neg h2] at hr
  refine tst_neg (ne_nat h2) ?_
  by_cases h3 : n % 12 = 3
  · rw [if_pos h3] at hr
    refine tst_pos (congrArg Int.ofNat h3) (E.ends.run ⟨by decide, _, chD (l := L_ends) (modlt (by decide)), congrArg PV.str hr, rfl⟩)
  rw [if_neg h3] at hr
  refine tst_neg (ne_nat h3) ?_
  by_cases h4 : n % 12 = 4
  · rw [if_pos h4] at hr
    refine tst_pos (congrArg Int.ofNat h4) ⟨by decide, tst_both (fun h => ⟨?_, rfl⟩) (fun h => ⟨?_, rfl⟩)⟩
    · rw [if_pos (fun e => h (congrArg Int.ofNat e))] at hr; exact congrArg PV.str hr
    · rw [if_neg (fun e => h (ne_nat e))] at hr; exact congrArg PV.str hr
  rw [if_neg h4] at hr
  refine tst_neg (ne_nat h4) ?_
  by_cases h5 : n % 12 = 5
  · rw [if_pos h5] at hr
    refine tst_pos (congrArg Int.ofNat h5) ⟨by decide, _, getD_one (l := L_hex) (x := 0) (modlt (by decide)), congrArg PV.str hr, rfl⟩
  rw [if_neg h5] at hr
  refine tst_neg (ne_nat h5) ?_
  by_cases h6 : n % 12 = 6
  · rw [if_pos h6] at hr
    refine tst_pos (congrArg Int.ofNat h6) (E.letters.run ⟨by decide, _, chD (l := L_letters) (modlt (by decide)), congrArg PV.str hr, rfl⟩)
  rw [if_neg h6] at hr
  refine tst_neg (ne_nat h6) ?_
  by_cases h7 : n % 12 = 7
  · rw [if_pos h7] at hr
    refine tst_pos (congrArg Int.ofNat h7) ⟨by decide, tst_both (fun h => ⟨?_, rfl⟩) (fun h => ⟨?_, rfl⟩)⟩
    · rw [if_pos (fun e => h (congrArg Int.ofNat e))] at hr; exact congrArg PV.str hr
    · rw [if_neg (fun e => h (ne_nat e))] at hr; exact congrArg PV.str hr
  rw [if_neg h7] at hr
  refine tst_neg (ne_nat h7) ?_
  by_cases h8 : n % 12 = 8
  · rw [if_pos h8] at hr
    refine tst_pos (congrArg Int.ofNat h8) ⟨by decide, tst_both (fun h => ⟨?_, rfl⟩) (fun h => ⟨?_, rfl⟩)⟩
    · rw [if_pos (fun e => h (congrArg Int.ofNat e))] at hr; exact congrArg PV.str hr
    · rw [if_neg (fun e => h (ne_nat e))] at hr; exact congrArg PV.str hr
  rw [if_neg h8] at hr
  refine tst_neg (ne_nat h8) ?_
  by_cases h9 : n % 12 = 9
  · rw [if_pos h9] at hr
    refine tst_pos (congrArg Int.ofNat h9) ⟨by decide, _, chD (l := L_hyph) (modlt (by decide)), congrArg PV.str hr, rfl⟩
  rw [if_neg h9] at hr
  refine tst_neg (ne_nat h9) ?_
  by_cases h10 : n % 12 = 10
  · rw [if_pos h10] at hr
    refine tst_pos (congrArg Int.ofNat h10) (E.numbers.run ⟨by decide, _, chD (l := L_numbers) (modlt (by decide)), congrArg PV.str hr, rfl⟩)
  rw [if_neg h10] at hr
  refine tst_neg (ne_nat h10) (E.signs.run ⟨by decide, _, chD (l := L_signs) (modlt (by decide)), congrArg PV.str hr, rfl⟩)

noncomputable def hexChars : List Nat := [48, 49, 50, 51, 52, 53, 54, 55, 56, 57, 97, 98, 99, 100, 101, 102, 65, 66, 67, 68, 69, 70]
noncomputable def worthK : List (List Nat) := [[48], [49], [50], [51], [52], [53], [54], [55], [56], [57], [97], [98], [99], [100], [101], [102], [65], [66], [67], [68], [69], [70]]
noncomputable def worthV : List PV := [.int 0, .int 1, .int 2, .int 3, .int 4, .int 5, .int 6, .int 7, .int 8, .int 9, .int 10, .int 11, .int 12, .int 13, .int 14, .int 15, .int 10, .int 11, .int 12, .int 13, .int 14, .int 15]
theorem worth_mem (c : Nat) : [c] ∈ worthK ↔ isHex c = true := (mem_one (l := hexChars)).trans (hexChars_is c)
theorem worth_get {c : Nat} (h : isHex c = true) : assocP [c] worthK worthV = some (.int ((hexV c).getD 0 : Nat)) := by
  have := (hexChars_is c).mpr h
  simp only [List.mem_cons, List.not_mem_nil, or_false] at this
  rcases this with rfl | rfl | rfl | rfl | rfl | rfl | rfl | rfl | rfl | rfl | rfl | rfl | rfl | rfl | rfl | rfl | rfl | rfl | rfl | rfl | rfl | rfl <;> rfl
noncomputable def cntF : Nat → List Nat → Nat
  | n, [] => n
  | n, c :: r => cntF (if isHex c = true then 10 * n + (hexV c).getD 0 else n) r
noncomputable def cntV (s : List Nat) : Int := if s.head? = some 45 then - (cntF 0 s : Int) else cntF 0 s
noncomputable def cntI (t : List Nat) (H : AH) (xs : List PV) (ρ : Loc) (H' : AH) : Prop :=
  ∃ (rest : List Nat) (n : Nat) (x : Option PV), xs = one1 rest ∧ ρ = [some (.str t), some (.int n), x] ∧ H' = H ∧ cntF n rest = cntF 0 t
theorem counted_ok (G : GoodB B) (GT : GoodT B T) (F : FnAt B "_law_counted" p_law_counted 1 [] v_law_counted m_law_counted)
    (W : Con B d "_law_WORTH" [] (.dct worthK worthV)) {t : List Nat} (ht : t ≠ []) :
    Con B (d + 1) "_law_counted" [.str t] (.int (cntV t)) := by
  refine conDef G GT F rfl fun H => for_mk (cntI t H) ⟨t, 0, none, rfl, rfl, rfl, rfl⟩ ?_ ?_
  · rintro x r ρ H' ⟨rest, n, y, hx, rfl, rfl, he⟩
    cases rest with
    | nil => cases hx
    | cons c rest =>
      obtain ⟨rfl, rfl⟩ := List.cons.inj hx
      rw [cntF] at he
      refine W.run (tst_iff (worth_mem c) (fun h => ⟨rfl, W.run ⟨_, worth_get h, rest, 10 * n + (hexV c).getD 0, _, rfl, rfl, rfl, ?_⟩⟩) (fun h => ⟨rest, n, _, rfl, rfl, rfl, ?_⟩))
      · rw [if_pos h] at he; exact he
      · rw [h] at he; exact he
  · rintro ρ H' ⟨rest, n, y, hx, rfl, rfl, he⟩
    cases rest with
    | cons c r => cases hx
    | nil =>
      cases t with
      | nil => exact absurd rfl ht
      | cons c0 t =>
        have he2 : n = cntF 0 (c0 :: t) := he
        refine ⟨c0, rfl, tst_both (fun h => ⟨?_, rfl⟩) (fun h => ⟨?_, rfl⟩)⟩
        · unfold cntV; rw [← he2, List.head?_cons, if_pos (congrArg some (cons1 h))]
        · unfold cntV; rw [← he2, List.head?_cons, if_neg (fun e => h (by rw [Option.some.inj e]))]
end Mine
end

section
set_option tactic.hygienic false
set_option maxRecDepth 10000
set_option backward.match.sparseCases false
set_option genInjectivity false
set_option genSizeOf false
namespace Mine
open PySem PySem.W
variable {B : Base} {T : Tab} {d : Nat}

noncomputable def escLaw (r : List Nat) : Nat × Nat :=
  if 0 < hexRun 6 r then (if (0 < hexNum (r.take (hexRun 6 r)) ∧ hexNum (r.take (hexRun 6 r)) < 55296) ∨ (57343 < hexNum (r.take (hexRun 6 r)) ∧ hexNum (r.take (hexRun 6 r)) < 1114112) then hexNum (r.take (hexRun 6 r)) else 65533,
    if blankAt r (hexRun 6 r) then hexRun 6 r + 1 else hexRun 6 r)
  else match r with
    | c :: _ => (c, 1)
    | [] => (65533, 0)
noncomputable def atomAt (s : List Nat) (p : Nat) : Atom × Nat := match s[p]? with
  | none => ((0, 0, 0), p)
  | some c => if c = 92 then (match s[p + 1]? with
      | none => ((1114113, 65533, p), p + 1)
      | some y => if y = 10 then ((92, 92, p), p + 1) else ((1114112, (escLaw (s.drop (p + 1))).1, p), p + 1 + (escLaw (s.drop (p + 1))).2))
    else ((c, c, p), p + 1)
noncomputable def foldA (s : List Nat) : Nat → Nat → List Atom
  | 0, _ => []
  | k + 1, p => if p < s.length then (atomAt s p).1 :: foldA s k (atomAt s p).2 else []
noncomputable def atPV (a : Atom) : PV := .tup [.str (mkN a.1), .str [a.2.1], .int a.2.2]
theorem hexNum_snoc (l : List Nat) (c : Nat) : hexNum (l ++ [c]) = 16 * hexNum l + (hexV c).getD 0 := by
  simp [hexNum, List.foldl_append, Nat.mul_comm]
theorem hexRun_zero (k : Nat) {s : List Nat} {p : Nat} (h : s[p]? = none) : hexRun k (s.drop p) = 0 := by
  rw [drop_none h]; cases k <;> rfl
noncomputable def figI (s : List Nat) (a : Addr) (p : Nat) (mk sg : Option PV) (H : AH) (m : Nat) (ρ : Loc) (H' : AH) : Prop :=
  ∃ e, ρ = [some (.lst (one1 s)), some (.ref a), some (.int (p + 1 + e : Nat)), some (.int p), mk, sg, some (.int (hexNum ((s.drop (p + 1)).take e) : Nat)), some (.int (e : Nat))] ∧ H' = H ∧ e ≤ 6 ∧ e + hexRun (6 - e) (s.drop (p + 1 + e)) = hexRun 6 (s.drop (p + 1)) ∧ m = 6 - e
theorem take_next {s : List Nat} {p e c : Nat} (hc : s[p + 1 + e]? = some c) : (s.drop (p + 1)).take (e + 1) = (s.drop (p + 1)).take e ++ [c] := by
  have := take_snoc (s := s) (a := p + 1) (p := p + 1 + e) hc (Nat.le_add_right _ _)
  rw [Nat.add_assoc (p + 1) e 1, Nat.add_sub_cancel_left, Nat.add_sub_cancel_left] at this
  exact this
theorem lt1_no {s : List Nat} {a : Nat} (h : s[a]? = none) : ¬ (a : Int) < ((one1 s).length : Int) := by rw [one1_len]; exact lt_no h
theorem lt1_yes {s : List Nat} {a c : Nat} (h : s[a]? = some c) : (a : Int) < ((one1 s).length : Int) := by rw [one1_len]; exact lt_yes h
theorem fig_loop (W : Con B d "_law_WORTH" [] (.dct worthK worthV)) {s : List Nat} {a : Addr} {p : Nat} {mk sg : Option PV} {H : AH} {Q : KS}
    (hq : ∀ e, e = hexRun 6 (s.drop (p + 1)) → Q .next [some (.lst (one1 s)), some (.ref a), some (.int (p + 1 + e : Nat)), some (.int p), mk, sg, some (.int (hexNum ((s.drop (p + 1)).take e) : Nat)), some (.int (e : Nat))] H) :
    vcS B T d w_law_folded_1 Q [some (.lst (one1 s)), some (.ref a), some (.int (p + 1 : Nat)), some (.int p), mk, sg, some (.int 0), some (.int 0)] H := by
  refine wh_mk (figI s a p mk sg H) 6 ⟨0, rfl, rfl, Nat.zero_le _, Nat.zero_add _, rfl⟩ ?_
  rintro m ρ H' ⟨e, rfl, rfl, he6, he, rfl⟩
  by_cases h6 : e < 6
  · refine tst_pos (Int.ofNat_lt.mpr h6) ?_
    obtain ⟨k, hk⟩ : ∃ k, 6 - e = k + 1 := ⟨5 - e, by lia⟩
    rw [hk] at he
    cases hc : s[p + 1 + e]? with
    | none =>
      rw [hexRun_zero _ hc] at he
      exact tst_neg (lt1_no hc) (tst_dF (hq e he))
    | some c =>
      rw [drop_get hc, hexRun] at he
      refine tst_pos (lt1_yes hc) ⟨_, one1_get hc, W.run (tst_iff (worth_mem c) (fun hx => tst_dT ⟨rfl, W.run ⟨_, one1_get hc, _, worth_get hx, 6 - (e + 1), by lia, e + 1, ?_, rfl, h6, ?_, rfl⟩⟩) (fun hx => tst_dF (hq e ?_)))⟩
      · rw [take_next hc, hexNum_snoc]; rfl
      · rw [if_pos hx] at he
        rw [← he, show 6 - (e + 1) = k by lia]; exact Nat.succ_add_eq_add_succ ..
      · rw [hx] at he; exact he
  · rw [show 6 - e = 0 by lia] at he
    exact tst_neg (fun h => h6 (Int.ofNat_lt.mp h)) (tst_dF (hq e he))

noncomputable def blkS : MS := .ite (.bop .And [(.cmp .Lt (.var 2) (.bi .len [(.var 0)])), (.cmp .In (.idx (.var 0) (.var 2)) (.call "_law_BLANKS" []))]) [.aug 2 .Add (.const (.int 1))] []
theorem bl_iff {c : Nat} : ([c] ∈ ([[32], [9], [10]] : List (List Nat))) ↔ decide (c ∈ [32, 10, 9]) = true :=
  (mem_one (l := [32, 9, 10])).trans (mem_below (p := fun c => decide (c ∈ [32, 10, 9])) (by decide) (by decide) (fun c h => decide_eq_false (fun k => by
    rcases List.mem_cons.mp k with k | k
    · lia
    · rcases List.mem_cons.mp k with k | k
      · lia
      · cases List.mem_singleton.mp k; lia)) c)
theorem blk_ok (BL : Con B d "_law_BLANKS" [] (.lst (chPV [[32], [9], [10]]))) {s : List Nat} {a : Addr} {p e v : Nat} {mk x6 x7 : Option PV} {H : AH} {Q : KS}
    (hq : Q .next [some (.lst (one1 s)), some (.ref a), some (.int (p + 1 + (if blankAt (s.drop (p + 1)) e then e + 1 else e) : Nat)), some (.int p), mk, some (.str [v]), x6, x7] H) :
    vcSs B T d [blkS] Q [some (.lst (one1 s)), some (.ref a), some (.int (p + 1 + e : Nat)), some (.int p), mk, some (.str [v]), x6, x7] H := by
  rw [blankAt_drop] at hq
  cases hc : s[p + 1 + e]? with
  | none =>
    have : blankAt s (p + 1 + e) = false := by unfold blankAt; rw [hc]
    rw [this] at hq
    exact tst_neg (lt1_no hc) (tst_dF hq)
  | some c =>
    have hb : blankAt s (p + 1 + e) = decide (c ∈ [32, 10, 9]) := by unfold blankAt; rw [hc]
    rw [hb] at hq
    refine tst_pos (lt1_yes hc) ⟨_, one1_get hc, BL.run (tst_iff bl_iff (fun h => tst_dT ?_) (fun h => tst_dF ?_))⟩
    · rw [h] at hq; exact hq
    · rw [h] at hq; exact hq
theorem esc_tail (BL : Con B d "_law_BLANKS" [] (.lst (chPV [[32], [9], [10]]))) {s : List Nat} {a : Addr} {p e y : Nat} {mk sg : Option PV} {H : AH} {Q : KS}
    (hE : e = hexRun 6 (s.drop (p + 1))) (hy : s[p + 1]? = some y)
    (hq : ∀ (v n : Nat) (x6 x7 : Option PV), escLaw (s.drop (p + 1)) = (v, n) → Q .next [some (.lst (one1 s)), some (.ref a), some (.int (p + 1 + n : Nat)), some (.int p), mk, some (.str [v]), x6, x7] H) :
    vcSs B T d r_law_folded_1 Q [some (.lst (one1 s)), some (.ref a), some (.int (p + 1 + e : Nat)), some (.int p), mk, sg, some (.int (hexNum ((s.drop (p + 1)).take e) : Nat)), some (.int (e : Nat))] H := by
  by_cases h0 : e = 0
  · subst h0
    refine tst_pos rfl ⟨_, one1_get hy, hq y 1 _ _ ?_⟩
    unfold escLaw
    rw [← hE, if_neg (Nat.lt_irrefl 0), drop_get hy]
  have hv : ∀ v, v = (if (0 < hexNum ((s.drop (p + 1)).take e) ∧ hexNum ((s.drop (p + 1)).take e) < 55296) ∨ (57343 < hexNum ((s.drop (p + 1)).take e) ∧ hexNum ((s.drop (p + 1)).take e) < 1114112) then hexNum ((s.drop (p + 1)).take e) else 65533) → escLaw (s.drop (p + 1)) = (v, if blankAt (s.drop (p + 1)) e then e + 1 else e) := by
    intro v h
    unfold escLaw
    rw [← hE, if_pos (Nat.pos_of_ne_zero h0), h]
  generalize hexNum ((s.drop (p + 1)).take e) = N at *
  have bl : ∀ v, v = (if (0 < N ∧ N < 55296) ∨ (57343 < N ∧ N < 1114112) then N else 65533) → vcSs B T d [blkS] (kseq (vcSs B T d []) Q) [some (.lst (one1 s)), some (.ref a), some (.int (p + 1 + e : Nat)), some (.int p), mk, some (.str [v]), some (.int (N : Nat)), some (.int (e : Nat))] H :=
    fun v h => blk_ok BL (hq v _ _ _ (hv v h))
  refine tst_neg (ne_nat h0) (tst_rng (p := (0 : Int) < N) (q := (N : Int) < 55296) (fun h => tst_dT ⟨?_, bl N ?_⟩) (fun h1 => tst_rng (p := (57343 : Int) < N) (q := (N : Int) < 1114112) (fun h => tst_dT ⟨Int.ofNat_lt.mp h.2, bl N ?_⟩) (fun h2 => tst_dF (bl 65533 ?_))))
  · exact Nat.lt_trans (Int.ofNat_lt.mp h.2) (by decide)
  · rw [if_pos (.inl ⟨Int.ofNat_lt.mp h.1, Int.ofNat_lt.mp h.2⟩)]
  · rw [if_pos (.inr ⟨Int.ofNat_lt.mp h.1, Int.ofNat_lt.mp h.2⟩)]
  · rw [if_neg (fun k => k.elim (fun k => h1 ⟨Int.ofNat_lt.mpr k.1, Int.ofNat_lt.mpr k.2⟩) (fun k => h2 ⟨Int.ofNat_lt.mpr k.1, Int.ofNat_lt.mpr k.2⟩))]
theorem foldA_end {s : List Nat} {k p : Nat} (h : ¬ p < s.length) : foldA s k p = [] := by
  cases k with
  | zero => rfl
  | succ k => rw [foldA, if_neg h]
noncomputable def foldI (s : List Nat) (H : AH) (a : Addr) (m : Nat) (ρ : Loc) (H' : AH) : Prop :=
  ∃ (p : Nat) (done : List Atom) (k : Nat) (x3 x4 x5 x6 x7 : Option PV), ρ = [some (.lst (one1 s)), some (.ref a), some (.int (p : Nat)), x3, x4, x5, x6, x7] ∧ H' = H.upd a (.list (done.map atPV)) ∧ s.length - p ≤ k ∧ done.length ≤ 100000 - (s.length - p) ∧ done ++ foldA s k p = foldA s s.length 0 ∧ m = s.length - p
theorem folded_ok (G : GoodB B) (GT : GoodT B T) (F : FnAt B "_law_folded" p_law_folded 1 [] v_law_folded m_law_folded)
    (W : Con B d "_law_WORTH" [] (.dct worthK worthV)) (BL : Con B d "_law_BLANKS" [] (.lst (chPV [[32], [9], [10]]))) {s : List Nat} (hL : s.length ≤ 100000) (hs : ∀ c ∈ s, c < 1114112) :
    Con B (d + 1) "_law_folded" [.lst (one1 s)] (.lst ((foldA s s.length 0).map atPV)) := by
  refine conDef G GT F rfl fun H a ha => ?_
  generalize hR : foldA s s.length 0 = R
  refine wh_mk (foldI s H a) s.length ⟨0, [], s.length, none, none, none, none, none, rfl, rfl, Nat.le_refl _, Nat.zero_le _, rfl, rfl⟩ ?_
  rintro m ρ H' ⟨p, done, k, x3, x4, x5, x6, x7, rfl, rfl, hk, hd, he, rfl⟩
  cases hc : s[p]? with
  | none =>
    rw [foldA_end (Nat.not_lt.mpr (get_ge hc)), List.append_nil, hR] at he
    subst he
    exact tst_neg (lt1_no hc) ⟨_, upd_self .., rfl, del_upd ha _⟩
  | some c =>
    have hlt := get_lt hc
    obtain ⟨k, rfl⟩ : ∃ k', k = k' + 1 := ⟨k - 1, by lia⟩
    rw [foldA, if_pos hlt] at he
    have fin : ∀ (code sg p' : Nat) (x6 x7 : Option PV), atomAt s p = ((code, sg, p), p') → p < p' → vcSs B T d r_law_folded_2 (kwhb (foldI s H a) (s.length - p) (kseq (vcSs B T d r_law_folded_3) (isRet (.lst (R.map atPV)) H))) [some (.lst (one1 s)), some (.ref a), some (.int (p' : Nat)), some (.int (p : Nat)), some (.str (mkN code)), some (.str [sg]), x6, x7] (H.upd a (.list (done.map atPV))) := by
      intro code sg p' x6 x7 h hp
      rw [h] at he
      refine ⟨⟨_, upd_self ..⟩, app_mk (upd_self ..) (by rw [List.length_map]; lia) ⟨rfl, s.length - p', by lia, p', done ++ [(code, sg, p)], k, _, _, _, _, _, rfl, ?_, by lia, ?_, ?_, rfl⟩⟩
      · rw [upd_upd, List.map_append]; rfl
      · rw [List.length_append, List.length_singleton]; lia
      · rw [← he, List.append_assoc]; rfl
    have c0 : c < 1114112 := hs c (List.mem_of_getElem? hc)
    refine tst_pos (lt1_yes hc) ⟨_, one1_get hc, ?_⟩
    unfold atomAt at fin
    rw [hc] at fin
    dsimp only at fin
    by_cases h92 : c = 92
    · subst h92
      rw [if_pos rfl] at fin
      refine tst_pos rfl ?_
      cases hy : s[p + 1]? with
      | none =>
        rw [hy] at fin
        have hl : ((p + 1 : Nat) : Int) = ((one1 s).length : Int) := by rw [one1_len, Nat.le_antisymm (get_ge hy) hlt]
        exact tst_pos hl (fin 1114113 65533 (p + 1) _ _ rfl (Nat.lt_succ_self p))
      | some y =>
        rw [hy] at fin
        dsimp only at fin
        refine tst_neg (fun e => lt1_yes hy |> fun h => absurd h (by rw [show ((p + 1 : Nat) : Int) = ((one1 s).length : Int) from e]; exact Int.lt_irrefl _)) ⟨_, one1_get hy, ?_⟩
        by_cases hn : y = 10
        · rw [if_pos hn] at fin
          exact tst_neg (fun h => h (by rw [hn])) (fin 92 92 (p + 1) _ _ rfl (Nat.lt_succ_self p))
        · rw [if_neg hn] at fin
          exact tst_pos (fun h => hn (cons1 h)) (fig_loop W fun e hE => seq_next (vr := vcSs B T d r_law_folded_1) (esc_tail BL hE hy fun v n x6 x7 h => fin 1114112 v (p + 1 + n) x6 x7 (by rw [h]) (by lia)))
    · rw [if_neg h92] at fin
      have := fin c c (p + 1) x6 x7 rfl (Nat.lt_succ_self p)
      rw [show mkN c = [c] by unfold mkN; rw [if_neg (by lia), if_neg (by lia)]] at this
      exact tst_neg (fun h => h92 (cons1 h)) this

theorem sOf_injL {l : List (List Nat)} (h : l.Nodup) : (l.map sOf).Nodup := List.Pairwise.map sOf (fun a b hab e => hab (sOf_inj e)) h
theorem worth_ok (G : GoodB B) (GT : GoodT B T) (F : FnAt B "_law_WORTH" p_law_WORTH 0 [] v_law_WORTH m_law_WORTH) : Con B (d + 1) "_law_WORTH" [] (.dct worthK worthV) := by
  refine conDef G GT F rfl fun H => ⟨worthV, rfl, ⟨by decide, by decide⟩, sOf_injL (by decide), ?_, rfl, rfl⟩
  intro k hk
  simp only [List.mem_cons, List.not_mem_nil, or_false] at hk
  rcases hk with rfl | rfl | rfl | rfl | rfl | rfl | rfl | rfl | rfl | rfl | rfl | rfl | rfl | rfl | rfl | rfl | rfl | rfl | rfl | rfl | rfl | rfl <;> rfl
end Mine
end

section
set_option tactic.hygienic false
set_option maxRecDepth 10000
set_option backward.match.sparseCases false
set_option genInjectivity false
set_option genSizeOf false
namespace Mine
open PySem PySem.W
variable {B : Base} {T : Tab} {d : Nat}

noncomputable def rowPV (pl : PV) : TK → PV
  | .ws v => .tup [.str [119, 104, 105, 116, 101, 115, 112, 97, 99, 101], pl, .str v]
  | .lit v => .tup [.str [108, 105, 116, 101, 114, 97, 108], pl, .str v]
  | .ident v => .tup [.str [105, 100, 101, 110, 116], pl, .str v]
  | .at_ v => .tup [.str [97, 116, 45, 107, 101, 121, 119, 111, 114, 100], pl, .str v]
  | .hash v b => .tup [.str [104, 97, 115, 104], pl, .tup [.str v, .bool b]]
  | .str v _ => .tup [.str [115, 116, 114, 105, 110, 103], pl, .str v]
  | .num r iv => .tup [.str [110, 117, 109, 98, 101, 114], pl, .tup [.str r, ivPV iv]]
  | .pct r iv => .tup [.str [112, 101, 114, 99, 101, 110, 116, 97, 103, 101], pl, .tup [.str r, ivPV iv]]
  | .dim r iv u => .tup [.str [100, 105, 109, 101, 110, 115, 105, 111, 110], pl, .tup [.str r, ivPV iv, .str u]]
  | .err k => .tup [.str [101, 114, 114, 111, 114], pl, errK k]

noncomputable def valsOf (as : List Atom) (i j : Nat) : List Nat := ((as.drop i).take (j - i)).map (·.2.1)
noncomputable def nmW : List (List Nat) := [S_start, S_figure, S_hyphen]
noncomputable def nmRun (as : List Atom) (i : Nat) : Nat := runL nmW ((partsA as).drop i)
noncomputable def rdQuo (t : List Nat × List Nat × Nat) : List TK × Nat :=
  ((if t.1 = S_bad then [] else [.str t.2.1 []]) ++ (if t.1 = [] then [] else [.err (if t.1 = S_eof then 1 else 2)]), t.2.2)
noncomputable def rdNum (as : List Atom) (i e : Nat) (whole : Bool) : List TK × Nat :=
  if startsL ((partsA as).drop e) then ([.dim (valsOf as i e) (if whole then some (cntV (valsOf as i e)) else none) (valsOf as e (e + nmRun as e))], e + nmRun as e)
  else if (codesA as)[e]? = some 37 then ([.pct (valsOf as i e) (if whole then some (cntV (valsOf as i e)) else none)], e + 1)
  else ([.num (valsOf as i e) (if whole then some (cntV (valsOf as i e)) else none)], e)
noncomputable def rdStep (as : List Atom) (i : Nat) : List TK × Nat :=
  match (codesA as)[i]? with
  | none => ([], i + 1)
  | some n =>
    if isBl n then ([.ws (valsOf as i (i + wsRun ((codesA as).drop i)))], i + wsRun ((codesA as).drop i))
    else if n = 45 ∧ (codesA as)[i + 1]? = some 45 ∧ (codesA as)[i + 2]? = some 62 then ([.lit [45, 45, 62]], i + 3)
    else if startsL ((partsA as).drop i) then ([.ident (valsOf as i (i + nmRun as i))], i + nmRun as i)
    else if i < (numLaw (codesA as) i).1 then rdNum as i (numLaw (codesA as) i).1 (numLaw (codesA as) i).2
    else if n = 64 ∧ startsL ((partsA as).drop (i + 1)) = true then ([.at_ (valsOf as (i + 1) (i + 1 + nmRun as (i + 1)))], i + 1 + nmRun as (i + 1))
    else if n = 35 ∧ 0 < nmRun as (i + 1) then ([.hash (valsOf as (i + 1) (i + 1 + nmRun as (i + 1))) (startsL ((partsA as).drop (i + 1)))], i + 1 + nmRun as (i + 1))
    else if n = 34 ∨ n = 39 then rdQuo (quA n (as.drop (i + 1)) false [] (i + 1))
    else ([.lit (mkN n)], i + 1)

noncomputable def rdAt (as : List Atom) (i n : Nat) : List TK × Nat :=
    if isBl n then ([.ws (valsOf as i (i + wsRun ((codesA as).drop i)))], i + wsRun ((codesA as).drop i))
    else if n = 45 ∧ (codesA as)[i + 1]? = some 45 ∧ (codesA as)[i + 2]? = some 62 then ([.lit [45, 45, 62]], i + 3)
    else if startsL ((partsA as).drop i) then ([.ident (valsOf as i (i + nmRun as i))], i + nmRun as i)
    else if i < (numLaw (codesA as) i).1 then rdNum as i (numLaw (codesA as) i).1 (numLaw (codesA as) i).2
    else if n = 64 ∧ startsL ((partsA as).drop (i + 1)) = true then ([.at_ (valsOf as (i + 1) (i + 1 + nmRun as (i + 1)))], i + 1 + nmRun as (i + 1))
    else if n = 35 ∧ 0 < nmRun as (i + 1) then ([.hash (valsOf as (i + 1) (i + 1 + nmRun as (i + 1))) (startsL ((partsA as).drop (i + 1)))], i + 1 + nmRun as (i + 1))
    else if n = 34 ∨ n = 39 then rdQuo (quA n (as.drop (i + 1)) false [] (i + 1))
    else ([.lit (mkN n)], i + 1)

structure ReadEnv (B : Base) (d : Nat) : Prop where
  run : ∀ {pl ws : List (List Nat)} {at_ : Nat}, Con B d "_law_run" [.lst (chPV pl), .int at_, .lst (chPV ws)] (.int (at_ + runL ws (pl.drop at_) : Nat))
  sta : ∀ {pl : List (List Nat)} {at_ : Nat}, Con B d "_law_starts" [.lst (chPV pl), .int at_] (.bool (startsL (pl.drop at_)))
  num : ∀ {as : List Atom} {at_ : Nat}, at_ < as.length → Con B d "_law_number" [.lst (chPV (marksA as)), .lst (chPV (partsA as)), .int at_] (.tup [.int (numLaw (codesA as) at_).1, .bool (numLaw (codesA as) at_).2])
  cnt : ∀ {t : List Nat}, t ≠ [] → Con B d "_law_counted" [.str t] (.int (cntV t))
  quo : ∀ {as : List Atom} {at_ q v0 b0 : Nat}, as[at_]? = some (q, v0, b0) → q < 128 → as.length ≤ 10000 →
    Con B d "_law_quoted" [.lst (chPV (marksA as)), .lst (chPV (valsA as)), .int at_] (tri (quA q (as.drop (at_ + 1)) false [] (at_ + 1)))
  bl : Con B d "_law_BLANKS" [] (.lst (chPV [[32], [9], [10]]))
  nam : GlobIs B "_law_NAME" (.lst [.str [115, 116, 97, 114, 116], .str [102, 105, 103, 117, 114, 101], .str [104, 121, 112, 104, 101, 110]])

theorem rdStep_at {as : List Atom} {i n v b : Nat} (h : as[i]? = some (n, v, b)) : rdStep as i = rdAt as i n := by
  unfold rdStep; rw [codesA_get, h]; rfl
theorem mk_bl (n : Nat) : mkN n ∈ ([[32], [9], [10]] : List (List Nat)) ↔ isBl n = true := by
  rw [List.mem_cons, List.mem_cons, List.mem_singleton, mkN_one n 32 (by decide), mkN_one n 9 (by decide), mkN_one n 10 (by decide)]
  unfold isBl
  rw [decide_eq_true_eq, List.mem_cons, List.mem_cons, List.mem_singleton]
  exact ⟨fun h => by lia, fun h => by lia⟩
theorem flat_vals : ∀ l : List Atom, (l.map fun a => [a.2.1]).flatten = l.map (·.2.1)
  | [] => rfl
  | a :: r => by rw [List.map_cons, List.flatten_cons, flat_vals r]; rfl
theorem vals_j {as : List Atom} {i n : Nat} {k : PV → Prop} (h : as.length ≤ 10000) (q : k (.str (((as.drop i).take n).map (·.2.1)))) :
    ∃ l, allStr (((chPV (valsA as)).drop i).take n) = some l ∧ l.flatten.length ≤ 16777216 ∧ k (.str l.flatten) := by
  have e : ((valsA as).drop i).take n = ((as.drop i).take n).map fun a => [a.2.1] := by unfold valsA; rw [← List.map_drop, ← List.map_take]
  rw [chPV_slice, e]
  refine ⟨_, allStr_chPV _, ?_, ?_⟩
  · rw [flat_vals, List.length_map, List.length_take, List.length_drop]; lia
  · rw [flat_vals]; exact q
theorem Con.runG {nm : Str} {vs : List PV} {r : PV} {H : AH} {Q : KE} {g : Prop} (h : Con B d nm vs r) (hg : g) (q : Q r H) : (∃ fv, B.mg nm = some fv ∧ KeepOk B fv) ∧ g ∧ calB B d nm vs Q H := ⟨h.b, hg, h.use q⟩
theorem marks3 (as : List Atom) (i : Nat) : ((marksA as).drop i).take (i + 3 - i) = [[45], [45], [62]] ↔ (codesA as)[i]? = some 45 ∧ (codesA as)[i + 1]? = some 45 ∧ (codesA as)[i + 2]? = some 62 := by
  rw [Nat.add_sub_cancel_left, codesA_get, codesA_get, codesA_get]
  have no : ∀ {k : Nat}, as[k]? = none → (marksA as).drop k = [] := fun h => drop_none (by unfold marksA; rw [List.getElem?_map, h]; rfl)
  cases h : as[i]? with
  | none => rw [no h]; exact ⟨fun h => (nomatch h), fun h => (nomatch h.1)⟩
  | some a =>
    rw [drop_get (marksA_get h)]
    cases h' : as[i + 1]? with
    | none => rw [no h']; exact ⟨fun h => absurd (show (1 : Nat) = 3 from congrArg List.length h) (show ¬ (1 : Nat) = 3 by decide), fun h => (nomatch h.2.1)⟩
    | some b =>
      rw [drop_get (marksA_get h')]
      cases h'' : as[i + 2]? with
      | none => rw [no (k := i + 1 + 1) h'']; exact ⟨fun h => absurd (show (2 : Nat) = 3 from congrArg List.length h) (show ¬ (2 : Nat) = 3 by decide), fun h => (nomatch h.2.2)⟩
      | some c =>
        rw [drop_get (s := marksA as) (a := i + 1 + 1) (marksA_get h'')]
        constructor
        · intro e
          obtain ⟨e1, e⟩ := List.cons.inj e
          obtain ⟨e2, e⟩ := List.cons.inj e
          have e3 := (List.cons.inj e).1
          exact ⟨congrArg some ((mkN_one _ _ (by decide)).mp e1), congrArg some ((mkN_one _ _ (by decide)).mp e2), congrArg some ((mkN_one _ _ (by decide)).mp e3)⟩
        · rintro ⟨e1, e2, e3⟩
          show mkN a.1 :: mkN b.1 :: mkN c.1 :: [] = _
          rw [show a.1 = 45 from Option.some.inj e1, show b.1 = 45 from Option.some.inj e2, show c.1 = 62 from Option.some.inj e3]; rfl
theorem quA_fault (q : Nat) : ∀ (as : List Atom) (f : Bool) (acc : List Nat) (p : Nat), (quA q as f acc p).1 = [] ∨ (quA q as f acc p).1 = S_bad ∨ (quA q as f acc p).1 = S_eof
  | [], _, acc, p => .inr (.inr rfl)
  | _ :: r, true, acc, p => quA_fault q r false acc p
  | (m, v, b) :: r, false, acc, p => by
    rw [quA]
    split
    · exact .inl rfl
    · split
      · exact .inr (.inl rfl)
      · split
        · exact quA_fault q r true acc _
        · split <;> exact quA_fault q r false _ _
section
variable {as : List Atom} {i n v b q : Nat} {l : Addr} {rows : List PV} {ts : List TK} {pl : PV} {Q : KS} {H : AH} {a0 a1 a2 a3 : Option PV}
noncomputable def Rd (as : List Atom) (l : Addr) (a0 a1 a2 a3 : Option PV) (i : Nat) (ρ : Loc) : Prop :=
  ∃ a9 a10 a11 a12 a13 a14 a15 a16 : Option PV, ρ = [a0, a1, a2, a3, some (.lst (chPV (marksA as))), some (.lst (chPV (valsA as))), some (.lst (chPV (partsA as))), some (.ref l), some (.int i), a9, a10, a11, a12, a13, a14, a15, a16]
theorem rd_ws (E : ReadEnv B d) {k : Nat} {a9 a10 a11 a12 a13 a14 a15 a16 : Option PV}
    (hq : Q .next [a0, a1, a2, a3, some (.lst (chPV (marksA as))), some (.lst (chPV (valsA as))), some (.lst (chPV (partsA as))), some (.ref l), some (.int (k + wsRun ((codesA as).drop k) : Nat)), a9, a10, a11, a12, a13, a14, a15, a16] H) :
    vcS B T d w_law_read_1 Q [a0, a1, a2, a3, some (.lst (chPV (marksA as))), some (.lst (chPV (valsA as))), some (.lst (chPV (partsA as))), some (.ref l), some (.int (k : Nat)), a9, a10, a11, a12, a13, a14, a15, a16] H := by
  generalize hr : k + wsRun ((codesA as).drop k) = r at hq
  refine wh_mk (fun n ρ' H' => ∃ e, ρ' = [a0, a1, a2, a3, some (.lst (chPV (marksA as))), some (.lst (chPV (valsA as))), some (.lst (chPV (partsA as))), some (.ref l), some (.int (k + e : Nat)), a9, a10, a11, a12, a13, a14, a15, a16] ∧ H' = H ∧ k + e + wsRun ((codesA as).drop (k + e)) = r ∧ n = as.length - (k + e)) (as.length - k) ⟨0, rfl, rfl, hr, rfl⟩ ?_
  rintro n ρ' H' ⟨e, rfl, rfl, he, rfl⟩
  cases hg : as[k + e]? with
  | none =>
    rw [codesA_drop, drop_none hg] at he
    replace he : k + e = r := he
    subst he
    exact tst_neg (lt_asn hg) (tst_dF hq)
  | some a =>
    have hc : (codesA as)[k + e]? = some a.1 := by rw [codesA_get, hg]; rfl
    rw [drop_get hc, wsRun] at he
    refine tst_pos (lt_as hg) ⟨_, mget hg, E.bl.run (tst_iff (mk_bl a.1) (fun h => tst_dT ?_) (fun h => tst_dF ?_))⟩
    · rw [if_pos h] at he
      exact ⟨_, meas (get_lt hg), e + 1, rfl, rfl, (Nat.succ_add_eq_add_succ ..).trans he, rfl⟩
    · rw [h] at he
      replace he : k + e = r := he
      subst he
      exact hq
theorem rd_run (E : ReadEnv B d) (p : Nat) : Con B d "_law_run" [.lst (chPV (partsA as)), .int p, .lst [.str [115, 116, 97, 114, 116], .str [102, 105, 103, 117, 114, 101], .str [104, 121, 112, 104, 101, 110]]] (.int (p + nmRun as p : Nat)) :=
  E.run (pl := partsA as) (ws := nmW) (at_ := p)
theorem rd_num2 (E : ReadEnv B d) {e : Nat} (hL : as.length ≤ 10000) (hget : H l = some (.list rows)) (hr : rows.length ≤ 1000000) {whole : Bool} {w : Option Int} (hw : (if whole then some (cntV (valsOf as i e)) else none) = w)
    (hS : rdNum as i e whole = (ts, q)) (hq : ∀ ρ' H', Rd as l a0 a1 a2 a3 q ρ' → H' = H.upd l (.list (rows ++ ts.map (rowPV pl))) → Q .next ρ' H') {a10 a15 a16 : Option PV} :
    vcSs B T d (b_law_read_8.drop 3) Q [a0, a1, a2, a3, some (.lst (chPV (marksA as))), some (.lst (chPV (valsA as))), some (.lst (chPV (partsA as))), some (.ref l), some (.int e), some (.int i), a10, some pl, some (.bool whole), some (.str (valsOf as i e)), some (ivPV w), a15, a16] H := by
  unfold rdNum at hS
  rw [hw] at hS
  refine E.sta.run ?_
  cases hs : startsL ((partsA as).drop e) with
  | true =>
    rw [if_pos hs] at hS
    cases hS
    exact tst_t ((rd_run E e).runG E.nam ⟨⟨_, hget⟩, vals_j hL (app_mk hget hr ⟨rfl, hq _ _ ⟨_, _, _, _, _, _, _, _, rfl⟩ rfl⟩)⟩)
  | false =>
    rw [hs, if_neg Bool.false_ne_true] at hS
    refine tst_f ⟨_, eq1 (marksA as) e [37], tst_b (fun h => ?_) (fun h => ?_)⟩
    · rw [if_pos ((marksA_one (by decide)).mp (of_decide_eq_true h))] at hS
      cases hS
      exact ⟨⟨_, hget⟩, app_mk hget hr ⟨rfl, hq _ _ ⟨_, _, _, _, _, _, _, _, rfl⟩ rfl⟩⟩
    · rw [if_neg (fun k => of_decide_eq_false h ((marksA_one (by decide)).mpr k))] at hS
      cases hS
      exact ⟨⟨_, hget⟩, app_mk hget hr ⟨rfl, hq _ _ ⟨_, _, _, _, _, _, _, _, rfl⟩ rfl⟩⟩
theorem rd_num (E : ReadEnv B d) (hL : as.length ≤ 10000) (hlt : i < as.length) (hget : H l = some (.list rows)) (hr : rows.length ≤ 1000000) (hnu : i < (numLaw (codesA as) i).1)
    (hS : rdNum as i (numLaw (codesA as) i).1 (numLaw (codesA as) i).2 = (ts, q)) (hq : ∀ ρ' H', Rd as l a0 a1 a2 a3 q ρ' → H' = H.upd l (.list (rows ++ ts.map (rowPV pl))) → Q .next ρ' H') {a10 a12 a13 a14 a15 a16 : Option PV} :
    vcSs B T d b_law_read_8 Q [a0, a1, a2, a3, some (.lst (chPV (marksA as))), some (.lst (chPV (valsA as))), some (.lst (chPV (partsA as))), some (.ref l), some (.int i), some (.int i), a10, some pl, a12, a13, a14, a15, a16] H := by
  refine (E.num hlt).run ⟨rfl, vals_j hL ?_⟩
  generalize numLaw (codesA as) i = N at *
  obtain ⟨e, whole⟩ := N
  have hne : valsOf as i e ≠ [] := by
    intro h
    have := congrArg List.length h
    unfold valsOf at this
    rw [List.length_map, List.length_take, List.length_drop, List.length_nil] at this
    dsimp only at hnu
    lia
  cases whole with
  | true => exact tst_t ((E.cnt hne).run (rd_num2 E hL hget hr rfl hS hq))
  | false => exact tst_f (rd_num2 E hL hget hr rfl hS hq)
theorem rd_quo (E : ReadEnv B d) (hL : as.length ≤ 10000) (hg : as[i]? = some (n, v, b)) (h15 : n = 34 ∨ n = 39) (hget : H l = some (.list rows)) (hr : rows.length ≤ 900000)
    (hS : rdQuo (quA n (as.drop (i + 1)) false [] (i + 1)) = (ts, q)) (hq : ∀ ρ' H', Rd as l a0 a1 a2 a3 q ρ' → H' = H.upd l (.list (rows ++ ts.map (rowPV pl))) → Q .next ρ' H') {a9 a10 a12 a13 a14 a15 a16 : Option PV} :
    vcSs B T d b_law_read_13 Q [a0, a1, a2, a3, some (.lst (chPV (marksA as))), some (.lst (chPV (valsA as))), some (.lst (chPV (partsA as))), some (.ref l), some (.int i), a9, a10, some pl, a12, a13, a14, a15, a16] H := by
  refine (E.quo hg (by lia) hL).run ⟨rfl, ?_⟩
  have hf := quA_fault n (as.drop (i + 1)) false [] (i + 1)
  generalize quA n (as.drop (i + 1)) false [] (i + 1) = t at *
  obtain ⟨t1, t2, t3⟩ := t
  dsimp only at hf
  rcases hf with rfl | rfl | rfl
  · cases hS
    exact tst_pos (fun h => nomatch h) ⟨⟨_, hget⟩, app_mk hget (by lia) ⟨rfl, tst_neg (fun h => nomatch h) (hq _ _ ⟨_, _, _, _, _, _, _, _, rfl⟩ rfl)⟩⟩
  · cases hS
    exact tst_neg (fun h => h rfl) (tst_pos rfl ⟨⟨_, hget⟩, app_mk hget (by lia) ⟨rfl, hq _ _ ⟨_, _, _, _, _, _, _, _, rfl⟩ rfl⟩⟩)
  · cases hS
    refine tst_pos (show S_eof ≠ S_bad by decide) ⟨⟨_, hget⟩, app_mk hget (by lia) ⟨rfl, tst_pos rfl ⟨⟨_, upd_self ..⟩, app_mk (upd_self ..) (by rw [List.length_append]; show rows.length + 1 ≤ _; lia) ⟨rfl, hq _ _ ⟨_, _, _, _, _, _, _, _, rfl⟩ ?_⟩⟩⟩⟩
    rw [upd_upd, List.append_assoc]; rfl
theorem rd_tail (E : ReadEnv B d) (hL : as.length ≤ 10000) (hg : as[i]? = some (n, v, b)) (hget : H l = some (.list rows)) (hr : rows.length ≤ 900000) (hbl : isBl n = false)
    (hS : rdAt as i n = (ts, q)) (hq : ∀ ρ' H', Rd as l a0 a1 a2 a3 q ρ' → H' = H.upd l (.list (rows ++ ts.map (rowPV pl))) → Q .next ρ' H') {a12 a13 a14 a15 a16 : Option PV} :
    vcSs B T d b_law_read_20 Q [a0, a1, a2, a3, some (.lst (chPV (marksA as))), some (.lst (chPV (valsA as))), some (.lst (chPV (partsA as))), some (.ref l), some (.int i), some (.int i), some (.str (mkN n)), some pl, a12, a13, a14, a15, a16] H := by
  have hlt := get_lt hg
  have hr' : rows.length ≤ 1000000 := by lia
  have hc : (codesA as)[i]? = some n := by rw [codesA_get, hg]; rfl
  unfold rdAt at hS
  rw [hbl, if_neg Bool.false_ne_true] at hS
  have h3 := marks3 as i
  rw [hc] at h3
  refine ⟨_, eqn (marksA as) i (i + 3 - i) [[45], [45], [62]], tst_b (fun h => ?_) (fun h => ?_)⟩
  · have h := h3.mp (of_decide_eq_true h)
    rw [if_pos ⟨Option.some.inj h.1, h.2⟩] at hS
    cases hS
    exact ⟨⟨_, hget⟩, app_mk hget hr' ⟨rfl, hq _ _ ⟨_, _, _, _, _, _, _, _, rfl⟩ rfl⟩⟩
  rw [if_neg (fun k => of_decide_eq_false h (h3.mpr ⟨congrArg some k.1, k.2⟩))] at hS
  refine E.sta.run ?_
  cases hs : startsL ((partsA as).drop i) with
  | true =>
    rw [if_pos hs] at hS
    cases hS
    exact tst_t ((rd_run E i).runG E.nam ⟨⟨_, hget⟩, vals_j hL (app_mk hget hr' ⟨rfl, hq _ _ ⟨_, _, _, _, _, _, _, _, rfl⟩ rfl⟩)⟩)
  | false =>
  rw [hs, if_neg Bool.false_ne_true] at hS
  refine tst_f ((E.num hlt).run ⟨_, rfl, ?_⟩)
  by_cases hnu : i < (numLaw (codesA as) i).1
  · rw [if_pos hnu] at hS
    exact tst_pos (Int.ofNat_lt.mpr hnu) (rd_num E hL hlt hget hr' hnu hS hq)
  rw [if_neg hnu] at hS
  refine tst_neg (fun h => hnu (Int.ofNat_lt.mp h)) ?_
  have t16 : ¬ (n = 64 ∧ startsL ((partsA as).drop (i + 1)) = true) → vcSs B T d b_law_read_16 Q [a0, a1, a2, a3, some (.lst (chPV (marksA as))), some (.lst (chPV (valsA as))), some (.lst (chPV (partsA as))), some (.ref l), some (.int i), some (.int i), some (.str (mkN n)), some pl, a12, a13, a14, a15, a16] H := by
    intro h17
    rw [if_neg h17] at hS
    have t15 : ¬ (n = 35 ∧ 0 < nmRun as (i + 1)) → vcSs B T d b_law_read_15 Q [a0, a1, a2, a3, some (.lst (chPV (marksA as))), some (.lst (chPV (valsA as))), some (.lst (chPV (partsA as))), some (.ref l), some (.int i), some (.int i), some (.str (mkN n)), some pl, a12, a13, a14, a15, a16] H := by
      intro h16
      rw [if_neg h16] at hS
      by_cases h34 : n = 34
      · rw [if_pos (.inl h34)] at hS
        exact tst_pos ((mkN_one n 34 (by decide)).mpr h34) (tst_dT (rd_quo E hL hg (.inl h34) hget hr hS hq))
      refine tst_neg (fun h => h34 ((mkN_one n 34 (by decide)).mp h)) ?_
      by_cases h39 : n = 39
      · rw [if_pos (.inr h39)] at hS
        exact tst_pos ((mkN_one n 39 (by decide)).mpr h39) (tst_dT (rd_quo E hL hg (.inr h39) hget hr hS hq))
      rw [if_neg (fun h => h.elim h34 h39)] at hS
      cases hS
      exact tst_neg (fun h => h39 ((mkN_one n 39 (by decide)).mp h)) (tst_dF ⟨⟨_, hget⟩, app_mk hget hr' ⟨rfl, hq _ _ ⟨_, _, _, _, _, _, _, _, rfl⟩ rfl⟩⟩)
    by_cases h35 : n = 35
    · refine tst_pos ((mkN_one n 35 (by decide)).mpr h35) ((rd_run E (i + 1)).runG E.nam ?_)
      by_cases hp : 0 < nmRun as (i + 1)
      · rw [if_pos ⟨h35, hp⟩] at hS
        cases hS
        exact tst_pos (Int.ofNat_lt.mpr (Nat.lt_add_of_pos_right hp)) (tst_dT ((rd_run E (i + 1)).runG E.nam ⟨⟨_, hget⟩, vals_j hL (E.sta.run (app_mk hget hr' ⟨rfl, hq _ _ ⟨_, _, _, _, _, _, _, _, rfl⟩ rfl⟩))⟩))
      · exact tst_neg (fun h => hp (Nat.lt_add_right_iff_pos.mp (Int.ofNat_lt.mp h))) (tst_dF (t15 fun k => hp k.2))
    · exact tst_neg (fun h => h35 ((mkN_one n 35 (by decide)).mp h)) (tst_dF (t15 fun k => h35 k.1))
  by_cases h64 : n = 64
  · refine tst_pos ((mkN_one n 64 (by decide)).mpr h64) (E.sta.run ?_)
    cases hs2 : startsL ((partsA as).drop (i + 1)) with
    | true =>
      rw [if_pos ⟨h64, hs2⟩] at hS
      cases hS
      exact tst_t (tst_dT ((rd_run E (i + 1)).runG E.nam ⟨⟨_, hget⟩, vals_j hL (app_mk hget hr' ⟨rfl, hq _ _ ⟨_, _, _, _, _, _, _, _, rfl⟩ rfl⟩)⟩))
    | false => exact tst_f (tst_dF (t16 fun k => by rw [hs2] at k; exact nomatch k.2))
  · exact tst_neg (fun h => h64 ((mkN_one n 64 (by decide)).mp h)) (tst_dF (t16 fun k => h64 k.1))
end
end Mine
end

section
set_option tactic.hygienic false
set_option maxRecDepth 10000
set_option backward.match.sparseCases false
set_option genInjectivity false
set_option genSizeOf false
namespace Mine
open PySem PySem.W
variable {B : Base} {T : Tab} {d : Nat}

theorem quA_ge (q : Nat) : ∀ (as : List Atom) (f : Bool) (acc : List Nat) (p : Nat), p ≤ (quA q as f acc p).2.2
  | [], _, acc, p => Nat.le_refl _
  | _ :: r, true, acc, p => quA_ge q r false acc p
  | (m, v, b) :: r, false, acc, p => by
    rw [quA]
    split
    · exact Nat.le_succ p
    · split
      · exact Nat.le_refl p
      · split
        · exact Nat.le_trans (Nat.le_add_right p 2) (quA_ge q r true acc (p + 2))
        · split
          · exact Nat.le_trans (Nat.le_succ p) (quA_ge q r false acc (p + 1))
          · exact Nat.le_trans (Nat.le_succ p) (quA_ge q r false (acc ++ [v]) (p + 1))
set_option tactic.hygienic true in
theorem starts_run {pl : List (List Nat)} (h : startsL pl = true) : 0 < runL nmW pl := by
  unfold startsL at h
  split at h
  · cases h
  · rename_i x r
    rw [runL, if_pos]
    · exact Nat.succ_pos _
    · split at h
      · rename_i hx; subst hx; decide
      · have := of_decide_eq_true h; subst this; decide
theorem rdQuo_len (t : List Nat × List Nat × Nat) : (rdQuo t).1.length ≤ 2 := by
  unfold rdQuo
  rw [List.length_append]
  refine Nat.add_le_add (b := 1) (d := 1) ?_ ?_
  · split
    · exact Nat.zero_le _
    · exact Nat.le_refl _
  · split
    · exact Nat.zero_le _
    · exact Nat.le_refl _
theorem nmA_pos {as : List Atom} {i : Nat} (h : startsL ((partsA as).drop i) = true) : i < i + nmRun as i := Nat.lt_add_of_pos_right (starts_run h)
theorem rdStep_pos {as : List Atom} {i : Nat} (h : i < as.length) : i < (rdStep as i).2 ∧ (rdStep as i).1.length ≤ 2 := by
  obtain ⟨⟨n, v, b⟩, hg⟩ : ∃ a, as[i]? = some a := ⟨_, List.getElem?_eq_getElem h⟩
  have hc : (codesA as)[i]? = some n := by rw [codesA_get, hg]; rfl
  rw [rdStep_at hg]
  unfold rdAt
  split
  · rename_i hb
    refine ⟨Nat.lt_add_of_pos_right ?_, Nat.le_succ 1⟩
    rw [drop_get hc, wsRun, if_pos hb]; exact Nat.succ_pos _
  · split
    · exact ⟨Nat.lt_add_of_pos_right (by decide), Nat.le_succ 1⟩
    · split
      · rename_i hs
        exact ⟨nmA_pos hs, Nat.le_succ 1⟩
      · split
        · rename_i hn
          unfold rdNum
          split
          · exact ⟨Nat.lt_of_lt_of_le hn (Nat.le_add_right _ _), Nat.le_succ 1⟩
          · split
            · exact ⟨Nat.lt_succ_of_lt hn, Nat.le_succ 1⟩
            · exact ⟨hn, Nat.le_succ 1⟩
        · split
          · exact ⟨Nat.lt_of_lt_of_le (Nat.lt_succ_self i) (Nat.le_add_right _ _), Nat.le_succ 1⟩
          · split
            · exact ⟨Nat.lt_of_lt_of_le (Nat.lt_succ_self i) (Nat.le_add_right _ _), Nat.le_succ 1⟩
            · split
              · exact ⟨quA_ge n (as.drop (i + 1)) false [] (i + 1), rdQuo_len _⟩
              · exact ⟨Nat.lt_succ_self i, Nat.le_succ 1⟩
noncomputable def rdRows (as : List Atom) (pls : List (Nat × Nat)) : Nat → Nat → List PV
  | 0, _ => []
  | k + 1, i => if i < as.length then (rdStep as i).1.map (rowPV (plPV (pls.getD ((as.getD i (0, 0, 0)).2.2) (1, 1)))) ++ rdRows as pls k (rdStep as i).2 else []
theorem rdRows_end {as : List Atom} {pls : List (Nat × Nat)} {k i : Nat} (h : ¬ i < as.length) : rdRows as pls k i = [] := by
  cases k with
  | zero => rfl
  | succ k => rw [rdRows, if_neg h]
theorem mapW_map {α : Type} {f : PV → KE → AH → Prop} {h g : α → PV} : ∀ {l : List α} {xs ys : List PV} {Q : KL} {H : AH}, l.map h = xs → l.map g = ys → (∀ a ∈ l, ∀ (Q : KE) (H : AH), Q (g a) H → f (h a) Q H) → Q ys H → mapW f xs Q H
  | [], _, _, _, _, e', e, _, hq => by subst e'; subst e; exact hq
  | a :: r, _, ys, Q, H, e', e, hf, hq => by
    subst e'; subst e
    exact hf a List.mem_cons_self _ H (mapW_map (ys := r.map g) (Q := fun rs H'' => Q (g a :: rs) H'') rfl rfl (fun b hb => hf b (List.mem_cons_of_mem _ hb)) hq)
theorem foldA_len (s : List Nat) : ∀ (k p : Nat), (foldA s k p).length ≤ k
  | 0, _ => Nat.le_refl _
  | k + 1, p => by
    rw [foldA]
    split
    · exact Nat.succ_le_succ (foldA_len s k (atomAt s p).2)
    · exact Nat.zero_le _
theorem atomAt_beg {s : List Nat} {p : Nat} (h : p < s.length) : (atomAt s p).1.2.2 = p := by
  unfold atomAt
  rw [List.getElem?_eq_getElem h]
  dsimp only
  split
  · split
    · rfl
    · split <;> rfl
  · rfl
theorem foldA_beg (s : List Nat) : ∀ (k p : Nat), ∀ a ∈ foldA s k p, a.2.2 < s.length
  | 0, _, a, h => nomatch h
  | k + 1, p, a, h => by
    rw [foldA] at h
    split at h
    · rename_i hp
      rcases List.mem_cons.mp h with rfl | h
      · rw [atomAt_beg hp]; exact hp
      · exact foldA_beg s k _ a h
    · cases h

noncomputable def readI (as : List Atom) (pls : List (Nat × Nat)) (l : Addr) (a0 a1 a2 a3 : Option PV) (R : List PV) (H : AH) (m : Nat) (ρ : Loc) (H' : AH) : Prop :=
  ∃ (i : Nat) (rows : List PV) (k : Nat), Rd as l a0 a1 a2 a3 i ρ ∧ H' = H.upd l (.list rows) ∧ rows.length ≤ 2 * i ∧ as.length - i ≤ k ∧ rows ++ rdRows as pls k i = R ∧ m = as.length - i
theorem read_loop (E : ReadEnv B d) {as : List Atom} {pls : List (Nat × Nat)} {l : Addr} {a0 a1 : Option PV} {R : List PV} {H : AH} {Q : KS} (hal : as.length ≤ 10000) (hbeg : ∀ a ∈ as, a.2.2 < pls.length)
    (hR : rdRows as pls as.length 0 = R) (hq : ∀ ρ i, Rd as l a0 a1 (some (.lst (pls.map plPV))) (some (.lst (as.map atPV))) i ρ → Q .next ρ (H.upd l (.list R))) {a9 a10 a11 a12 a13 a14 a15 a16 : Option PV} :
    vcS B T d w_law_read_2 Q [a0, a1, some (.lst (pls.map plPV)), some (.lst (as.map atPV)), some (.lst (chPV (marksA as))), some (.lst (chPV (valsA as))), some (.lst (chPV (partsA as))), some (.ref l), some (.int 0), a9, a10, a11, a12, a13, a14, a15, a16] (H.upd l (.list [])) := by
  refine wh_mk (readI as pls l a0 a1 (some (.lst (pls.map plPV))) (some (.lst (as.map atPV))) R H) as.length ⟨0, [], as.length, ⟨_, _, _, _, _, _, _, _, rfl⟩, rfl, Nat.zero_le _, Nat.le_refl _, hR, rfl⟩ ?_
  rintro m ρ H' ⟨i, rows, k, ⟨a9, a10, a11, a12, a13, a14, a15, a16, rfl⟩, rfl, h2, hk, he, rfl⟩
  cases hg : as[i]? with
  | none =>
    rw [rdRows_end (Nat.not_lt.mpr (get_ge hg)), List.append_nil] at he
    subst he
    exact tst_neg (lt_asn hg) (hq _ i ⟨_, _, _, _, _, _, _, _, rfl⟩)
  | some a =>
    obtain ⟨n, v, b⟩ := a
    have hlt := get_lt hg
    have hap : (as.map atPV)[i]? = some (.tup [.str (mkN n), .str [v], .int b]) := by rw [List.getElem?_map, hg]; rfl
    obtain ⟨q, hq'⟩ : ∃ q, pls[b]? = some q := ⟨_, List.getElem?_eq_getElem (hbeg _ (List.mem_of_getElem? hg))⟩
    have hpp : (pls.map plPV)[b]? = some (plPV q) := by rw [List.getElem?_map, hq']; rfl
    obtain ⟨k, rfl⟩ : ∃ k', k = k' + 1 := ⟨k - 1, by lia⟩
    have hpos := rdStep_pos hlt
    have hx : pls.getD ((as.getD i (0, 0, 0)).2.2) (1, 1) = q := by
      rw [List.getD_eq_getElem?_getD, List.getD_eq_getElem?_getD, hg]
      show pls[b]?.getD (1, 1) = q
      rw [hq']; rfl
    rw [rdRows, if_pos hlt, hx] at he
    refine tst_pos (lt_as hg) ⟨_, mget hg, _, hap, _, rfl, _, hpp, ?_⟩
    cases hst : rdStep as i with
    | mk ts q' =>
    rw [hst] at he hpos
    dsimp only at he hpos
    have nx : ∀ ρ' H', Rd as l a0 a1 (some (.lst (pls.map plPV))) (some (.lst (as.map atPV))) q' ρ' → H' = (H.upd l (.list rows)).upd l (.list (rows ++ ts.map (rowPV (plPV q)))) → ∃ m, m < as.length - i ∧ readI as pls l a0 a1 (some (.lst (pls.map plPV))) (some (.lst (as.map atPV))) R H m ρ' H' := by
      intro ρ' H' hρ hH
      refine ⟨as.length - q', by lia, q', _, k, hρ, hH.trans (upd_upd ..), ?_, by lia, ?_, rfl⟩
      · rw [List.length_append, List.length_map]; lia
      · rw [← he, List.append_assoc]
    have hrl : rows.length ≤ 900000 := by lia
    rw [rdStep_at hg] at hst
    refine E.bl.run (tst_iff (mk_bl n) (fun hbl => ?_) (fun hbl => rd_tail E hal hg (upd_self ..) hrl hbl hst nx))
    unfold rdAt at hst
    rw [if_pos hbl] at hst
    cases hst
    exact rd_ws E ⟨⟨_, upd_self ..⟩, vals_j hal (app_mk (upd_self ..) (by lia) ⟨rfl, nx _ _ ⟨_, _, _, _, _, _, _, _, rfl⟩ rfl⟩)⟩
theorem read_ok (G : GoodB B) (GT : GoodT B T) (F : FnAt B "_law_read" p_law_read 1 [] v_law_read m_law_read) (E : ReadEnv B d)
    (mend : ∀ {t : List Nat}, t.length ≤ 100000 → Con B d "_law_mended" [.str t] (.lst (one1 (mendF false t))))
    (plac : ∀ {t : List Nat}, t.length ≤ 100000 → Con B d "_law_places" [.lst (one1 t)] (.lst ((placesF 1 1 t).map plPV)))
    (fold : ∀ {s : List Nat}, s.length ≤ 100000 → (∀ c ∈ s, c < 1114112) → Con B d "_law_folded" [.lst (one1 s)] (.lst ((foldA s s.length 0).map atPV)))
    (part : ∀ {n : Nat}, Con B d "_law_part" [.str (mkN n)] (.str (partN n)))
    {t : List Nat} (hL : t.length ≤ 10000) (hs : ∀ c ∈ mendF false t, c < 1114112) :
    Con B (d + 1) "_law_read" [.str t] (.lst (rdRows (foldA (mendF false t) (mendF false t).length 0) (placesF 1 1 (mendF false t)) (foldA (mendF false t) (mendF false t).length 0).length 0)) := by
  have hml := mendF_len false t
  refine conDef G GT F rfl fun H => (mend (by lia)).run ((plac (by lia)).run ((fold (by lia) hs).run ?_))
  generalize mendF false t = s at *
  have hal := foldA_len s s.length 0
  have hbeg := foldA_beg s s.length 0
  generalize foldA s s.length 0 = as at *
  rw [← placesF_len 1 1 s] at hbeg
  generalize placesF 1 1 s = pls at *
  generalize hR : rdRows as pls as.length 0 = R
  have hl1 : ∀ f : Atom → PV, (as.map f).length ≤ 1000000 := fun f => by rw [List.length_map]; lia
  have em : ∀ f : Atom → List Nat, as.map (fun a => PV.str (f a)) = chPV (as.map f) := fun f => by unfold chPV; rw [List.map_map]; rfl
  refine ⟨_, rfl, hl1 _, mapW_map (l := as) (h := atPV) (g := fun a => .str (mkN a.1)) rfl (em _) (fun a xx Q H hq => ⟨_, rfl, hq⟩) ?_⟩
  refine ⟨_, rfl, hl1 _, mapW_map (l := as) (h := atPV) (g := fun a => .str [a.2.1]) rfl (em _) (fun a xx Q H hq => ⟨_, rfl, hq⟩) ?_⟩
  refine ⟨_, rfl, by rw [← em, List.length_map]; lia, mapW_map (l := as) (h := fun a => .str (mkN a.1)) (g := fun a => .str (partN a.1)) (em _) (em _) (fun a xx Q H hq => part.run hq) ?_⟩
  intro l hl
  refine read_loop E (by lia) hbeg hR fun ρ i hh => ?_
  obtain ⟨a9, a10, a11, a12, a13, a14, a15, a16, e⟩ := hh
  subst e
  exact ⟨_, upd_self .., rfl, del_upd hl _⟩

structure AttAt (T : Tab) (c : Addr) (tp : List Nat) (fs : List Str) : Prop where
  ty : T.att c "type" = some (.val (.str tp))
  sl : ∀ i f, fs[i]? = some f → T.att c f = some (.slot i)
structure TellAt (T : Tab) (cl : Cls) : Prop where
  ws : AttAt T cl.ws [119, 104, 105, 116, 101, 115, 112, 97, 99, 101] ["value", "source_column", "source_line"]
  lit : AttAt T cl.lit [108, 105, 116, 101, 114, 97, 108] ["value", "source_column", "source_line"]
  ident : AttAt T cl.ident [105, 100, 101, 110, 116] ["lower_value", "value", "source_column", "source_line"]
  at_ : AttAt T cl.at_ [97, 116, 45, 107, 101, 121, 119, 111, 114, 100] ["lower_value", "value", "source_column", "source_line"]
  hash : AttAt T cl.hash [104, 97, 115, 104] ["is_identifier", "value", "source_column", "source_line"]
  str : AttAt T cl.str [115, 116, 114, 105, 110, 103] ["representation", "value", "source_column", "source_line"]
  num : AttAt T cl.num [110, 117, 109, 98, 101, 114] ["int_value", "is_integer", "representation", "value", "source_column", "source_line"]
  pct : AttAt T cl.pct [112, 101, 114, 99, 101, 110, 116, 97, 103, 101] ["int_value", "is_integer", "representation", "value", "source_column", "source_line"]
  dim : AttAt T cl.dim [100, 105, 109, 101, 110, 115, 105, 111, 110] ["int_value", "is_integer", "lower_unit", "representation", "unit", "value", "source_column", "source_line"]
  err : AttAt T cl.err [101, 114, 114, 111, 114] ["kind", "message", "source_column", "source_line"]

noncomputable def plainTK : TK → TK
  | .ws v => .ws (v.map plainC)
  | .lit v => .lit (v.map plainC)
  | .ident v => .ident (v.map plainC)
  | .at_ v => .at_ (v.map plainC)
  | .hash v b => .hash (v.map plainC) b
  | .str v r => .str (v.map plainC) []
  | .num r iv => .num r iv
  | .pct r iv => .pct r iv
  | .dim r iv u => .dim r iv (u.map plainC)
  | .err k => .err k
noncomputable def tkLen : TK → Nat
  | .ws v => v.length
  | .lit v => v.length
  | .ident v => v.length
  | .at_ v => v.length
  | .hash v b => v.length
  | .str v r => v.length
  | .num r iv => 0
  | .pct r iv => 0
  | .dim r iv u => u.length
  | .err k => 0
noncomputable def ndPV (cl : Cls) (q : (Nat × Nat) × TK) : PV := tkPV cl (.int q.1.1) (.int q.1.2) q.2
noncomputable def toPV (q : (Nat × Nat) × TK) : PV := rowPV (plPV q.1) (plainTK q.2)

theorem told_row {l c : Addr} {fs rows : List PV} {i j : Nat} {ln cn kind told : PV} {a0 : Option PV} {Q : KS} {H : AH} (h1 : T.att c "source_line" = some (.slot i)) (h2 : fs[i]? = some ln) (h3 : T.att c "source_column" = some (.slot j)) (h4 : fs[j]? = some cn)
    (hget : H l = some (.list rows)) (hr : rows.length ≤ 1000000) (hq : Q .next [a0, some (.ref l), some (.node c fs), some kind, some told] (H.upd l (.list (rows ++ [.tup [kind, .tup [ln, cn], told]])))) :
    vcSs B T d r_law_told_1 Q [a0, some (.ref l), some (.node c fs), some kind, some told] H :=
  ⟨⟨_, hget⟩, _, h1, _, h2, _, h3, _, h4, app_mk hget hr ⟨rfl, hq⟩⟩
noncomputable def toldB : List MS := match w_law_told_1 with
  | .for1 _ _ b => b
  | _ => []
theorem tell_step {cl : Cls} (A : TellAt T cl) (P : ∀ {s : List Nat}, s.length ≤ 100000 → Con B d "_law_plain" [.str s] (.str (s.map plainC))) {l : Addr} {rows : List PV} {H : AH} (hget : H l = some (.list rows)) (hr : rows.length ≤ 1000000)
    {q : (Nat × Nat) × TK} (hl : tkLen q.2 ≤ 100000) {a0 a3 a4 : Option PV} {Q : KS} (hq : ∀ a2 a3 a4 : Option PV, Q .next [a0, some (.ref l), a2, a3, a4] (H.upd l (.list (rows ++ [toPV q])))) :
    vcSs B T d toldB Q [a0, some (.ref l), some (ndPV cl q), a3, a4] H := by
  obtain ⟨⟨ln, cn⟩, tk⟩ := q
  cases tk with
  | ws v => exact ⟨_, A.ws.ty, tst_neg (by decide) (tst_neg (by decide) (tst_dF (tst_neg (by decide) (tst_neg (by decide) (tst_neg (by decide) (tst_pos (by decide) ⟨(P hl).b, _, A.ws.sl 0 _ rfl, _, rfl, (P hl).use (told_row (A.ws.sl 2 _ rfl) rfl (A.ws.sl 1 _ rfl) rfl hget hr (hq _ _ _))⟩))))))⟩
  | lit v => exact ⟨_, A.lit.ty, tst_neg (by decide) (tst_neg (by decide) (tst_dF (tst_neg (by decide) (tst_neg (by decide) (tst_neg (by decide) (tst_pos (by decide) ⟨(P hl).b, _, A.lit.sl 0 _ rfl, _, rfl, (P hl).use (told_row (A.lit.sl 2 _ rfl) rfl (A.lit.sl 1 _ rfl) rfl hget hr (hq _ _ _))⟩))))))⟩
  | ident v => exact ⟨_, A.ident.ty, tst_neg (by decide) (tst_neg (by decide) (tst_dF (tst_neg (by decide) (tst_neg (by decide) (tst_neg (by decide) (tst_pos (by decide) ⟨(P hl).b, _, A.ident.sl 1 _ rfl, _, rfl, (P hl).use (told_row (A.ident.sl 3 _ rfl) rfl (A.ident.sl 2 _ rfl) rfl hget hr (hq _ _ _))⟩))))))⟩
  | at_ v => exact ⟨_, A.at_.ty, tst_neg (by decide) (tst_neg (by decide) (tst_dF (tst_neg (by decide) (tst_neg (by decide) (tst_neg (by decide) (tst_pos (by decide) ⟨(P hl).b, _, A.at_.sl 1 _ rfl, _, rfl, (P hl).use (told_row (A.at_.sl 3 _ rfl) rfl (A.at_.sl 2 _ rfl) rfl hget hr (hq _ _ _))⟩))))))⟩
  | hash v b => exact ⟨_, A.hash.ty, tst_neg (by decide) (tst_neg (by decide) (tst_dF (tst_neg (by decide) (tst_pos (by decide) ⟨(P hl).b, _, A.hash.sl 1 _ rfl, _, rfl, (P hl).use ⟨_, A.hash.sl 0 _ rfl, _, rfl, told_row (A.hash.sl 3 _ rfl) rfl (A.hash.sl 2 _ rfl) rfl hget hr (hq _ _ _)⟩⟩))))⟩
  | str v r => exact ⟨_, A.str.ty, tst_neg (by decide) (tst_neg (by decide) (tst_dF (tst_neg (by decide) (tst_neg (by decide) (tst_neg (by decide) (tst_pos (by decide) ⟨(P hl).b, _, A.str.sl 1 _ rfl, _, rfl, (P hl).use (told_row (A.str.sl 3 _ rfl) rfl (A.str.sl 2 _ rfl) rfl hget hr (hq _ _ _))⟩))))))⟩
  | num r iv => exact ⟨_, A.num.ty, tst_pos (by decide) (tst_dT ⟨_, A.num.sl 2 _ rfl, _, rfl, _, A.num.sl 0 _ rfl, _, rfl, told_row (A.num.sl 5 _ rfl) rfl (A.num.sl 4 _ rfl) rfl hget hr (hq _ _ _)⟩)⟩
  | pct r iv => exact ⟨_, A.pct.ty, tst_neg (by decide) (tst_pos (by decide) (tst_dT ⟨_, A.pct.sl 2 _ rfl, _, rfl, _, A.pct.sl 0 _ rfl, _, rfl, told_row (A.pct.sl 5 _ rfl) rfl (A.pct.sl 4 _ rfl) rfl hget hr (hq _ _ _)⟩))⟩
  | dim r iv u => exact ⟨_, A.dim.ty, tst_neg (by decide) (tst_neg (by decide) (tst_dF (tst_pos (by decide) ⟨_, A.dim.sl 3 _ rfl, _, rfl, _, A.dim.sl 0 _ rfl, _, rfl, (P hl).b, _, A.dim.sl 4 _ rfl, _, rfl, (P hl).use (told_row (A.dim.sl 7 _ rfl) rfl (A.dim.sl 6 _ rfl) rfl hget hr (hq _ _ _))⟩)))⟩
  | err k => exact ⟨_, A.err.ty, tst_neg (by decide) (tst_neg (by decide) (tst_dF (tst_neg (by decide) (tst_neg (by decide) (tst_pos (by decide) ⟨_, A.err.sl 0 _ rfl, _, rfl, told_row (A.err.sl 3 _ rfl) rfl (A.err.sl 2 _ rfl) rfl hget hr (hq _ _ _)⟩)))))⟩

noncomputable def toldI (l : Addr) (a0 : Option PV) (cl : Cls) (ts : List ((Nat × Nat) × TK)) (H : AH) (xs : List PV) (ρ : Loc) (H' : AH) : Prop :=
  ∃ (done rest : List ((Nat × Nat) × TK)) (a2 a3 a4 : Option PV), xs = rest.map (ndPV cl) ∧ ρ = [a0, some (.ref l), a2, a3, a4] ∧ H' = H.upd l (.list (done.map toPV)) ∧ done ++ rest = ts
theorem told_ok (G : GoodB B) (GT : GoodT B T) (F : FnAt B "_law_told" p_law_told 1 [] v_law_told m_law_told) {cl : Cls} (A : TellAt T cl) (P : ∀ {s : List Nat}, s.length ≤ 100000 → Con B d "_law_plain" [.str s] (.str (s.map plainC)))
    {ts : List ((Nat × Nat) × TK)} (hL : ts.length ≤ 400000) (hl : ∀ q ∈ ts, tkLen q.2 ≤ 100000) : Con B (d + 1) "_law_told" [.lst (ts.map (ndPV cl))] (.lst (ts.map toPV)) := by
  refine conDef G GT F rfl fun H l hH => for_mk (toldI l (some (.lst (ts.map (ndPV cl)))) cl ts H) ⟨[], ts, none, none, none, rfl, rfl, rfl, rfl⟩ ?_ ?_
  · rintro x r ρ H' ⟨done, rest, a2, a3, a4, hx, rfl, rfl, he⟩
    cases rest with
    | nil => cases hx
    | cons q rest =>
      obtain ⟨rfl, rfl⟩ := List.cons.inj hx
      have hm : q ∈ ts := by rw [← he]; exact List.mem_append_right _ List.mem_cons_self
      have hdl : (done.map toPV).length ≤ 1000000 := by
        have := congrArg List.length he
        rw [List.length_append] at this
        rw [List.length_map]; lia
      refine tell_step A P (upd_self ..) hdl (hl q hm) fun a2 a3 a4 => ⟨done ++ [q], rest, a2, a3, a4, rfl, rfl, ?_, ?_⟩
      · rw [upd_upd, List.map_append]; rfl
      · rw [← he, List.append_assoc]; rfl
  · rintro ρ H' ⟨done, rest, a2, a3, a4, hx, rfl, rfl, he⟩
    cases rest with
    | cons q r => cases hx
    | nil =>
      rw [List.append_nil] at he
      subst he
      exact ⟨_, upd_self .., rfl, del_upd hH _⟩
end Mine
end

section
set_option tactic.hygienic false
set_option linter.unusedSimpArgs false
set_option linter.unusedVariables false
set_option maxRecDepth 10000
set_option backward.match.sparseCases false
set_option genInjectivity false
set_option genSizeOf false
namespace Mine
open PySem PySem.W

theorem escLaw_snd (r : List Nat) : (escLaw r).2 = (escSpec r).2 := by
  unfold escLaw escSpec
  split
  · rfl
  · cases r <;> rfl
noncomputable def surr (c : Nat) : Bool := decide (55296 ≤ c ∧ c ≤ 57343)
theorem escLaw_fst (r : List Nat) (h : ∀ c ∈ r, surr c = false) : (escLaw r).1 = plainC (escSpec r).1 := by
  unfold escLaw escSpec plainC
  split
  · generalize hexNum (r.take (hexRun 6 r)) = N
    dsimp only
    by_cases h1 : 0 < N ∧ N ≤ 1114111
    · rw [if_pos h1]
      by_cases h2 : 55296 ≤ N ∧ N ≤ 57343
      · rw [if_pos h2, if_neg (by lia)]
      · rw [if_neg h2, if_pos (by lia)]
    · rw [if_neg h1, if_neg (by lia)]; rfl
  · cases r with
    | nil => rfl
    | cons c r =>
      have := h c List.mem_cons_self
      unfold surr at this
      rw [decide_eq_false_iff_not] at this
      dsimp only
      rw [if_neg this]

theorem atomAt_next {s : List Nat} {p : Nat} (h : p < s.length) : p < (atomAt s p).2 := by
  unfold atomAt
  rw [List.getElem?_eq_getElem h]
  dsimp only
  split
  · split
    · dsimp only; lia
    · split <;> dsimp only <;> lia
  · dsimp only; lia
theorem foldA_fuel (s : List Nat) : ∀ (k k' p : Nat), s.length - p ≤ k → s.length - p ≤ k' → foldA s k p = foldA s k' p
  | 0, k', p, h, h' => by rw [foldA_end (by lia), foldA_end (by lia)]
  | k + 1, 0, p, h, h' => by rw [foldA_end (by lia), foldA_end (by lia)]
  | k + 1, k' + 1, p, h, h' => by
    simp only [foldA]
    split
    · rename_i hp
      have := atomAt_next hp
      rw [foldA_fuel s k k' _ (by lia) (by lia)]
    · rfl
noncomputable def atoms (s : List Nat) (p : Nat) : List Atom := foldA s (s.length - p) p
theorem atoms_cons {s : List Nat} {p : Nat} (h : p < s.length) : atoms s p = (atomAt s p).1 :: atoms s (atomAt s p).2 := by
  have hn := atomAt_next h
  unfold atoms
  obtain ⟨k, hk⟩ : ∃ k, s.length - p = k + 1 := ⟨s.length - p - 1, by lia⟩
  rw [hk]
  simp only [foldA]
  rw [if_pos h, foldA_fuel s k (s.length - (atomAt s p).2) _ (by lia) (Nat.le_refl _)]
theorem at_end {s : List Nat} {p : Nat} (h : s[p]? = none) : atoms s p = [] := foldA_end (by have := List.getElem?_eq_none_iff.mp h; lia)
theorem at_char {s : List Nat} {p c : Nat} (h : s[p]? = some c) (hc : c ≠ 92) : atoms s p = (c, c, p) :: atoms s (p + 1) := by
  rw [atoms_cons (List.getElem?_eq_some_iff.mp h).1]
  simp [atomAt, h, hc]
theorem at_last {s : List Nat} {p : Nat} (h : s[p]? = some 92) (h2 : s[p + 1]? = none) : atoms s p = [(1114113, 65533, p)] := by
  rw [atoms_cons (List.getElem?_eq_some_iff.mp h).1]
  simp [atomAt, h, h2, at_end h2]
theorem at_line {s : List Nat} {p : Nat} (h : s[p]? = some 92) (h2 : s[p + 1]? = some 10) : atoms s p = (92, 92, p) :: atoms s (p + 1) := by
  rw [atoms_cons (List.getElem?_eq_some_iff.mp h).1]
  simp [atomAt, h, h2]
theorem at_esc {s : List Nat} {p y : Nat} (h : s[p]? = some 92) (h2 : s[p + 1]? = some y) (hy : y ≠ 10) :
    atoms s p = (1114112, (escLaw (s.drop (p + 1))).1, p) :: atoms s (p + 1 + (escLaw (s.drop (p + 1))).2) := by
  rw [atoms_cons (List.getElem?_eq_some_iff.mp h).1]
  simp [atomAt, h, h2, hy]

abbrev Al (as : List Atom) (i : Nat) (s : List Nat) (p : Nat) : Prop := as.drop i = atoms s p
theorem codes_get {as : List Atom} {i : Nat} {s : List Nat} {p : Nat} (h : Al as i s p) : (codesA as)[i]? = (codesA (atoms s p))[0]? := by
  rw [← h, ← codesA_drop, List.getElem?_drop]; rfl
theorem al_cons {as : List Atom} {i : Nat} {r : List Atom} {a : Atom} (h : as.drop i = a :: r) : as[i]? = some a ∧ as.drop (i + 1) = r := get_drop h
theorem al_char {as : List Atom} {i p c : Nat} {s : List Nat} (h : Al as i s p) (hg : s[p]? = some c) (hc : c ≠ 92) : as[i]? = some (c, c, p) ∧ Al as (i + 1) s (p + 1) := al_cons (h.trans (at_char hg hc))
theorem al_code {as : List Atom} {i p : Nat} {s : List Nat} (h : Al as i s p) : match s[p]? with
    | none => (codesA as)[i]? = none
    | some c => if c = 92 then (codesA as)[i]? = some 92 ∨ (codesA as)[i]? = some 1114112 ∨ (codesA as)[i]? = some 1114113 else (codesA as)[i]? = some c := by
  rw [codes_get h]
  cases hg : s[p]? with
  | none => rw [at_end hg]; rfl
  | some c =>
    by_cases hc : c = 92
    · subst hc
      dsimp only
      rw [if_pos rfl]
      cases h2 : s[p + 1]? with
      | none => rw [at_last hg h2]; exact .inr (.inr rfl)
      | some y =>
        by_cases hy : y = 10
        · subst hy; rw [at_line hg h2]; exact .inl rfl
        · rw [at_esc hg h2 hy]; exact .inr (.inl rfl)
    · dsimp only
      rw [if_neg hc, at_char hg hc]; rfl
theorem al_is {as : List Atom} {i p k : Nat} {s : List Nat} (h : Al as i s p) (hk : k ≠ 92) (hk2 : k < 1000) : (codesA as)[i]? = some k ↔ s[p]? = some k := by
  have := al_code h
  cases hg : s[p]? with
  | none => rw [hg] at this; rw [this]
  | some c =>
    rw [hg] at this
    dsimp only at this
    split at this
    · rename_i q; subst q
      rcases this with q | q | q <;> rw [q] <;> simp <;> lia
    · rw [this]
theorem al_pred {as : List Atom} {i p : Nat} {s : List Nat} (f : Nat → Bool) (h1 : f 92 = false) (h2 : f 1114112 = false) (h3 : f 1114113 = false) (h : Al as i s p) :
    (match (codesA as)[i]? with | some c => f c | none => false) = match s[p]? with | some c => f c | none => false := by
  have := al_code h
  cases hg : s[p]? with
  | none => rw [hg] at this; rw [this]
  | some c =>
    rw [hg] at this
    dsimp only at this ⊢
    split at this
    · rename_i q; subst q
      rcases this with q | q | q <;> rw [q] <;> simp [h1, h2, h3]
    · rw [this]
theorem al_dig {as : List Atom} {i p : Nat} {s : List Nat} (h : Al as i s p) : digAt (codesA as) i = digAt s p := al_pred isDig (by simp [isDig]) (by simp [isDig]) (by simp [isDig]) h
theorem al_sign {as : List Atom} {i p : Nat} {s : List Nat} (h : Al as i s p) : signAt (codesA as) i = signAt s p := al_pred (fun c => decide (c = 45 ∨ c = 43)) (by simp) (by simp) (by simp) h
theorem al_e {as : List Atom} {i p : Nat} {s : List Nat} (h : Al as i s p) : eAt (codesA as) i = eAt s p := al_pred (fun c => decide (c = 101 ∨ c = 69)) (by simp) (by simp) (by simp) h

structure Sm (as : List Atom) (s : List Nat) (i p j q : Nat) : Prop where
  it : ∃ k, j = i + k ∧ q = p + k ∧ ((as.drop i).take k).map (·.2.1) = (s.drop p).take k ∧ q ≤ s.length
  al : Al as j s q
theorem Sm.refl {as : List Atom} {s : List Nat} {i p : Nat} (h : Al as i s p) (hp : p ≤ s.length) : Sm as s i p i p := ⟨⟨0, rfl, rfl, by simp, hp⟩, h⟩
theorem Sm.one {as : List Atom} {s : List Nat} {i p c : Nat} (h : Al as i s p) (hg : s[p]? = some c) (hc : c ≠ 92) : Sm as s i p (i + 1) (p + 1) := by
  obtain ⟨h1, h2⟩ := al_char h hg hc
  refine ⟨⟨1, rfl, rfl, ?_, (List.getElem?_eq_some_iff.mp hg).1⟩, h2⟩
  rw [drop_get h1, drop_get hg]; rfl
theorem Sm.trans {as : List Atom} {s : List Nat} {i p j q k r : Nat} (a : Sm as s i p j q) (b : Sm as s j q k r) : Sm as s i p k r := by
  obtain ⟨⟨n, rfl, rfl, h1, _⟩, _⟩ := a
  obtain ⟨⟨m, rfl, rfl, h2, h3⟩, h4⟩ := b
  refine ⟨⟨n + m, by lia, by lia, ?_, h3⟩, h4⟩
  rw [List.take_add, List.take_add, List.map_append, h1, List.drop_drop, List.drop_drop, h2]
theorem Sm.vals {as : List Atom} {s : List Nat} {i p j q : Nat} (a : Sm as s i p j q) : valsOf as i j = (s.drop p).take (q - p) := by
  obtain ⟨⟨n, rfl, rfl, h1, _⟩, _⟩ := a
  unfold valsOf
  rw [show i + n - i = n by lia, show p + n - p = n by lia, h1]
theorem Sm.le {as : List Atom} {s : List Nat} {i p j q : Nat} (a : Sm as s i p j q) : i ≤ j ∧ p ≤ q ∧ j - i = q - p ∧ q ≤ s.length := by
  obtain ⟨⟨n, rfl, rfl, _, h⟩, _⟩ := a
  lia
theorem Sm.code {as : List Atom} {s : List Nat} {i p k : Nat} (h : Al as i s p) (hg : (codesA as)[i]? = some k) (hk : k ≠ 92) (hk2 : k < 1000) : Sm as s i p (i + 1) (p + 1) :=
  Sm.one h ((al_is h hk hk2).mp hg) hk

theorem run_sm (as : List Atom) (s : List Nat) (f : Nat → Bool) (F : List Nat → Nat) (h0 : F [] = 0) (h1 : ∀ c r, F (c :: r) = if f c then F r + 1 else 0) (f1 : f 92 = false) (f2 : f 1114112 = false) (f3 : f 1114113 = false) :
    ∀ (n p i : Nat), s.length - p ≤ n → p ≤ s.length → Al as i s p → F ((codesA as).drop i) = F (s.drop p) ∧ Sm as s i p (i + F (s.drop p)) (p + F (s.drop p)) := by
  intro n
  induction n with
  | zero =>
    intro p i hn hp h
    have hg : s[p]? = none := List.getElem?_eq_none_iff.mpr (by lia)
    have hc := al_code h
    rw [hg] at hc
    rw [drop_none hg, drop_none hc, h0]
    exact ⟨rfl, Sm.refl h hp⟩
  | succ n ih =>
    intro p i hn hp h
    have hc := al_code h
    cases hg : s[p]? with
    | none =>
      rw [hg] at hc
      rw [drop_none hg, drop_none hc, h0]
      exact ⟨rfl, Sm.refl h hp⟩
    | some c =>
      rw [hg] at hc
      dsimp only at hc
      rw [drop_get hg, h1]
      by_cases q : c = 92
      · subst q
        rw [if_pos rfl] at hc
        rw [f1]
        have : F ((codesA as).drop i) = 0 := by
          rcases hc with e | e | e <;> rw [drop_get e, h1] <;> simp [f1, f2, f3]
        rw [this]
        exact ⟨rfl, Sm.refl h hp⟩
      · rw [if_neg q] at hc
        rw [drop_get hc, h1]
        cases hf : f c with
        | false => exact ⟨rfl, Sm.refl h hp⟩
        | true =>
          simp only [if_true]
          have h2 := Sm.one h hg q
          obtain ⟨e1, e2⟩ := ih (p + 1) (i + 1) (by lia) (List.getElem?_eq_some_iff.mp hg).1 h2.al
          refine ⟨by rw [e1], ?_⟩
          have := h2.trans e2
          rw [show i + 1 + F (s.drop (p + 1)) = i + (F (s.drop (p + 1)) + 1) by lia, show p + 1 + F (s.drop (p + 1)) = p + (F (s.drop (p + 1)) + 1) by lia] at this
          exact this
theorem dig_sm {as : List Atom} {s : List Nat} {i p : Nat} (h : Al as i s p) (hp : p ≤ s.length) : digRun ((codesA as).drop i) = digRun (s.drop p) ∧ Sm as s i p (i + digRun (s.drop p)) (p + digRun (s.drop p)) :=
  run_sm as s isDig digRun rfl (fun xx xx => rfl) (by simp [isDig]) (by simp [isDig]) (by simp [isDig]) _ p i (Nat.le_refl _) hp h
theorem ws_sm {as : List Atom} {s : List Nat} {i p : Nat} (h : Al as i s p) (hp : p ≤ s.length) : wsRun ((codesA as).drop i) = wsRun (s.drop p) ∧ Sm as s i p (i + wsRun (s.drop p)) (p + wsRun (s.drop p)) :=
  run_sm as s isBl wsRun rfl (fun xx xx => rfl) (by simp [isBl]) (by simp [isBl]) (by simp [isBl]) _ p i (Nat.le_refl _) hp h
end Mine
end

section
set_option tactic.hygienic false
set_option linter.unusedSimpArgs false
set_option linter.unusedVariables false
set_option maxRecDepth 10000
set_option backward.match.sparseCases false
set_option genInjectivity false
set_option genSizeOf false
namespace Mine
open PySem PySem.W

theorem part_start (n : Nat) : partN n = S_start ↔ isNS n = true := by
  unfold partN isNS isNS0 S_start S_figure S_hyphen S_other
  by_cases h : 127 < n ∨ n = 95 ∨ (97 ≤ n ∧ n ≤ 122) ∨ (65 ≤ n ∧ n ≤ 90)
  · rw [if_pos h]; simp; lia
  · rw [if_neg h]
    have : ¬ ((decide (97 ≤ n ∧ n ≤ 122 ∨ 65 ≤ n ∧ n ≤ 90 ∨ n = 95) || decide (127 < n)) = true) := by simp; lia
    split <;> try split
    all_goals (constructor <;> intro q <;> first | exact absurd q this | (simp at q))
theorem part_hyphen (n : Nat) : partN n = S_hyphen ↔ n = 45 := by
  unfold partN S_start S_figure S_hyphen S_other
  split
  · constructor
    · intro q; simp at q
    · intro q; lia
  · split
    · constructor
      · intro q; simp at q
      · intro q; lia
    · split
      · simp_all
      · constructor
        · intro q; simp at q
        · intro q; lia
theorem part_nm (n : Nat) : partN n ∈ nmW ↔ isNC n = true := by
  have h1 := part_start n
  have h2 := partN_fig n
  have h3 := part_hyphen n
  rw [List.mem_singleton] at h2
  unfold nmW
  simp only [List.mem_cons, List.not_mem_nil, or_false]
  rw [h1, h2, h3]
  unfold isNC isNC0 isNS isNS0 isDig
  simp; lia
theorem nmRun_get {as : List Atom} {i : Nat} : nmRun as i = match as[i]? with
    | none => 0
    | some a => if isNC a.1 = true then nmRun as (i + 1) + 1 else 0 := by
  unfold nmRun
  cases h : as[i]? with
  | none => rw [partsA_drop, drop_none h]; rfl
  | some a =>
    have hp : (partsA as)[i]? = some (partN a.1) := by simp [partsA, h]
    rw [drop_get hp, runL]
    dsimp only
    by_cases q : isNC a.1 = true
    · rw [if_pos ((part_nm _).mpr q), if_pos q]
    · rw [if_neg (fun k => q ((part_nm _).mp k)), if_neg q]
theorem vals_succ {as : List Atom} {i j : Nat} {a : Atom} (h : as[i]? = some a) (hj : i + 1 ≤ j) : valsOf as i j = a.2.1 :: valsOf as (i + 1) j := by
  unfold valsOf
  rw [drop_get h, show j - i = (j - (i + 1)) + 1 by lia, List.take_succ_cons, List.map_cons]
theorem vals_nil (as : List Atom) (i : Nat) : valsOf as i i = [] := by simp [valsOf]
def Fine (s : List Nat) : Prop := ∀ c ∈ s, surr c = false ∧ c < 1114112
theorem plain_id {s : List Nat} (h : Fine s) : s.map plainC = s := by
  induction s with
  | nil => rfl
  | cons c r ih =>
    have h1 := (h c List.mem_cons_self).1
    unfold surr at h1
    rw [decide_eq_false_iff_not] at h1
    rw [List.map_cons, ih fun x hx => h x (List.mem_cons_of_mem _ hx)]
    unfold plainC
    rw [if_neg h1]
theorem plain_one {c : Nat} (h : surr c = false) : plainC c = c := by
  unfold surr at h
  rw [decide_eq_false_iff_not] at h
  unfold plainC
  rw [if_neg h]
theorem Fine.drop {s : List Nat} (h : Fine s) (n : Nat) : Fine (s.drop n) := fun c hc => h c (List.mem_of_mem_drop hc)
theorem Fine.sur {s : List Nat} (h : Fine s) : ∀ c ∈ s, surr c = false := fun c hc => (h c hc).1
theorem isNC92 : isNC 92 = false := by simp [isNC, isNC0, isNS0]
theorem isNCesc : isNC 1114112 = true := by simp [isNC]
theorem isNClast : isNC 1114113 = true := by simp [isNC]
theorem escSpec_nil : escSpec [] = (65533, 0) := by
  unfold escSpec
  rw [if_neg (by simp [hexRun])]

theorem ident_al {s : List Nat} (hs : Fine s) : ∀ (n p : Nat), s.length - p ≤ n → p ≤ s.length → ∀ (as : List Atom) (i : Nat), Al as i s p →
    Al as (i + nmRun as i) s (p + (identSpec (s.drop p)).2) ∧ valsOf as i (i + nmRun as i) = (identSpec (s.drop p)).1.map plainC ∧ p + (identSpec (s.drop p)).2 ≤ s.length := by
  intro n
  induction n with
  | zero =>
    intro p hn hp as i h
    have hg : s[p]? = none := List.getElem?_eq_none_iff.mpr (by lia)
    have ha : as[i]? = none := get_drop_nil (h.trans (at_end hg))
    rw [nmRun_get, ha, drop_none hg, identSpec_nil]
    exact ⟨h, by rw [Nat.add_zero, vals_nil]; rfl, hp⟩
  | succ n ih =>
    intro p hn hp as i h
    cases hg : s[p]? with
    | none =>
      have ha : as[i]? = none := get_drop_nil (h.trans (at_end hg))
      rw [nmRun_get, ha, drop_none hg, identSpec_nil]
      exact ⟨h, by rw [Nat.add_zero, vals_nil]; rfl, hp⟩
    | some c =>
      have hlt := (List.getElem?_eq_some_iff.mp hg).1
      have hfc := hs c (List.mem_of_getElem? hg)
      by_cases hc : c = 92
      · subst hc
        rw [drop_get hg, identSpec_cons, isNC92, if_neg Bool.false_ne_true, List.head?_drop]
        cases h2 : s[p + 1]? with
        | none =>
          obtain ⟨a1, a2⟩ := al_cons (h.trans (at_last hg h2))
          have a3 : as[i + 1]? = none := get_drop_nil a2
          rw [nmRun_get, a1]
          dsimp only
          rw [if_pos isNClast, nmRun_get, a3, if_pos ⟨rfl, by simp⟩, drop_none h2, escSpec_nil, List.drop_zero, identSpec_nil]
          refine ⟨?_, ?_, by dsimp only; lia⟩
          · show as.drop (i + 1) = atoms s (p + 1)
            rw [a2, at_end h2]
          · rw [vals_succ a1 (by lia), vals_nil]; rfl
        | some y =>
          by_cases hy : y = 10
          · subst hy
            obtain ⟨a1, a2⟩ := al_cons (h.trans (at_line hg h2))
            rw [nmRun_get, a1]
            dsimp only
            rw [isNC92, if_neg Bool.false_ne_true, if_neg (by simp)]
            exact ⟨h, by rw [Nat.add_zero, vals_nil]; rfl, hp⟩
          · obtain ⟨a1, a2⟩ := al_cons (h.trans (at_esc hg h2 hy))
            have hr := escSpec_le (s.drop (p + 1))
            rw [List.length_drop] at hr
            rw [escLaw_snd] at a2
            rw [escLaw_fst _ (hs.drop _).sur] at a1
            rw [nmRun_get, a1]
            dsimp only
            rw [if_pos isNCesc, if_pos ⟨rfl, by simp [hy]⟩, List.drop_drop]
            obtain ⟨b1, b2, b3⟩ := ih (p + 1 + (escSpec (s.drop (p + 1))).2) (by lia) (by lia) as (i + 1) a2
            refine ⟨?_, ?_, by lia⟩
            · rw [show i + (nmRun as (i + 1) + 1) = i + 1 + nmRun as (i + 1) by lia]
              rw [show p + ((identSpec (s.drop (p + 1 + (escSpec (s.drop (p + 1))).2))).2 + (escSpec (s.drop (p + 1))).2 + 1) = p + 1 + (escSpec (s.drop (p + 1))).2 + (identSpec (s.drop (p + 1 + (escSpec (s.drop (p + 1))).2))).2 by lia]
              exact b1
            · rw [vals_succ a1 (by lia), show i + (nmRun as (i + 1) + 1) = i + 1 + nmRun as (i + 1) by lia, b2]
              rfl
      · obtain ⟨a1, a2⟩ := al_char h hg hc
        rw [nmRun_get, a1, drop_get hg, identSpec_cons]
        dsimp only
        by_cases q : isNC c = true
        · rw [if_pos q, if_pos q]
          obtain ⟨b1, b2, b3⟩ := ih (p + 1) (by lia) (by lia) as (i + 1) a2
          refine ⟨?_, ?_, by lia⟩
          · rw [show i + (nmRun as (i + 1) + 1) = i + 1 + nmRun as (i + 1) by lia, show p + ((identSpec (s.drop (p + 1))).2 + 1) = p + 1 + (identSpec (s.drop (p + 1))).2 by lia]
            exact b1
          · rw [vals_succ a1 (by lia), show i + (nmRun as (i + 1) + 1) = i + 1 + nmRun as (i + 1) by lia, b2, List.map_cons, plain_one hfc.1]
        · rw [if_neg q, if_neg q, if_neg (fun k => hc k.1)]
          exact ⟨h, by rw [Nat.add_zero, vals_nil]; rfl, hp⟩

theorem al_start {as : List Atom} {i p : Nat} {s : List Nat} (h : Al as i s p) : (∃ a, as[i]? = some a ∧ isNS a.1 = true) ↔ ∃ c, s[p]? = some c ∧ (isNS c = true ∨ c = 92 ∧ ¬ s[p + 1]? = some 10) := by
  have n92 : isNS 92 = false := by simp [isNS, isNS0]
  cases hg : s[p]? with
  | none => rw [get_drop_nil (h.trans (at_end hg))]; simp
  | some c =>
    by_cases hc : c = 92
    · subst hc
      cases h2 : s[p + 1]? with
      | none =>
        obtain ⟨a1, a2⟩ := al_cons (h.trans (at_last hg h2))
        rw [a1]; simp [isNS]
      | some y =>
        by_cases hy : y = 10
        · subst hy
          obtain ⟨a1, a2⟩ := al_cons (h.trans (at_line hg h2))
          rw [a1]; simp [n92]
        · obtain ⟨a1, a2⟩ := al_cons (h.trans (at_esc hg h2 hy))
          rw [a1]; simp [isNS, hy]
    · obtain ⟨a1, a2⟩ := al_char h hg hc
      rw [a1]; simp [hc]
theorem starts_al {as : List Atom} {i p : Nat} {s : List Nat} (h : Al as i s p) : startsL ((partsA as).drop i) = identStart (s.drop p) := by
  have n92 : isNS 92 = false := by simp [isNS, isNS0]
  have n45 : isNS 45 = false := by simp [isNS, isNS0]
  have hs := al_start h
  cases hg : s[p]? with
  | none =>
    rw [partsA_drop, show as.drop i = [] from h.trans (at_end hg), drop_none hg]; rfl
  | some c =>
    rw [hg] at hs
    rw [drop_get hg]
    by_cases h45 : c = 45
    · subst h45
      obtain ⟨a1, a2⟩ := al_char h hg (by lia)
      have hp : (partsA as)[i]? = some (partN 45) := by simp [partsA, a1]
      rw [drop_get hp]
      unfold startsL identStart
      dsimp only
      rw [if_pos ((part_hyphen 45).mpr rfl), n45, if_neg Bool.false_ne_true, if_pos rfl]
      have hs2 := al_start a2
      cases hg2 : s[p + 1]? with
      | none =>
        rw [partsA_drop, show as.drop (i + 1) = [] from a2.trans (at_end hg2), drop_none hg2]; rfl
      | some c2 =>
        rw [hg2] at hs2
        obtain ⟨a, ha⟩ : ∃ a, as[i + 1]? = some a := by
          cases hq : as[i + 1]? with
          | some a => exact ⟨a, rfl⟩
          | none =>
            have hc := al_code a2
            rw [hg2, codesA_get, hq] at hc
            dsimp only at hc
            split at hc
            · rcases hc with hc | hc | hc <;> cases hc
            · cases hc
        have hp2 : (partsA as)[i + 1]? = some (partN a.1) := by simp [partsA, ha]
        rw [drop_get hp2, drop_get hg2]
        dsimp only
        rw [Bool.eq_iff_iff, decide_eq_true_eq, part_start, part_hyphen]
        have hcode := al_is (k := 45) a2 (by lia) (by lia)
        rw [codesA_get, ha, hg2] at hcode
        simp only [Option.map_some, Option.some.injEq] at hcode
        rw [ha] at hs2
        simp only [Option.some.injEq, exists_eq_left'] at hs2
        rw [hcode, hs2, List.head?_drop]
        simp only [Bool.or_eq_true, Bool.and_eq_true, Bool.not_eq_true', decide_eq_true_eq, decide_eq_false_iff_not]
        constructor
        · rintro ((q | q) | q)
          · exact .inl (.inl q)
          · exact .inr q
          · exact .inl (.inr q)
        · rintro ((q | q) | q)
          · exact .inl (.inl q)
          · exact .inr q
          · exact .inl (.inr q)
    · obtain ⟨a, ha⟩ : ∃ a, as[i]? = some a := by
        cases hq : as[i]? with
        | some a => exact ⟨a, rfl⟩
        | none =>
          have hc := al_code h
          rw [hg, codesA_get, hq] at hc
          dsimp only at hc
          split at hc
          · rcases hc with hc | hc | hc <;> cases hc
          · cases hc
      have hp : (partsA as)[i]? = some (partN a.1) := by simp [partsA, ha]
      rw [drop_get hp]
      have hcode := al_is (k := 45) h (by lia) (by lia)
      rw [codesA_get, ha, hg] at hcode
      simp only [Option.map_some, Option.some.injEq] at hcode
      rw [ha] at hs
      simp only [Option.some.injEq, exists_eq_left'] at hs
      unfold startsL identStart
      dsimp only
      rw [if_neg (fun k => h45 (hcode.mp ((part_hyphen _).mp k)))]
      rw [Bool.eq_iff_iff, decide_eq_true_eq, part_start, hs]
      by_cases q : isNS c = true
      · rw [if_pos q]; simp [q]
      · rw [if_neg q, if_neg h45]
        by_cases q2 : c = 92
        · rw [if_pos q2, List.head?_drop]; subst q2; simp [n92]
        · rw [if_neg q2]; simp [q, q2]
end Mine
end

section
set_option tactic.hygienic false
set_option linter.unusedSimpArgs false
set_option linter.unusedVariables false
set_option maxRecDepth 10000
set_option backward.match.sparseCases false
set_option genInjectivity false
set_option genSizeOf false
namespace Mine
open PySem PySem.W

theorem pred_some {s : List Nat} {p : Nat} {f : Nat → Bool} (h : (match s[p]? with | some c => f c | none => false) = true) : ∃ c, s[p]? = some c ∧ f c = true := by
  cases hg : s[p]? with
  | none => rw [hg] at h; cases h
  | some c => rw [hg] at h; exact ⟨c, rfl, h⟩
theorem dig_one {as : List Atom} {i p : Nat} {s : List Nat} (h : Al as i s p) (hd : digAt s p = true) : Sm as s i p (i + 1) (p + 1) := by
  obtain ⟨c, h1, h2⟩ := pred_some (f := isDig) hd
  exact Sm.one h h1 (by rintro rfl; simp [isDig] at h2)
theorem sign_one {as : List Atom} {i p : Nat} {s : List Nat} (h : Al as i s p) (hd : signAt s p = true) : Sm as s i p (i + 1) (p + 1) := by
  obtain ⟨c, h1, h2⟩ := pred_some (f := fun c => decide (c = 45 ∨ c = 43)) hd
  exact Sm.one h h1 (by rintro rfl; simp at h2)
theorem e_one {as : List Atom} {i p : Nat} {s : List Nat} (h : Al as i s p) (hd : eAt s p = true) : Sm as s i p (i + 1) (p + 1) := by
  obtain ⟨c, h1, h2⟩ := pred_some (f := fun c => decide (c = 101 ∨ c = 69)) hd
  exact Sm.one h h1 (by rintro rfl; simp at h2)
theorem digs_sm {as : List Atom} {i p : Nat} {s : List Nat} {i0 p0 : Nat} (a : Sm as s i p i0 p0) : digRun ((codesA as).drop i0) = digRun (s.drop p0) ∧ Sm as s i p (i0 + digRun (s.drop p0)) (p0 + digRun (s.drop p0)) := by
  obtain ⟨h1, h2⟩ := dig_sm a.al a.le.2.2.2
  exact ⟨h1, a.trans h2⟩

theorem numExp_sm {as : List Atom} {i p i0 e : Nat} {s : List Nat} (pl : Bool) (a : Sm as s i p i0 e) : ∃ j, numExp (codesA as) i0 pl = (j, (numExp s e pl).2) ∧ Sm as s i p j (numExp s e pl).1 := by
  unfold numExp
  rw [al_e a.al]
  cases he : eAt s e with
  | false => exact ⟨i0, rfl, a⟩
  | true =>
    simp only [if_true]
    have a1 := a.trans (e_one a.al he)
    rw [al_sign a1.al]
    cases hg : signAt s (e + 1) with
    | true =>
      simp only [if_true]
      have a2 := a1.trans (sign_one a1.al hg)
      have hd := al_dig a2.al
      rw [show i0 + 1 + 1 = i0 + 2 by lia, show e + 1 + 1 = e + 2 by lia] at a2 hd
      rw [hd]
      cases hq : digAt s (e + 2) with
      | false => exact ⟨i0, rfl, a⟩
      | true =>
        obtain ⟨h1, h2⟩ := digs_sm a2
        simp only [if_true]
        exact ⟨_, by rw [h1], h2⟩
    | false =>
      simp only [Bool.false_eq_true, if_false]
      rw [al_dig a1.al]
      cases hq : digAt s (e + 1) with
      | false => exact ⟨i0, rfl, a⟩
      | true =>
        obtain ⟨h1, h2⟩ := digs_sm a1
        simp only [if_true]
        exact ⟨_, by rw [h1], h2⟩
theorem numExp_ge (s : List Nat) (e : Nat) (pl : Bool) : e ≤ (numExp s e pl).1 := by
  unfold numExp
  cases eAt s e with
  | false => exact Nat.le_refl _
  | true =>
    simp only [if_true]
    cases signAt s (e + 1) <;> simp only [if_true, if_false, Bool.false_eq_true]
    · cases digAt s (e + 1) <;> simp <;> lia
    · cases digAt s (e + 2) <;> simp <;> lia
theorem numFrom_eq (s : List Nat) (p e0 r : Nat) (he : e0 = (if signAt s p then p + 1 else p)) (hr : digRun (s.drop e0) = r) : numFrom s p =
    if s[e0 + r]? = some 46 ∧ digAt s (e0 + r + 1) = true then some (numExp s (e0 + r + 2 + digRun (s.drop (e0 + r + 2))) false) else if r = 0 then none else some (numExp s (e0 + r) true) := by
  unfold numFrom
  rw [← he]
  dsimp only
  rw [hr]
  have : (e0 + r = e0) = (r = 0) := propext (by lia)
  simp only [this]
theorem numFrom_sm {as : List Atom} {i p : Nat} {s : List Nat} (h : Al as i s p) (hp : p ≤ s.length) : match numFrom s p with
    | none => numFrom (codesA as) i = none
    | some (e, pl) => ∃ j, numFrom (codesA as) i = some (j, pl) ∧ Sm as s i p j e ∧ p < e := by
  have main : ∀ (i0 e0 : Nat), Sm as s i p i0 e0 → i0 = (if signAt (codesA as) i then i + 1 else i) → e0 = (if signAt s p then p + 1 else p) → match numFrom s p with
    | none => numFrom (codesA as) i = none
    | some (e, pl) => ∃ j, numFrom (codesA as) i = some (j, pl) ∧ Sm as s i p j e ∧ p < e := by
    intro i0 e0 a hi0 he0
    obtain ⟨h1, a1⟩ := digs_sm a
    have hlp : p ≤ e0 := a.le.2.1
    generalize hr : digRun (s.drop e0) = r at *
    rw [numFrom_eq s p e0 r he0 hr, numFrom_eq (codesA as) i i0 r hi0 h1]
    clear hi0 he0
    have hdot := al_is (k := 46) a1.al (by lia) (by lia)
    have tail : ∀ (pl : Bool) (jj ee : Nat), Sm as s i p jj ee → p < ee → match some (numExp s ee pl) with
      | none => some (numExp (codesA as) jj pl) = none
      | some (e, pl') => ∃ j, some (numExp (codesA as) jj pl) = some (j, pl') ∧ Sm as s i p j e ∧ p < e := by
      intro pl jj ee b hpe
      obtain ⟨j, h4, h5⟩ := numExp_sm pl b
      have hge := numExp_ge s ee pl
      rw [h4]
      cases hX : numExp s ee pl with
      | mk E P =>
        rw [hX] at h5 hge
        exact ⟨j, rfl, h5, by dsimp only at hge; lia⟩
    have plain : match (if r = 0 then none else some (numExp s (e0 + r) true)) with
      | none => (if r = 0 then none else some (numExp (codesA as) (i0 + r) true)) = none
      | some (e, pl') => ∃ j, (if r = 0 then none else some (numExp (codesA as) (i0 + r) true)) = some (j, pl') ∧ Sm as s i p j e ∧ p < e := by
      by_cases q3 : r = 0
      · simp only [q3, if_true]
      · simp only [q3, if_false]
        exact tail true _ _ a1 (by lia)
    by_cases q : s[e0 + r]? = some 46
    · have b1 := a1.trans (Sm.one a1.al q (by lia))
      have hd := al_dig b1.al
      by_cases q2 : digAt s (e0 + r + 1) = true
      · have b2 := b1.trans (dig_one b1.al q2)
        rw [show i0 + r + 1 + 1 = i0 + r + 2 by lia, show e0 + r + 1 + 1 = e0 + r + 2 by lia] at b2
        obtain ⟨h3, b3⟩ := digs_sm b2
        have t := tail false _ _ b3 (by lia)
        have c1 : s[e0 + r]? = some 46 ∧ digAt s (e0 + r + 1) = true := ⟨q, q2⟩
        have c2 : (codesA as)[i0 + r]? = some 46 ∧ digAt (codesA as) (i0 + r + 1) = true := ⟨hdot.mpr q, hd.trans q2⟩
        simp only [c1, c2, h3, and_self, if_true]
        exact t
      · have c1 : ¬ (s[e0 + r]? = some 46 ∧ digAt s (e0 + r + 1) = true) := fun k => q2 k.2
        have c2 : ¬ ((codesA as)[i0 + r]? = some 46 ∧ digAt (codesA as) (i0 + r + 1) = true) := fun k => q2 (hd.symm.trans k.2)
        simp only [c1, c2, if_false]
        exact plain
    · have c1 : ¬ (s[e0 + r]? = some 46 ∧ digAt s (e0 + r + 1) = true) := fun k => q k.1
      have c2 : ¬ ((codesA as)[i0 + r]? = some 46 ∧ digAt (codesA as) (i0 + r + 1) = true) := fun k => q (hdot.mp k.1)
      simp only [c1, c2, if_false]
      exact plain
  have hsg := al_sign h
  cases hg : signAt s p with
  | true =>
    rw [hg] at hsg
    exact main (i + 1) (p + 1) (sign_one h hg) (by rw [hsg]; rfl) (by rw [hg]; rfl)
  | false =>
    rw [hg] at hsg
    exact main i p (Sm.refl h hp) (by rw [hsg]; rfl) (by rw [hg]; rfl)

def QuoEnd (acc : List Nat) (R : Option (List Nat) × Nat × Nat) (A : List Nat × List Nat × Nat) : Prop :=
  (R.2.2 = 0 ∧ A.1 = [] ∧ ∃ v, R.1 = some v ∧ A.2.1 = acc ++ v.map plainC) ∨ (R.2.2 = 1 ∧ A.1 = S_eof ∧ ∃ v, R.1 = some v ∧ A.2.1 = acc ++ v.map plainC) ∨ (R.2.2 = 2 ∧ A.1 = S_bad ∧ R.1 = none)
theorem QuoEnd.add {acc : List Nat} {v : Nat} {R : Option (List Nat) × Nat × Nat} {A : List Nat × List Nat × Nat} {n : Nat} (h : QuoEnd (acc ++ [plainC v]) R A) : QuoEnd acc (R.1.map (v :: ·), n, R.2.2) A := by
  rcases h with ⟨a, b, w, c, d⟩ | ⟨a, b, w, c, d⟩ | ⟨a, b, c⟩
  · exact .inl ⟨a, b, v :: w, by rw [c]; rfl, by rw [d]; simp⟩
  · exact .inr (.inl ⟨a, b, v :: w, by rw [c]; rfl, by rw [d]; simp⟩)
  · exact .inr (.inr ⟨a, b, by rw [c]; rfl⟩)
theorem QuoEnd.same {acc : List Nat} {R : Option (List Nat) × Nat × Nat} {A : List Nat × List Nat × Nat} {n : Nat} (h : QuoEnd acc R A) : QuoEnd acc (R.1, n, R.2.2) A := h

theorem quo_al {s : List Nat} (hs : Fine s) {q : Nat} (hq : q = 34 ∨ q = 39) : ∀ (n p : Nat), s.length - p ≤ n → p ≤ s.length → ∀ (as : List Atom) (i : Nat) (acc : List Nat), Al as i s p →
    Al as (quA q (as.drop i) false acc i).2.2 s (p + (quotedSpec q (s.drop p)).2.1) ∧ p + (quotedSpec q (s.drop p)).2.1 ≤ s.length ∧ QuoEnd acc (quotedSpec q (s.drop p)) (quA q (as.drop i) false acc i) := by
  intro n
  have fin : ∀ (p : Nat) (as : List Atom) (i : Nat) (acc : List Nat), s[p]? = none → p ≤ s.length → Al as i s p →
    Al as (quA q (as.drop i) false acc i).2.2 s (p + (quotedSpec q (s.drop p)).2.1) ∧ p + (quotedSpec q (s.drop p)).2.1 ≤ s.length ∧ QuoEnd acc (quotedSpec q (s.drop p)) (quA q (as.drop i) false acc i) := by
    intro p as i acc hg hp h
    rw [show as.drop i = [] from h.trans (at_end hg), drop_none hg, quotedSpec_nil]
    exact ⟨h, hp, .inr (.inl ⟨rfl, rfl, [], rfl, by simp [quA]⟩)⟩
  induction n with
  | zero => intro p hn hp as i acc h; exact fin p as i acc (List.getElem?_eq_none_iff.mpr (by lia)) hp h
  | succ n ih =>
    intro p hn hp as i acc h
    cases hg : s[p]? with
    | none => exact fin p as i acc hg hp h
    | some c =>
      have hlt := (List.getElem?_eq_some_iff.mp hg).1
      have hfc := hs c (List.mem_of_getElem? hg)
      rw [drop_get hg, quotedSpec_cons]
      by_cases hc : c = 92
      · subst hc
        rw [if_neg (by lia), if_pos rfl]
        cases h2 : s[p + 1]? with
        | none =>
          rw [drop_none h2, if_pos rfl]
          obtain ⟨a1, a2⟩ := al_cons (h.trans (at_last hg h2))
          rw [drop_get a1, a2]
          simp only [quA]
          rw [if_neg (by lia), if_neg (by lia), if_neg (by lia), if_pos trivial]
          refine ⟨?_, by first | lia | (dsimp only; lia), .inr (.inl ⟨rfl, rfl, [], rfl, by simp⟩)⟩
          show as.drop (i + 1) = atoms s (p + 1)
          rw [a2, at_end h2]
        | some y =>
          have hlt2 := (List.getElem?_eq_some_iff.mp h2).1
          rw [if_neg (by rw [drop_get h2]; simp), List.head?_drop, h2]
          by_cases hy : y = 10
          · subst hy
            rw [if_pos rfl, List.drop_drop, show p + 1 + 1 = p + 2 from rfl]
            obtain ⟨a1, a2⟩ := al_cons (h.trans (at_line hg h2))
            obtain ⟨b1, b2⟩ := al_char a2 h2 (by lia)
            rw [drop_get a1, drop_get b1]
            simp only [quA]
            rw [if_neg (by lia), if_neg (by lia), if_pos trivial]
            obtain ⟨c1, c2, c3⟩ := ih (p + 2) (by lia) (by lia) as (i + 2) acc b2
            refine ⟨?_, by first | lia | (dsimp only; lia), c3.same⟩
            rw [show p + ((quotedSpec q (s.drop (p + 2))).2.1 + 2) = p + 2 + (quotedSpec q (s.drop (p + 2))).2.1 by lia]
            exact c1
          · rw [if_neg (by simpa using hy), List.drop_drop]
            obtain ⟨a1, a2⟩ := al_cons (h.trans (at_esc hg h2 hy))
            have hr := escSpec_le (s.drop (p + 1))
            rw [List.length_drop] at hr
            rw [escLaw_snd] at a2
            rw [escLaw_fst _ (hs.drop _).sur] at a1
            rw [drop_get a1]
            simp only [quA]
            rw [if_neg (by lia), if_neg (by lia), if_neg (by lia), if_neg (by lia)]
            obtain ⟨c1, c2, c3⟩ := ih (p + 1 + (escSpec (s.drop (p + 1))).2) (by lia) (by lia) as (i + 1) (acc ++ [plainC (escSpec (s.drop (p + 1))).1]) a2
            refine ⟨?_, by first | lia | (dsimp only; lia), c3.add⟩
            rw [show p + ((quotedSpec q (s.drop (p + 1 + (escSpec (s.drop (p + 1))).2))).2.1 + (escSpec (s.drop (p + 1))).2 + 1) = p + 1 + (escSpec (s.drop (p + 1))).2 + (quotedSpec q (s.drop (p + 1 + (escSpec (s.drop (p + 1))).2))).2.1 by lia]
            exact c1
      · obtain ⟨a1, a2⟩ := al_char h hg hc
        rw [drop_get a1]
        simp only [quA]
        by_cases hcq : c = q
        · rw [if_pos hcq, if_pos hcq]
          refine ⟨a2, by first | lia | (dsimp only; lia), .inl ⟨rfl, rfl, [], rfl, by simp⟩⟩
        · rw [if_neg hcq, if_neg hcq, if_neg hc]
          by_cases h10 : c = 10
          · rw [if_neg hc, if_pos h10, if_pos h10]
            exact ⟨h, by first | lia | (dsimp only; lia), .inr (.inr ⟨rfl, rfl, rfl⟩)⟩
          · rw [if_neg h10, if_neg h10, if_neg hc, if_neg (by lia)]
            obtain ⟨c1, c2, c3⟩ := ih (p + 1) (by lia) (by lia) as (i + 1) (acc ++ [c]) a2
            refine ⟨?_, by first | lia | (dsimp only; lia), ?_⟩
            · dsimp only
              rw [show p + ((quotedSpec q (s.drop (p + 1))).2.1 + 1) = p + 1 + (quotedSpec q (s.drop (p + 1))).2.1 by lia]
              exact c1
            · have hcc := plain_one hfc.1
              refine QuoEnd.add ?_
              rw [hcc]; exact c3
end Mine
end

section
set_option tactic.hygienic false
set_option linter.unusedSimpArgs false
set_option linter.unusedVariables false
set_option maxRecDepth 10000
set_option backward.match.sparseCases false
set_option genInjectivity false
set_option genSizeOf false
namespace Mine
open PySem PySem.W

theorem sw3 (s : List Nat) (a b c i : Nat) : startsAt s [a, b, c] i = (decide (s[i]? = some a) && decide (s[i + 1]? = some b) && decide (s[i + 2]? = some c)) := by
  unfold startsAt
  rw [Bool.eq_iff_iff]
  simp only [List.length_cons, List.length_nil, Bool.and_eq_true, beq_iff_eq, decide_eq_true_eq]
  cases h : s[i]? with
  | none => rw [drop_none h]; simp
  | some x =>
    rw [drop_get h]
    have h0 := (List.getElem?_eq_some_iff.mp h).1
    cases h' : s[i + 1]? with
    | none => rw [drop_none h']; simp
    | some y =>
      rw [drop_get h']
      cases h'' : s[i + 2]? with
      | none => rw [drop_none h'']; simp
      | some w =>
        rw [drop_get h'']
        have h1 := (List.getElem?_eq_some_iff.mp h'').1
        simp; lia

theorem digRun_take : ∀ s : List Nat, (∀ c ∈ s.take (digRun s), isDig c = true) ∧ digRun s ≤ s.length
  | [] => by simp [digRun]
  | c :: r => by
    obtain ⟨h1, h2⟩ := digRun_take r
    simp only [digRun]
    split
    · rename_i h
      refine ⟨?_, by simp; lia⟩
      intro x hx
      rw [List.take_succ_cons] at hx
      rcases List.mem_cons.mp hx with rfl | hx
      · exact h
      · exact h1 x hx
    · simp
theorem numExp_true {s : List Nat} {e e' : Nat} {pl : Bool} (h : numExp s e pl = (e', true)) : e' = e ∧ pl = true := by
  unfold numExp at h
  cases h1 : eAt s e with
  | false => rw [h1] at h; simp at h; exact ⟨h.1.symm, h.2⟩
  | true =>
    rw [h1] at h
    cases h2 : signAt s (e + 1) with
    | false =>
      rw [h2] at h
      cases h3 : digAt s (e + 1) with
      | false => simp [h3] at h; exact ⟨h.1.symm, h.2⟩
      | true => simp [h3] at h
    | true =>
      rw [h2] at h
      cases h3 : digAt s (e + 2) with
      | false => simp [h3] at h; exact ⟨h.1.symm, h.2⟩
      | true => simp [h3] at h
def Whole (r : List Nat) : Prop := ∃ sg ds, r = sg ++ ds ∧ (sg = [] ∨ sg = [45] ∨ sg = [43]) ∧ ds ≠ [] ∧ ∀ c ∈ ds, isDig c = true
theorem numFrom_whole {s : List Nat} {p e : Nat} (h : numFrom s p = some (e, true)) : Whole ((s.drop p).take (e - p)) := by
  have main : ∀ (e0 : Nat) (sg : List Nat), e0 = (if signAt s p then p + 1 else p) → (sg = [] ∨ sg = [45] ∨ sg = [43]) → s.drop p = sg ++ s.drop e0 → e0 = p + sg.length → Whole ((s.drop p).take (e - p)) := by
    intro e0 sg he0 hsg hd hl
    have hn := numFrom_eq s p e0 _ he0 rfl
    rw [h] at hn
    obtain ⟨h1, h2⟩ := digRun_take (s.drop e0)
    split at hn
    · have := numExp_true (Option.some.inj hn).symm
      cases this.2
    · split at hn
      · cases hn
      · rename_i hr
        have := (numExp_true (Option.some.inj hn).symm).1
        subst this
        refine ⟨sg, (s.drop e0).take (digRun (s.drop e0)), ?_, hsg, ?_, h1⟩
        · rw [hd, show e0 + digRun (s.drop e0) - p = sg.length + digRun (s.drop e0) by lia, List.take_append]
          simp
          exact List.take_of_length_le (by lia)
        · intro k
          have := congrArg List.length k
          rw [List.length_take] at this
          simp at this
          simp at h2
          lia
  cases hg : signAt s p with
  | false => exact main p [] (by rw [hg]; rfl) (.inl rfl) rfl rfl
  | true =>
    obtain ⟨c, h1, h2⟩ := pred_some (f := fun c => decide (c = 45 ∨ c = 43)) hg
    rw [decide_eq_true_eq] at h2
    exact main (p + 1) [c] (by rw [hg]; rfl) (by rcases h2 with rfl | rfl <;> simp) (drop_get h1) rfl
theorem hexV_dig {c : Nat} (h : isDig c = true) : isHex c = true ∧ (hexV c).getD 0 = c - 48 := by
  unfold isDig at h
  have h := of_decide_eq_true h
  unfold isHex hexV
  rw [if_pos h]
  exact ⟨rfl, rfl⟩
theorem cnt_digs : ∀ (ds : List Nat) (n : Nat), (∀ c ∈ ds, isDig c = true) → cntF n ds = ds.foldl (fun a c => a * 10 + (c - 48)) n
  | [], _, _ => rfl
  | c :: r, n, h => by
    obtain ⟨h1, h2⟩ := hexV_dig (h c List.mem_cons_self)
    simp only [cntF, List.foldl_cons]
    rw [if_pos h1, h2, cnt_digs r _ fun x hx => h x (List.mem_cons_of_mem _ hx), Nat.mul_comm]
theorem whole_val {r : List Nat} (h : Whole r) : cntV r = numVal r := by
  obtain ⟨sg, ds, rfl, hsg, hne, hd⟩ := h
  have h0 := cnt_digs ds 0 hd
  cases ds with
  | nil => exact absurd rfl hne
  | cons c0 ds =>
    have hc := hd c0 List.mem_cons_self
    unfold isDig at hc
    have hc := of_decide_eq_true hc
    rcases hsg with rfl | rfl | rfl
    · simp only [List.nil_append]
      have n45 : c0 ≠ 45 := by lia
      have n43 : c0 ≠ 43 := by lia
      unfold cntV
      rw [h0]
      rw [if_neg (by simp; lia)]
      show _ = if some c0 = some 45 then _ else if some c0 = some 43 then _ else _
      rw [if_neg fun e => n45 (Option.some.inj e), if_neg fun e => n43 (Option.some.inj e)]
      rfl
    · have e1 : cntF 0 ([45] ++ c0 :: ds) = cntF 0 (c0 :: ds) := rfl
      unfold cntV
      rw [e1, h0]
      rfl
    · have e1 : cntF 0 ([43] ++ c0 :: ds) = cntF 0 (c0 :: ds) := rfl
      unfold cntV
      rw [e1, h0]
      rfl

theorem nm_pos {as : List Atom} {i p : Nat} {s : List Nat} (h : Al as i s p) : 0 < nmRun as i ↔ hashStart (s.drop p) = true := by
  rw [nmRun_get]
  cases hg : s[p]? with
  | none => rw [get_drop_nil (h.trans (at_end hg)), drop_none hg]; simp [hashStart]
  | some c =>
    rw [drop_get hg]
    unfold hashStart
    dsimp only
    rw [List.head?_drop]
    by_cases hc : c = 92
    · subst hc
      rw [isNC92]
      cases h2 : s[p + 1]? with
      | none =>
        obtain ⟨a1, a2⟩ := al_cons (h.trans (at_last hg h2))
        rw [a1]; simp [isNClast]
      | some y =>
        by_cases hy : y = 10
        · subst hy
          obtain ⟨a1, a2⟩ := al_cons (h.trans (at_line hg h2))
          rw [a1]; simp [isNC92]
        · obtain ⟨a1, a2⟩ := al_cons (h.trans (at_esc hg h2 hy))
          rw [a1]; simp [isNCesc, hy]
    · obtain ⟨a1, a2⟩ := al_char h hg hc
      rw [a1]
      cases q : isNC c <;> simp [hc, q]
theorem Fine.take {s : List Nat} (h : Fine s) (n : Nat) : Fine (s.take n) := fun c hc => h c (List.mem_of_mem_take hc)
theorem mkN_plain {c : Nat} (h : c < 1114112) : mkN c = [c] := by unfold mkN; rw [if_neg (by lia), if_neg (by lia)]

section
variable {ser : List Nat → List Nat} {s : List Nat} {as : List Atom} {i p : Nat}
theorem dd_al {c : Nat} (h : Al as i s p) (hg : s[p]? = some c) : ((codesA as)[i]? = some 45 ∧ (codesA as)[i + 1]? = some 45 ∧ (codesA as)[i + 2]? = some 62) ↔ startsAt s [45, 45, 62] p = true := by
  rw [sw3]
  simp only [Bool.and_eq_true, decide_eq_true_eq]
  have h1 := al_is (k := 45) h (by lia) (by lia)
  rw [h1, and_assoc]
  constructor
  · rintro ⟨a, b, c⟩
    have s1 := Sm.one h a (by lia)
    have h2 := (al_is (k := 45) s1.al (by lia) (by lia)).mp b
    have s2 := Sm.one s1.al h2 (by lia)
    exact ⟨a, h2, (al_is (k := 62) s2.al (by lia) (by lia)).mp c⟩
  · rintro ⟨a, b, c⟩
    have s1 := Sm.one h a (by lia)
    have s2 := Sm.one s1.al b (by lia)
    exact ⟨a, (al_is (k := 45) s1.al (by lia) (by lia)).mpr b, (al_is (k := 62) s2.al (by lia) (by lia)).mpr c⟩

theorem num_al (hs : Fine s) {j e : Nat} {pl : Bool} (a : Sm as s i p j e) (hw : pl = true → Whole ((s.drop p).take (e - p))) :
    let R : List TK × Nat := if identStart (s.drop e) then ([.dim ((s.drop p).take (e - p)) (ivOf pl ((s.drop p).take (e - p))) (identSpec (s.drop e)).1], e + (identSpec (s.drop e)).2)
        else if s[e]? = some 37 then ([.pct ((s.drop p).take (e - p)) (ivOf pl ((s.drop p).take (e - p)))], e + 1)
        else ([.num ((s.drop p).take (e - p)) (ivOf pl ((s.drop p).take (e - p)))], e)
    (rdNum as i j pl).1 = R.1.map plainTK ∧ Al as (rdNum as i j pl).2 s R.2 := by
  dsimp only
  have hiv : (if pl = true then some (cntV ((s.drop p).take (e - p))) else none) = ivOf pl ((s.drop p).take (e - p)) := by
    unfold ivOf
    cases pl with
    | false => rfl
    | true => simp only [if_true]; rw [whole_val (hw rfl)]
  unfold rdNum
  rw [starts_al a.al, a.vals, hiv]
  cases hi : identStart (s.drop e) with
  | true =>
    simp only [if_true]
    obtain ⟨h1, h2, h3⟩ := ident_al hs _ e (Nat.le_refl _) a.le.2.2.2 as j a.al
    exact ⟨by rw [h2]; rfl, h1⟩
  | false =>
    simp only [Bool.false_eq_true, if_false]
    have h37 := al_is (k := 37) a.al (by lia) (by lia)
    by_cases q : s[e]? = some 37
    · rw [if_pos (h37.mpr q), if_pos q]
      exact ⟨rfl, (Sm.one a.al q (by lia)).al⟩
    · rw [if_neg (fun k => q (h37.mp k)), if_neg q]
      exact ⟨rfl, a.al⟩

theorem step_al (hs : Fine s) (h : Al as i s p) (hp : p < s.length) : (rdStep as i).1 = (tkStep ser s p).1.map plainTK ∧ Al as (rdStep as i).2 s (tkStep ser s p).2 := by
  obtain ⟨c, hg⟩ : ∃ c, s[p]? = some c := ⟨_, List.getElem?_eq_getElem hp⟩
  have hfc := hs c (List.mem_of_getElem? hg)
  have hcode := al_code h
  rw [hg] at hcode
  dsimp only at hcode
  obtain ⟨n, hn⟩ : ∃ n, (codesA as)[i]? = some n := by
    split at hcode
    · rcases hcode with q | q | q <;> exact ⟨_, q⟩
    · exact ⟨_, hcode⟩
  have his : ∀ k, k ≠ 92 → k < 1000 → (n = k ↔ c = k) := by
    intro k h1 h2
    have := al_is (k := k) h h1 h2
    rw [hn, hg] at this
    simpa using this
  have hbl : isBl n = isBl c := by
    have := al_pred isBl (by simp [isBl]) (by simp [isBl]) (by simp [isBl]) h
    rw [hn, hg] at this
    exact this
  have hdd := dd_al h hg
  rw [hn] at hdd
  unfold rdStep tkStep
  rw [hn, hg]
  dsimp only
  rw [hbl]
  cases hb : isBl c with
  | true =>
    simp only [if_true]
    obtain ⟨h1, h2⟩ := ws_sm h (by lia)
    have hw : wsRun (s.drop p) = 1 + wsRun (s.drop (p + 1)) := by
      rw [drop_get hg, wsRun, if_pos hb]; lia
    rw [h1]
    rw [hw] at h2 ⊢
    refine ⟨?_, h2.al⟩
    rw [h2.vals, show p + (1 + wsRun (s.drop (p + 1))) - p = 1 + wsRun (s.drop (p + 1)) by lia]
    simp only [List.map_cons, List.map_nil, plainTK]
    rw [plain_id ((hs.drop p).take _)]
  | false =>
    simp only [Bool.false_eq_true, if_false]
    by_cases q1 : startsAt s [45, 45, 62] p = true
    · have q2 := hdd.mpr q1
      rw [if_pos ⟨Option.some.inj q2.1, q2.2⟩, if_pos q1]
      rw [sw3] at q1
      simp only [Bool.and_eq_true, decide_eq_true_eq] at q1
      have s1 := Sm.one h q1.1.1 (by lia)
      have s2 := Sm.one s1.al q1.1.2 (by lia)
      have s3 := Sm.one s2.al q1.2 (by lia)
      exact ⟨by simp [plainTK, plainC], s3.al⟩
    · rw [if_neg (fun k => q1 (hdd.mp ⟨by rw [k.1], k.2⟩)), if_neg q1]
      rw [starts_al h]
      cases hid : identStart (s.drop p) with
      | true =>
        simp only [if_true]
        obtain ⟨h1, h2, h3⟩ := ident_al hs _ p (Nat.le_refl _) (by lia) as i h
        exact ⟨by rw [h2]; rfl, h1⟩
      | false =>
        simp only [Bool.false_eq_true, if_false]
        have hnf := numFrom_sm h (by lia)
        unfold numLaw
        cases hnum : numFrom s p with
        | some ep =>
          obtain ⟨e, pl⟩ := ep
          rw [hnum] at hnf
          obtain ⟨j, h1, h2, h3⟩ := hnf
          rw [h1]
          dsimp only
          have := h2.le
          rw [if_pos (by lia)]
          exact num_al hs h2 (fun k => by subst k; exact numFrom_whole hnum)
        | none =>
          rw [hnum] at hnf
          rw [hnf]
          dsimp only
          rw [if_neg (Nat.lt_irrefl _)]
          have h64 := his 64 (by lia) (by lia)
          have h35 := his 35 (by lia) (by lia)
          have h34 := his 34 (by lia) (by lia)
          have h39 := his 39 (by lia) (by lia)
          by_cases c64 : c = 64
          · have s1 := Sm.one h hg (by lia)
            rw [if_pos c64]
            rw [starts_al s1.al]
            cases hi2 : identStart (s.drop (p + 1)) with
            | true =>
              rw [if_pos ⟨h64.mpr c64, rfl⟩]
              simp only [if_true]
              obtain ⟨h1, h2, h3⟩ := ident_al hs _ (p + 1) (Nat.le_refl _) (by lia) as (i + 1) s1.al
              exact ⟨by rw [h2]; rfl, h1⟩
            | false =>
              rw [if_neg (fun k => by cases k.2), if_neg (by lia), if_neg (by lia)]
              simp only [Bool.false_eq_true, if_false]
              refine ⟨?_, s1.al⟩
              have : n = 64 := h64.mpr c64
              subst this
              simp [plainTK, plainC, mkN_plain]
          · rw [if_neg (fun k => c64 (h64.mp k.1)), if_neg c64]
            by_cases c35 : c = 35
            · have s1 := Sm.one h hg (by lia)
              rw [if_pos c35]
              have hnm := nm_pos s1.al
              cases hi2 : hashStart (s.drop (p + 1)) with
              | true =>
                rw [if_pos ⟨h35.mpr c35, hnm.mpr hi2⟩]
                simp only [if_true]
                obtain ⟨h1, h2, h3⟩ := ident_al hs _ (p + 1) (Nat.le_refl _) (by lia) as (i + 1) s1.al
                exact ⟨by rw [h2, starts_al s1.al]; rfl, h1⟩
              | false =>
                rw [if_neg (fun k => by rw [hnm.mp k.2] at hi2; cases hi2), if_neg (by lia)]
                simp only [Bool.false_eq_true, if_false]
                refine ⟨?_, s1.al⟩
                have : n = 35 := h35.mpr c35
                subst this
                simp [plainTK, plainC, mkN_plain]
            · rw [if_neg (fun k => c35 (h35.mp k.1)), if_neg c35]
              by_cases cq : c = 34 ∨ c = 39
              · have s1 := Sm.one h hg (by lia)
                have hnc : n = c := by rcases cq with q | q <;> lia
                subst hnc
                rw [if_pos cq, if_pos cq]
                obtain ⟨h1, h2, h3⟩ := quo_al hs cq _ (p + 1) (Nat.le_refl _) (by lia) as (i + 1) [] s1.al
                refine ⟨?_, h1⟩
                unfold rdQuo strToks
                rcases h3 with ⟨a, b, v, c1, d⟩ | ⟨a, b, v, c1, d⟩ | ⟨a, b, c1⟩
                · rw [a, b, c1, d]
                  rw [if_neg (show ¬ ([] : List Nat) = S_bad by decide), if_pos rfl]
                  simp [plainTK]
                · rw [a, b, c1, d]
                  rw [if_neg (show ¬ S_eof = S_bad by decide), if_neg (show ¬ S_eof = ([] : List Nat) by decide), if_pos rfl]
                  simp [plainTK]
                · rw [a, b, c1]
                  rw [if_pos rfl, if_neg (show ¬ S_bad = ([] : List Nat) by decide), if_neg (show ¬ S_bad = S_eof by decide)]
                  simp [plainTK]
              · rw [if_neg (by lia), if_neg cq]
                dsimp only
                by_cases c92 : c = 92
                · subst c92
                  have h10 : s[p + 1]? = some 10 := by
                    rw [drop_get hg] at hid
                    unfold identStart at hid
                    have n92 : isNS 92 = false := by simp [isNS, isNS0]
                    dsimp only at hid
                    rw [n92, if_neg Bool.false_ne_true, if_neg (by lia), if_pos rfl, List.head?_drop] at hid
                    simpa using hid
                  obtain ⟨a1, a2⟩ := al_cons (h.trans (at_line hg h10))
                  have : n = 92 := by rw [codesA_get, a1] at hn; simpa using hn.symm
                  subst this
                  exact ⟨by simp [plainTK, plainC, mkN_plain], a2⟩
                · rw [if_neg c92] at hcode
                  rw [hn] at hcode
                  cases hcode
                  refine ⟨?_, (Sm.one h hg c92).al⟩
                  rw [mkN_plain hfc.2]
                  simp only [List.map_cons, List.map_nil, plainTK, plain_one hfc.1]
end
end Mine
end

section
set_option tactic.hygienic false
set_option linter.unusedSimpArgs false
set_option linter.unusedVariables false
set_option maxRecDepth 10000
set_option backward.match.sparseCases false
set_option genInjectivity false
set_option genSizeOf false
namespace Mine
open PySem PySem.W

noncomputable def parseTK (ser : List Nat → List Nat) (s : List Nat) : Nat → Nat → List ((Nat × Nat) × TK)
  | 0, _ => []
  | n + 1, p => if p < s.length then (tkStep ser s p).1.map (fun t => (placeAt s p, t)) ++ parseTK ser s n (tkStep ser s p).2 else []
theorem parseToks_TK (cl : Cls) (ser : List Nat → List Nat) (s : List Nat) : ∀ (n p : Nat), parseToks cl ser s n p = (parseTK ser s n p).map (ndPV cl)
  | 0, _ => rfl
  | n + 1, p => by
    simp only [parseToks, parseTK]
    split
    · rw [List.map_append, parseToks_TK cl ser s n]
      congr 1
      simp [placed, ndPV, Function.comp_def]
    · rfl
theorem places_get (s : List Nat) : ∀ (k q l c : Nat), placeAt s q = (l, c) → q + k < s.length → (placesF l c (s.drop q))[k]? = some (placeAt s (q + k))
  | k, q, l, c, h, hk => by
    obtain ⟨x, hx⟩ : ∃ x, s[q]? = some x := ⟨_, List.getElem?_eq_getElem (by lia)⟩
    rw [drop_get hx]
    cases k with
    | zero => simp only [placesF, List.getElem?_cons_zero]; rw [Nat.add_zero, h]
    | succ k =>
      simp only [placesF, List.getElem?_cons_succ]
      have hs := placeAt_succ s q
      rw [h] at hs
      have hi : isAt s 10 q = decide (x = 10) := by unfold isAt; rw [hx]; simp
      rw [hi] at hs
      rw [show q + (k + 1) = q + 1 + k by lia]
      by_cases q10 : x = 10
      · rw [if_pos q10]
        rw [q10] at hs
        exact places_get s k (q + 1) _ _ (by rw [hs]; rfl) (by lia)
      · rw [if_neg q10]
        refine places_get s k (q + 1) _ _ ?_ (by lia)
        rw [hs, if_neg (by simpa using q10)]
theorem numFrom_bound {s : List Nat} {p e : Nat} {pl : Bool} (h : numFrom s p = some (e, pl)) (hp : p ≤ s.length) : p < e ∧ e ≤ s.length := by
  have := numFrom_sm (as := atoms s p) (i := 0) (s := s) (p := p) rfl hp
  rw [h] at this
  obtain ⟨j, _, h2, h3⟩ := this
  exact ⟨h3, h2.le.2.2.2⟩
theorem numFrom_out {s : List Nat} {p : Nat} (hp : s.length < p) : numFrom s p = none := by
  have h0 : ∀ k, s[p + k]? = none := fun k => List.getElem?_eq_none_iff.mpr (by lia)
  have h00 : s[p]? = none := h0 0
  have hs : signAt s p = false := by unfold signAt; rw [h00]
  have hd : digRun (s.drop p) = 0 := by rw [drop_none h00]; rfl
  rw [numFrom_eq s p p 0 (by rw [hs]; rfl) hd, Nat.add_zero, if_neg (by rw [h00]; simp), if_pos rfl]
theorem numFrom_bound' {s : List Nat} {p e : Nat} {pl : Bool} (h : numFrom s p = some (e, pl)) : p < e ∧ e ≤ s.length := by
  rcases Nat.lt_or_ge s.length p with q | q
  · rw [numFrom_out q] at h; cases h
  · exact numFrom_bound h q

theorem total_al {ser : List Nat → List Nat} {s : List Nat} (hs : Fine s) : ∀ (n p : Nat) (as : List Atom) (i k : Nat), Al as i s p → s.length - p ≤ n → as.length - i ≤ k → (parseTK ser s n p).map toPV = rdRows as (placesF 1 1 s) k i
  | 0, p, as, i, k, h, hn, hk => by
    have hg : s[p]? = none := List.getElem?_eq_none_iff.mpr (by lia)
    have ha : as[i]? = none := get_drop_nil (h.trans (at_end hg))
    rw [rdRows_end (by have := List.getElem?_eq_none_iff.mp ha; lia)]; rfl
  | n + 1, p, as, i, k, h, hn, hk => by
    by_cases hp : p < s.length
    · obtain ⟨h1, h2⟩ := step_al (ser := ser) hs h hp
      have hpos := tkStep_pos (ser := ser) hp fun e pl h => numFrom_bound' h
      have hc := atoms_cons hp
      obtain ⟨a1, a2⟩ := al_cons (h.trans hc)
      have hil := (List.getElem?_eq_some_iff.mp a1).1
      have hrd := rdStep_pos hil
      obtain ⟨k, rfl⟩ : ∃ k', k = k' + 1 := ⟨k - 1, by lia⟩
      simp only [parseTK, rdRows]
      rw [if_pos hp, if_pos hil, List.map_append, total_al hs n _ as _ k h2 (by lia) (by lia), h1]
      congr 1
      have hb : (as.getD i (0, 0, 0)).2.2 = p := by
        rw [List.getD_eq_getElem?_getD, a1]
        exact atomAt_beg hp
      have hpl : (placesF 1 1 s).getD p (1, 1) = placeAt s p := by
        have := places_get s p 0 1 1 rfl (by lia)
        rw [List.drop_zero, Nat.zero_add] at this
        rw [List.getD_eq_getElem?_getD, this]; rfl
      rw [hb, hpl]
      simp [toPV, Function.comp_def]
    · have hg : s[p]? = none := List.getElem?_eq_none_iff.mpr (by lia)
      have ha : as[i]? = none := get_drop_nil (h.trans (at_end hg))
      rw [rdRows_end (by have := List.getElem?_eq_none_iff.mp ha; lia)]
      simp only [parseTK]
      rw [if_neg hp]; rfl

set_option tactic.hygienic true in
theorem parseTK_len {ser : List Nat → List Nat} {s : List Nat} : ∀ (n p : Nat), (parseTK ser s n p).length ≤ 2 * n ∧ ∀ q ∈ parseTK ser s n p, tkLen q.2 ≤ s.length
  | 0, _ => by simp [parseTK]
  | n + 1, p => by
    simp only [parseTK]
    split
    · rename_i hp
      obtain ⟨h1, h2⟩ := parseTK_len (ser := ser) (s := s) n (tkStep ser s p).2
      have hpos := tkStep_pos (ser := ser) hp fun e pl h => numFrom_bound' h
      refine ⟨by rw [List.length_append, List.length_map]; lia, ?_⟩
      intro q hq
      rcases List.mem_append.mp hq with hq | hq
      · obtain ⟨t, ht, rfl⟩ := List.mem_map.mp hq
        dsimp only
        have id1 : ∀ k, (identSpec (s.drop k)).1.length ≤ s.length := fun k => by
          have := (identSpec_len _ (s.drop k) (Nat.le_refl _)).1
          rw [List.length_drop] at this; lia
        unfold tkStep at ht
        obtain ⟨c, hg⟩ : ∃ c, s[p]? = some c := ⟨_, List.getElem?_eq_getElem hp⟩
        rw [hg] at ht
        dsimp only at ht
        split at ht
        · rw [List.mem_singleton] at ht; subst ht
          simp only [tkLen, List.length_take, List.length_drop]; lia
        · split at ht
          · rename_i h3
            have := sw_len h3
            rw [List.mem_singleton] at ht; subst ht
            simp only [tkLen, List.length_cons, List.length_nil] at this ⊢; lia
          · split at ht
            · rw [List.mem_singleton] at ht; subst ht
              exact id1 p
            · split at ht
              · split at ht
                · rw [List.mem_singleton] at ht; subst ht
                  exact id1 _
                · split at ht <;> (rw [List.mem_singleton] at ht; subst ht; exact Nat.zero_le _)
              · split at ht
                · split at ht
                  · rw [List.mem_singleton] at ht; subst ht
                    exact id1 _
                  · rw [List.mem_singleton] at ht; subst ht
                    simp only [tkLen, List.length_cons, List.length_nil]; lia
                · split at ht
                  · split at ht
                    · rw [List.mem_singleton] at ht; subst ht
                      exact id1 _
                    · rw [List.mem_singleton] at ht; subst ht
                      simp only [tkLen, List.length_cons, List.length_nil]; lia
                  · split at ht
                    · have hql := (quotedSpec_len c _ (s.drop (p + 1)) (Nat.le_refl _)).1
                      unfold strToks at ht
                      dsimp only at ht
                      rcases List.mem_append.mp ht with ht | ht
                      · split at ht
                        · cases ht
                        · rename_i v hv
                          rw [List.mem_singleton] at ht; subst ht
                          have := hql v hv
                          rw [List.length_drop] at this
                          simp only [tkLen]; lia
                      · split at ht
                        · cases ht
                        · rw [List.mem_singleton] at ht; subst ht; exact Nat.zero_le _
                    · rw [List.mem_singleton] at ht; subst ht
                      simp only [tkLen, List.length_cons, List.length_nil]; lia
      · exact h2 q hq
    · simp
end Mine
end

section
set_option tactic.hygienic false
set_option linter.unusedSimpArgs false
set_option linter.unusedVariables false
set_option maxRecDepth 10000
set_option backward.match.sparseCases false
set_option genInjectivity false
set_option genSizeOf false
namespace Mine
open PySem PySem.W PySem.StrLaws PySem.Builtin PySem.Builtin.Str

noncomputable def occL (p s : List Nat) : Nat → Nat → Nat → List Nat
  | _, _, 0 => []
  | free, i, n + 1 => if free ≤ i ∧ startsAt s p i = true then i :: occL p s (i + p.length) (i + 1) n else occL p s free (i + 1) n
theorem occ_run (p s : List Nat) : ∀ (n i : Nat) (st : Array Nat × Nat), st.1.size ≤ i → i + n = s.length + 1 →
    (forIn (List.range' i n) st (occBody (sOf s) (sOf p) (sOf s).length (s.length + 1))).run.1.toList = st.1.toList ++ occL p s st.2 i n
  | 0, i, st, _, _ => by simp [occL]
  | n + 1, i, st, h1, h2 => by
    rw [List.range'_succ, List.forIn_cons]
    unfold occBody occL
    have hs := startsAt_eq s p i
    by_cases h : st.2 ≤ i ∧ startsAt s p i = true
    · rw [h.2, Bool.and_eq_true, decide_eq_true_eq] at hs
      rw [if_pos ⟨⟨⟨by lia, h.1⟩, hs.1⟩, hs.2⟩, if_pos h]
      have := occ_run p s n (i + 1) (st.1.push i, i + (sOf p).length) (by simp; lia) (by lia)
      refine Eq.trans this ?_
      simp [sOf_length]
    · rw [if_neg (fun q => h ⟨q.1.1.2, by rw [← hs, Bool.and_eq_true, decide_eq_true_eq]; exact ⟨q.1.2, q.2⟩⟩), if_neg h]
      have := occ_run p s n (i + 1) (st.1, st.2) (by dsimp only; lia) (by lia)
      exact this
theorem occ_is (p s : List Nat) : occurrences (sOf s) (sOf p) 0 s.length (s.length + 1) = occL p s 0 0 (s.length + 1) := by
  rw [occ_eq]
  have hl : (sOf s).length = s.length := sOf_length s
  have := occ_run p s (s.length + 1) 0 (#[], 0) (by simp) (by lia)
  rw [hl] at this
  simpa using this
theorem occL_skip (p s : List Nat) : ∀ (k free i n : Nat), free = i + k → occL p s free i (k + n) = occL p s free free n
  | 0, free, i, n, h => by rw [Nat.add_zero] at h; subst h; rw [Nat.zero_add]
  | k + 1, free, i, n, h => by
    rw [show k + 1 + n = k + n + 1 by lia, occL, if_neg (by lia)]
    exact occL_skip p s k free (i + 1) n (by lia)
noncomputable def rep (p : List Nat) (q : Nat) : Nat → List Nat → List Nat
  | 0, s => s
  | _, [] => []
  | n + 1, c :: r => if startsAt (c :: r) p 0 = true then q :: rep p q n ((c :: r).drop p.length) else c :: rep p q n r
theorem startsAt_drop (s p : List Nat) (i : Nat) (h : i ≤ s.length) : startsAt (s.drop i) p 0 = startsAt s p i := by
  unfold startsAt
  rw [List.drop_zero, List.length_drop]
  congr 1
  rw [Bool.eq_iff_iff]; simp; lia
theorem sub_list (s : List Nat) (a b : Nat) : (strSub (sOf s) a b).cps.toList = (s.drop a).take (b - a) := by
  rw [strSub_toList]
theorem str_app (x y : Str) : (x ++ y).cps.toList = x.cps.toList ++ y.cps.toList := by
  simp [Str.cps_append]
theorem join_cons (z x : Str) {l : List Str} (h : l ≠ []) : Str.join z (x :: l) = x ++ z ++ Str.join z l := by
  cases l with
  | nil => exact absurd rfl h
  | cons => rfl
theorem rep_join (p : List Nat) (q : Nat) (s : List Nat) (hp : p ≠ []) : ∀ (m n i a : Nat), n ≤ m → i + n = s.length + 1 → a ≤ i → i ≤ s.length + 1 →
    (Str.join (sOf [q]) (partsFrom (sOf s) p.length a (occL p s i i n))).cps.toList = (s.drop a).take (i - a) ++ rep p q n (s.drop i) := by
  intro m
  induction m with
  | zero =>
    intro n i a hm hn ha hi
    have h0 : n = 0 := by lia
    subst h0
    have : (sOf s).length = s.length := sOf_length s
    show (strSub (sOf s) a (sOf s).length).cps.toList = _
    rw [this, sub_list]
    simp only [rep]
    rw [List.drop_eq_nil_of_le (show s.length ≤ i by lia), List.append_nil, List.take_of_length_le (by simp), List.take_of_length_le (by simp; lia)]
  | succ m ih =>
    intro n i a hm hn ha hi
    cases n with
    | zero => exact ih 0 i a (by lia) hn ha hi
    | succ n =>
      have hpl : 0 < p.length := List.length_pos_iff.mpr hp
      rw [occL]
      by_cases h : startsAt s p i = true
      · rw [if_pos ⟨Nat.le_refl _, h⟩]
        have hsl : i + p.length ≤ s.length := by
          unfold startsAt at h
          simp only [Bool.and_eq_true, decide_eq_true_eq] at h
          exact h.2
        obtain ⟨c, hc⟩ : ∃ c, s[i]? = some c := ⟨_, List.getElem?_eq_getElem (by lia)⟩
        have hdr := drop_get hc
        have hk := occL_skip p s (p.length - 1) (i + p.length) (i + 1) (n - (p.length - 1)) (by lia)
        rw [show p.length - 1 + (n - (p.length - 1)) = n by lia] at hk
        rw [hk]
        show (Str.join (sOf [q]) (strSub (sOf s) a i :: partsFrom (sOf s) p.length (i + p.length) (occL p s (i + p.length) (i + p.length) (n - (p.length - 1))))).cps.toList = _
        obtain ⟨w1, w2, hw⟩ := partsFrom_ne (sOf s) p.length (i + p.length) (occL p s (i + p.length) (i + p.length) (n - (p.length - 1)))
        rw [join_cons _ _ (by rw [hw]; simp), str_app, str_app, ih _ (i + p.length) (i + p.length) (by lia) (by lia) (Nat.le_refl _) (by lia), sub_list]
        rw [hdr]
        have hs0 : startsAt (c :: s.drop (i + 1)) p 0 = true := by rw [← hdr, startsAt_drop s p i (by lia)]; exact h
        simp only [rep]
        rw [if_pos hs0, ← hdr, List.drop_drop, Nat.sub_self, List.take_zero, List.nil_append]
        have hf : ∀ (k j : Nat) (t : List Nat), t.length ≤ k → t.length ≤ j → rep p q k t = rep p q j t := by
          intro k
          induction k with
          | zero => intro j t h1 h2; cases t with
            | nil => cases j <;> rfl
            | cons => simp at h1
          | succ k ihk =>
            intro j t h1 h2
            cases t with
            | nil => cases j <;> rfl
            | cons x t =>
              cases j with
              | zero => simp at h2
              | succ j =>
                simp only [List.length_cons] at h1 h2
                simp only [rep]
                rw [ihk j t (by lia) (by lia), ihk j ((x :: t).drop p.length) (by simp; lia) (by simp; lia)]
        rw [hf n (n - (p.length - 1)) (s.drop (i + p.length)) (by simp; lia) (by simp; lia)]
        simp
      · rw [if_neg (fun k => h k.2)]
        cases hc : s[i]? with
        | none =>
          have := List.getElem?_eq_none_iff.mp hc
          have h0 : n = 0 := by lia
          subst h0
          have hl : (sOf s).length = s.length := sOf_length s
          show (strSub (sOf s) a (sOf s).length).cps.toList = _
          rw [hl, sub_list, drop_none hc]
          simp only [rep]
          rw [List.append_nil, List.take_of_length_le (by simp), List.take_of_length_le (by simp; lia)]
        | some c =>
          have hlt := (List.getElem?_eq_some_iff.mp hc).1
          have hdr := drop_get hc
          have hfree : ∀ (n j f f' : Nat), f ≤ j → f' ≤ j → occL p s f j n = occL p s f' j n := by
            intro n
            induction n with
            | zero => intro j f f' _ _; rfl
            | succ n ihn =>
              intro j f f' h1 h2
              simp only [occL, h1, h2, true_and]
              split
              · rfl
              · exact ihn _ _ _ (by lia) (by lia)
          rw [hfree n (i + 1) i (i + 1) (by lia) (by lia), ih n (i + 1) a (by lia) (by lia) (by lia) (by lia), take_snoc hc ha, hdr]
          simp only [rep]
          rw [if_neg (by rw [← hdr, startsAt_drop s p i (by lia)]; exact h)]
          simp
theorem rep_same (p : List Nat) (q : Nat) (s : List Nat) : ∀ (n i : Nat), i + n = s.length + 1 → occL p s i i n = [] → rep p q n (s.drop i) = s.drop i
  | 0, i, h, _ => rfl
  | n + 1, i, h, ho => by
    cases hc : s[i]? with
    | none => rw [drop_none hc]; rfl
    | some c =>
      have hlt := (List.getElem?_eq_some_iff.mp hc).1
      have hdr := drop_get hc
      rw [occL] at ho
      by_cases hs : startsAt s p i = true
      · rw [if_pos ⟨Nat.le_refl _, hs⟩] at ho; cases ho
      · rw [if_neg (fun k => hs k.2)] at ho
        rw [hdr]
        simp only [rep]
        rw [if_neg (by rw [← hdr, startsAt_drop s p i (by lia)]; exact hs)]
        have hfree : ∀ (n j f f' : Nat), f ≤ j → f' ≤ j → occL p s f j n = occL p s f' j n := by
          intro n
          induction n with
          | zero => intro j f f' _ _; rfl
          | succ n ihn =>
            intro j f f' h1 h2
            simp only [occL, h1, h2, true_and]
            split
            · rfl
            · exact ihn _ _ _ (by lia) (by lia)
        rw [rep_same p q s n (i + 1) (by lia) (by rw [hfree n (i + 1) (i + 1) i (by lia) (by lia)]; exact ho)]
theorem replL_rep (p : List Nat) (q : Nat) (s : List Nat) (hp : p ≠ []) : replL p q s = rep p q (s.length + 1) s := by
  unfold replL
  rw [occ_is]
  split
  · rename_i h
    have := rep_same p q s (s.length + 1) 0 (by lia) (List.isEmpty_iff.mp h)
    rw [List.drop_zero] at this
    exact this.symm
  · rw [glued_eq_join, partsBetween_eq, rep_join p q s hp (s.length + 1) (s.length + 1) 0 0 (Nat.le_refl _) (by lia) (Nat.le_refl _) (by lia)]
    simp
end Mine
end

section
set_option tactic.hygienic false
set_option linter.unusedSimpArgs false
set_option linter.unusedVariables false
set_option maxRecDepth 10000
set_option backward.match.sparseCases false
set_option genInjectivity false
set_option genSizeOf false
namespace Mine
open PySem PySem.W PySem.NumText

theorem sa_one (c a : Nat) (r : List Nat) : startsAt (c :: r) [a] 0 = decide (c = a) := by
  rw [sw1]; simp
theorem rep_one (a q : Nat) : ∀ (n : Nat) (s : List Nat), s.length ≤ n → rep [a] q n s = s.map fun c => if c = a then q else c
  | 0, s, h => by cases s with
    | nil => rfl
    | cons => simp at h
  | n + 1, [], _ => rfl
  | n + 1, c :: r, h => by
    simp only [List.length_cons] at h
    simp only [rep, sa_one, decide_eq_true_eq, List.map_cons]
    split
    · rw [show (c :: r).drop [a].length = r from rfl, rep_one a q n r (by lia)]
    · rw [rep_one a q n r (by lia)]
noncomputable def zz (c : Nat) : Nat := if c = 0 then 65533 else c
noncomputable def gg (c : Nat) : Nat := if c = 12 then 10 else if c = 13 then 10 else c
theorem sa_two (c : Nat) (r : List Nat) : startsAt (c :: r) [13, 10] 0 = (decide (c = 13) && decide (r.head? = some 10)) := by
  rw [sw2]
  cases r <;> simp
theorem mendF_true {r : List Nat} (h : r.head? ≠ some 10) : mendF true r = mendF false r := by
  cases r with
  | nil => rfl
  | cons c r =>
    have : c ≠ 10 := fun e => h (by rw [e]; rfl)
    simp only [mendF, this, false_and, or_false]
theorem mend_core : ∀ (n m : Nat) (s : List Nat), s.length ≤ n → s.length ≤ m → (rep [13, 10] 10 m (s.map zz)).map gg = mendF false s
  | n, m, [], _, _ => by cases m <;> rfl
  | 0, _, _ :: _, h, _ => by simp at h
  | _, 0, _ :: _, _, h => by simp at h
  | n + 1, m + 1, c :: r, h, h' => by
    simp only [List.length_cons] at h h'
    simp only [List.map_cons, rep, sa_two]
    by_cases h13 : c = 13
    · subst h13
      have hz : zz 13 = 13 := by simp [zz]
      rw [hz]
      by_cases h10 : r.head? = some 10
      · cases r with
        | nil => cases h10
        | cons x r =>
          have : x = 10 := by simpa using h10
          subst this
          have hz2 : zz 10 = 10 := by simp [zz]
          simp only [List.map_cons, hz2, List.head?_cons, decide_true, Bool.and_self, if_true]
          simp only [List.length_cons] at h h'
          rw [show (13 :: 10 :: r.map zz).drop [13, 10].length = r.map zz from rfl, mend_core n m r (by lia) (by lia)]
          simp [mendF, gg]
      · have hh : ¬ (r.map zz).head? = some 10 := by
          cases r with
          | nil => simp
          | cons x r =>
            intro k
            have : zz x = 10 := by simpa using k
            unfold zz at this
            split at this
            · lia
            · exact h10 (by rw [this]; rfl)
        simp only [hh, decide_false, Bool.and_false, Bool.false_eq_true, if_false]
        rw [List.map_cons, mend_core n m r (by lia) (by lia)]
        simp only [mendF]
        rw [if_pos (.inl trivial), show ((13 : Nat) == 13) = true from rfl, mendF_true h10]
        simp [gg]
    · have hz : zz c ≠ 13 := by
        unfold zz; split
        · lia
        · exact h13
      simp only [hz, decide_false, Bool.false_and, Bool.false_eq_true, if_false]
      rw [List.map_cons, mend_core n m r (by lia) (by lia)]
      simp only [mendF]
      have hb : (c == 13) = false := by simpa using h13
      rw [hb]
      have hgz : gg (zz c) :: mendF false r = (if c = 13 ∨ c = 12 ∨ c = 10 ∧ True then [10] else if c = 10 then [] else [if c = 0 then 65533 else c]) ++ mendF false r := by
        by_cases q12 : c = 12
        · subst q12; simp [gg, zz]
        · by_cases q10 : c = 10
          · subst q10; simp [gg, zz]
          · by_cases q0 : c = 0
            · subst q0; simp [gg, zz]
            · simp [gg, zz, h13, q12, q10, q0]
      exact hgz
theorem mendR_is (t : List Nat) : mendR t = mendF false t ∧ m0 t = t.map zz ∧ m1 t = rep [13, 10] 10 (t.length + 1) (t.map zz) ∧ m2 t = (m1 t).map (fun c => if c = 13 then 10 else c) := by
  have h0 : m0 t = t.map zz := by
    unfold m0
    rw [replL_rep _ _ _ (by simp), rep_one _ _ _ _ (by lia)]; rfl
  have h1 : m1 t = rep [13, 10] 10 (t.length + 1) (t.map zz) := by
    unfold m1
    rw [replL_rep _ _ _ (by simp), h0, List.length_map]
  have h2 : m2 t = (m1 t).map (fun c => if c = 13 then 10 else c) := by
    unfold m2
    rw [replL_rep _ _ _ (by simp), rep_one _ _ _ _ (by lia)]
  refine ⟨?_, h0, h1, h2⟩
  unfold mendR
  rw [replL_rep _ _ _ (by simp), rep_one _ _ _ _ (by lia), h2, h1, List.map_map, ← mend_core t.length (t.length + 1) t (Nat.le_refl _) (by lia)]
  apply List.map_congr_left
  intro c _
  simp only [Function.comp_apply, gg]
  by_cases q : c = 13
  · subst q; simp
  · rw [if_neg q]
theorem rep_facts (p : List Nat) (q : Nat) : ∀ (n : Nat) (s : List Nat), (∀ c ∈ rep p q n s, c = q ∨ c ∈ s) ∧ (p ≠ [] → (rep p q n s).length ≤ s.length)
  | 0, s => ⟨fun c h => .inr h, fun xx => Nat.le_refl _⟩
  | _ + 1, [] => ⟨fun c h => .inr h, fun xx => Nat.le_refl _⟩
  | n + 1, c :: r => by
    simp only [rep]
    split
    · obtain ⟨h1, h2⟩ := rep_facts p q n ((c :: r).drop p.length)
      refine ⟨?_, fun hp => ?_⟩
      · intro x hx
        rcases List.mem_cons.mp hx with rfl | hx
        · exact .inl rfl
        · rcases h1 x hx with h | h
          · exact .inl h
          · exact .inr (List.mem_of_mem_drop h)
      · have := h2 hp
        have hp' := List.length_pos_iff.mpr hp
        rw [List.length_drop] at this
        simp only [List.length_cons] at this ⊢
        lia
    · obtain ⟨h1, h2⟩ := rep_facts p q n r
      refine ⟨?_, fun hp => ?_⟩
      · intro x hx
        rcases List.mem_cons.mp hx with rfl | hx
        · exact .inr List.mem_cons_self
        · rcases h1 x hx with h | h
          · exact .inl h
          · exact .inr (List.mem_cons_of_mem _ h)
      · have := h2 hp
        simp only [List.length_cons]; lia
theorem mendF_mem : ∀ (b : Bool) (s : List Nat), ∀ c ∈ mendF b s, c = 10 ∨ c = 65533 ∨ c ∈ s
  | _, [], c, h => by simp [mendF] at h
  | b, x :: r, c, h => by
    simp only [mendF] at h
    rcases List.mem_append.mp h with h | h
    · split at h
      · rw [List.mem_singleton] at h; exact .inl h
      · split at h
        · cases h
        · rw [List.mem_singleton] at h
          split at h
          · exact .inr (.inl h)
          · exact .inr (.inr (by rw [h]; exact List.mem_cons_self))
    · rcases mendF_mem _ r c h with h | h | h
      · exact .inl h
      · exact .inr (.inl h)
      · exact .inr (.inr (List.mem_cons_of_mem _ h))

theorem intText_plus {cs : List Nat} (h : AllDigits cs) (h1 : cs ≠ []) (h2 : cs.length ≤ 600) : PySem.intText? (sOf (43 :: cs)) = some ((digitsVal cs : Nat) : Int) := by
  have hx : (sOf (43 :: cs)).cps.toList = 43 :: cs := rfl
  have hs : ∀ c ∈ (43 :: cs : List Nat), c = 43 ∨ (48 ≤ c ∧ c ≤ 57) := by
    intro c hc
    rcases List.mem_cons.mp hc with e | hc
    · exact .inl e
    · exact .inr (h c hc)
  have e1 : numTextOf (sOf (43 :: cs)) = 43 :: cs := by
    refine if_pos ?_
    rw [← Array.all_toList, List.all_eq_true]
    intro c hc
    have := hs c hc
    exact decide_eq_true (by lia)
  have e2 : numSeenOf (sOf (43 :: cs)) = 43 :: cs := by
    show (numTextOf (sOf (43 :: cs))).takeWhile _ = _
    rw [e1]
    refine takeWhile_all fun c hc => ?_
    have := hs c hc
    exact bne_iff_ne.mpr (by lia)
  unfold PySem.intText?
  rw [e1, e2]
  rw [if_pos (beq_self_eq_true _)]
  have es : sign ((43 :: cs).dropWhile blank) = (false, cs) := by rw [dropWhile_of (by decide)]; rfl
  have ec : core (43 :: cs) = cs := by
    unfold core
    rw [es]
    show (cs.reverse.dropWhile blank).reverse = cs
    rw [dropWhile_digits h.reverse, List.reverse_reverse]
  rw [ec, es, digits_of h h1]
  have hsz := push_size cs #[]
  have hv := push_foldl cs #[]
  show (if _ ≤ 4300 then some (worth false _) else none) = _
  rw [if_pos (by rw [hsz]; simp only [Array.size_empty]; lia)]
  unfold worth digitsVal
  rw [hv]
  rfl
theorem int_whole {r : List Nat} (h : Whole r) (hl : r.length ≤ 600) : r.length ≤ 640 ∧ PySem.intText? (sOf r) = some (numVal r) := by
  obtain ⟨sg, ds, rfl, hsg, hne, hd⟩ := h
  have hd' : AllDigits ds := fun c hc => of_decide_eq_true (hd c hc)
  rw [List.length_append] at hl
  refine ⟨by rw [List.length_append]; lia, ?_⟩
  cases ds with
  | nil => exact absurd rfl hne
  | cons c0 ds =>
    have hc := hd'.head
    rcases hsg with rfl | rfl | rfl
    · rw [List.nil_append, intText_digits (x := sOf (c0 :: ds)) hd' hne (by rw [sOf_length]; simp only [List.length_nil] at hl; lia)]
      have : numVal (c0 :: ds) = ((digitsVal (c0 :: ds) : Nat) : Int) := by
        show (if some c0 = some 45 then _ else if some c0 = some 43 then _ else _) = _
        rw [if_neg fun e => by cases e; lia, if_neg fun e => by cases e; lia]
        rfl
      rw [this]
    · rw [intText_neg (x := sOf ([45] ++ c0 :: ds)) (cs := c0 :: ds) rfl hd' hne (by rw [sOf_length, List.length_append]; lia)]
      rfl
    · have := intText_plus hd' hne (by lia)
      rw [show ([43] ++ c0 :: ds : List Nat) = 43 :: c0 :: ds from rfl, this]
      rfl
def okC (c : Nat) : Prop := surr c = false ∧ c < 1114112 ∧ c ∉ badChars
theorem mends_of {t : List Nat} (hL : t.length ≤ 500) (hc : ∀ c ∈ t, okC c) : Mends t ∧ Fine (mendF false t) := by
  obtain ⟨h, h0, h1, h2⟩ := mendR_is t
  have k10 : okC 10 := ⟨by simp [surr], by lia, by decide⟩
  have kfd : okC 65533 := ⟨by simp [surr], by lia, by decide⟩
  have c0 : ∀ c ∈ m0 t, okC c := by
    rw [h0]; intro c hm
    obtain ⟨x, hx, rfl⟩ := List.mem_map.mp hm
    unfold zz; split
    · exact kfd
    · exact hc x hx
  have l0 : (m0 t).length = t.length := by rw [h0, List.length_map]
  have c1 : ∀ c ∈ m1 t, okC c := by
    rw [h1]; intro c hm
    rcases (rep_facts _ _ _ _).1 c hm with rfl | hm
    · exact k10
    · exact c0 c (by rw [h0]; exact hm)
  have l1 : (m1 t).length ≤ t.length := by
    rw [h1]
    have := (rep_facts [13, 10] 10 (t.length + 1) (t.map zz)).2 (by simp)
    rwa [List.length_map] at this
  have c2 : ∀ c ∈ m2 t, okC c := by
    rw [h2]; intro c hm
    obtain ⟨x, hx, rfl⟩ := List.mem_map.mp hm
    split
    · exact k10
    · exact c1 x hx
  have l2 : (m2 t).length ≤ t.length := by rw [h2, List.length_map]; exact l1
  have c3 : ∀ c ∈ mendR t, okC c := by
    rw [h]; intro c hm
    rcases mendF_mem _ _ c hm with rfl | rfl | hm
    · exact k10
    · exact kfd
    · exact hc c hm
  have l3 : (mendR t).length ≤ t.length := by rw [h]; exact mendF_len false t
  refine ⟨⟨⟨by lia, fun c hm => (c0 c hm).2.1, by lia⟩, ⟨by lia, fun c hm => (c1 c hm).2.1, by lia⟩, ⟨by lia, fun c hm => (c2 c hm).2.1, by lia⟩, ⟨by lia, fun c hm => (c3 c hm).2.1, by lia⟩, by lia, fun x hx => (c3 x hx).2.2, ?_⟩, ?_⟩
  · intro p e pl hn
    have hb := numFrom_bound' hn
    refine ⟨hb.1, hb.2, fun hp => ?_⟩
    subst hp
    exact int_whole (numFrom_whole hn) (by rw [List.length_take, List.length_drop]; lia)
  · intro c hm
    rw [← h] at hm
    exact ⟨(c3 c hm).1, (c3 c hm).2.1⟩
end Mine
end

section
set_option tactic.hygienic false
set_option linter.unusedSimpArgs false
set_option linter.unusedVariables false
set_option maxRecDepth 10000
set_option backward.match.sparseCases false
set_option genInjectivity false
set_option genSizeOf false
namespace Mine
open PySem PySem.W
variable {B : Base} {T : Tab} {d : Nat}

mutual
theorem eqv_self : ∀ (p : PV) (D : PyData), toPD p = some D → PyData.eqv D D = true
  | .none, D, h => by cases h; rfl
  | .bool b, D, h => by cases h; exact beq_self_eq_true _
  | .int i, D, h => by cases h; exact beq_self_eq_true _
  | .str s, D, h => by cases h; exact beq_self_eq_true _
  | .tup vs, D, h => by
    obtain ⟨xs, h1, rfl⟩ := Option.map_eq_some_iff.mp h
    exact eqvAll_self vs xs h1
  | .lst vs, D, h => by
    obtain ⟨xs, h1, rfl⟩ := Option.map_eq_some_iff.mp h
    exact eqvAll_self vs xs h1
  | .node _ _, D, h => by cases h
  | .dct _ _, D, h => by cases h
  | .ref _, D, h => by cases h
theorem eqvAll_self : ∀ (ps : List PV) (Ds : List PyData), toPDs ps = some Ds → PyData.eqvAll Ds Ds = true
  | [], Ds, h => by cases h; rfl
  | p :: ps, Ds, h => by
    obtain ⟨x, h1, h⟩ := Option.bind_eq_some_iff.mp h
    obtain ⟨y, h2, h⟩ := Option.bind_eq_some_iff.mp h
    cases h
    exact Bool.and_eq_true_iff.mpr ⟨eqv_self p x h1, eqvAll_self ps y h2⟩
end
theorem row_pd (q : (Nat × Nat) × TK) : ∃ D, toPD (toPV q) = some D ∧ D.depth ≤ 3 := by
  obtain ⟨⟨l, c⟩, tk⟩ := q
  cases tk with
  | num r iv => cases iv <;> exact ⟨_, rfl, Nat.le_of_ble_eq_true rfl⟩
  | pct r iv => cases iv <;> exact ⟨_, rfl, Nat.le_of_ble_eq_true rfl⟩
  | dim r iv u => cases iv <;> exact ⟨_, rfl, Nat.le_of_ble_eq_true rfl⟩
  | err k =>
    have : ∃ s, errK k = .str s := by unfold errK; split <;> exact ⟨_, rfl⟩
    obtain ⟨s, hs⟩ := this
    exact ⟨_, by simp only [toPV, plainTK, rowPV, plPV, hs]; rfl, Nat.le_of_ble_eq_true rfl⟩
  | _ => exact ⟨_, rfl, Nat.le_of_ble_eq_true rfl⟩
theorem rows_pd : ∀ (ts : List ((Nat × Nat) × TK)), ∃ Ds, toPDs (ts.map toPV) = some Ds ∧ PyData.depthAll Ds ≤ 3
  | [] => ⟨[], rfl, Nat.le_of_ble_eq_true rfl⟩
  | q :: r => by
    obtain ⟨D, h1, h2⟩ := row_pd q
    obtain ⟨Ds, h3, h4⟩ := rows_pd r
    refine ⟨D :: Ds, by show ((toPD (toPV q)).bind fun x => (toPDs (r.map toPV)).bind fun y => some (x :: y)) = _; rw [h1, h3]; rfl, ?_⟩
    show max (PyData.depth D) (PyData.depthAll Ds) ≤ 3
    lia
theorem eqPD_rows (ts : List ((Nat × Nat) × TK)) : eqPD (.lst (ts.map toPV)) (.lst (ts.map toPV)) = some true := by
  obtain ⟨Ds, h1, h2⟩ := rows_pd ts
  have h3 : toPD (.lst (ts.map toPV)) = some (.list Ds) := by show (toPDs (ts.map toPV)).map _ = _; rw [h1]; rfl
  have hd : (PyData.list Ds).depth ≤ 60 := by show PyData.depthAll Ds + 1 ≤ 60; lia
  unfold eqPD
  rw [h3]
  show (if _ then _ else _) = _
  rw [if_pos ⟨hd, hd⟩, eqv_self _ _ h3]

noncomputable def okB (c : Nat) : Bool := !(decide (55296 ≤ c ∧ c ≤ 57343)) && decide (c < 1114112) && !badChars.contains c
theorem okB_iff (c : Nat) : okB c = true → okC c := by
  unfold okB okC surr
  simp only [Bool.and_eq_true, Bool.not_eq_true', decide_eq_true_eq, decide_eq_false_iff_not]
  rintro ⟨⟨h1, h2⟩, h3⟩
  exact ⟨h1, h2, fun k => by rw [List.contains_iff_mem.mpr k] at h3; cases h3⟩
theorem getD_all {L : List (List Nat)} (h : (L.all fun l => l.all okB) = true) (i : Nat) : ∀ c ∈ L.getD i [], okB c = true := by
  rw [List.getD_eq_getElem?_getD]
  cases hg : L[i]? with
  | none => intro c hc; simp at hc
  | some l =>
    intro c hc
    exact List.all_eq_true.mp (List.all_eq_true.mp h l (List.mem_of_getElem? hg)) c hc
theorem getD_len {L : List (List Nat)} (h : (L.all fun l => decide (l.length ≤ 3)) = true) (i : Nat) : (L.getD i []).length ≤ 3 := by
  rw [List.getD_eq_getElem?_getD]
  cases hg : L[i]? with
  | none => simp
  | some l => exact of_decide_eq_true (List.all_eq_true.mp h l (List.mem_of_getElem? hg))
theorem ite_ind {α : Type} {P : α → Prop} {c : Prop} [Decidable c] {a b : α} (h1 : P a) (h2 : P b) : P (if c then a else b) := by by_cases h : c <;> simp [h, h1, h2]
noncomputable def PF (l : List Nat) : Prop := l.length ≤ 9 ∧ ∀ c ∈ l, okB c = true
theorem piece_facts (n : Nat) : PF (pieceF n) := by
  have one : ∀ x, okB x = true → PF [x] := by
    intro x hx
    refine ⟨by simp, fun c hc => ?_⟩
    rw [List.mem_singleton] at hc; rw [hc]; exact hx
  have lst : ∀ (L : List (List Nat)) (i : Nat), (L.all fun l => l.all okB) = true → (L.all fun l => decide (l.length ≤ 3)) = true → PF (L.getD i []) := by
    intro L i h1 h2
    have := getD_len h2 i
    exact ⟨by lia, getD_all h1 i⟩
  have hh : ∀ (tb : List Nat) (w m i : Nat), tb.all okB = true → w ≤ 6 → m < 16777216 → PF (92 :: (hexW tb w m [] ++ L_tails.getD i [])) := by
      intro tb w m i ht hw hm
      have h1 := hexW_len tb w hw _ m [] (Nat.le_refl _) 6 (by lia) (by simp)
      have h2 : (L_tails.getD i []).length ≤ 2 := by
        rw [List.getD_eq_getElem?_getD]
        cases hg : L_tails[i]? with
        | none => simp
        | some l =>
          have : (L_tails.all fun l => decide (l.length ≤ 2)) = true := by decide
          exact of_decide_eq_true (List.all_eq_true.mp this l (List.mem_of_getElem? hg))
      refine ⟨by simp only [List.length_cons, List.length_append]; lia, fun c hc => ?_⟩
      rcases List.mem_cons.mp hc with rfl | hc
      · decide
      · rcases List.mem_append.mp hc with hc | hc
        · rcases hexW_mem tb w _ m [] (Nat.le_refl _) c hc with h | h | h
          · cases h
          · exact List.all_eq_true.mp ht c h
          · rw [h]; decide
        · exact getD_all (by decide) i c hc
  unfold pieceF
  dsimp only
  refine ite_ind (P := PF) ?_ (ite_ind (P := PF) ?_ (ite_ind (P := PF) ?_ (ite_ind (P := PF) ?_ (ite_ind (P := PF) ?_ (ite_ind (P := PF) ?_ (ite_ind (P := PF) ?_ (ite_ind (P := PF) ?_ (ite_ind (P := PF) ?_ (ite_ind (P := PF) ?_ ?_)))))))))
  · refine hh _ _ _ _ ?_ (by lia) (numK_lt _ _)
    exact ite_ind (P := fun l : List Nat => l.all okB = true) (by decide) (by decide)
  · exact one 92 (by decide)
  · exact lst _ _ (by decide) (by decide)
  · exact ite_ind (P := PF) (one 32 (by decide)) (one 9 (by decide))
  · refine one _ ?_
    rw [List.getD_eq_getElem?_getD]
    cases hg : L_hex[n / 12 % 6]? with
    | none => decide
    | some x =>
      have : L_hex.all okB = true := by decide
      exact List.all_eq_true.mp this x (List.mem_of_getElem? hg)
  · exact lst _ _ (by decide) (by decide)
  · exact ite_ind (P := PF) (one 39 (by decide)) (one 34 (by decide))
  · exact ite_ind (P := PF) (one 64 (by decide)) (one 35 (by decide))
  · exact lst _ _ (by decide) (by decide)
  · exact lst _ _ (by decide) (by decide)
  · exact lst _ _ (by decide) (by decide)

noncomputable def txs : Nat → List Int → List (List Nat)
  | _, [] => []
  | i, n :: r => pieceF ((n * 101 + 7 * (i : Int)) % 999999937).toNat :: txs (i + 1) r
theorem txs_facts : ∀ (i : Nat) (l : List Int), (txs i l).flatten.length ≤ 9 * l.length ∧ ∀ c ∈ (txs i l).flatten, okB c = true
  | _, [] => by simp [txs]
  | i, n :: r => by
    obtain ⟨h1, h2⟩ := txs_facts (i + 1) r
    obtain ⟨h3, h4⟩ := piece_facts ((n * 101 + 7 * (i : Int)) % 999999937).toNat
    simp only [txs, List.flatten_cons, List.length_append, List.length_cons]
    refine ⟨by lia, fun c hc => ?_⟩
    rcases List.mem_append.mp hc with hc | hc
    · exact h4 c hc
    · exact h2 c hc
theorem mapI_txs {f : Nat → PV → KE → AH → Prop} (hf : ∀ (i : Nat) (n : Int) (Q : KE) (H : AH), Q (.str (pieceF ((n * 101 + 7 * (i : Int)) % 999999937).toNat)) H → f i (.int n) Q H) :
    ∀ (l : List Int) (i : Nat) (Q : KL) (H : AH), Q (chPV (txs i l)) H → mapI f i (l.map PV.int) Q H
  | [], _, _, _, h => h
  | n :: r, i, Q, H, h => hf i n _ H (mapI_txs hf r (i + 1) (fun rs H'' => Q (.str (pieceF ((n * 101 + 7 * (i : Int)) % 999999937).toNat) :: rs) H'') H h)
theorem modI_nat (x : Int) : modI x 999999937 = ((x % 999999937).toNat : Int) := by
  rw [modI_is, Int.fmod_eq_emod_of_nonneg _ (by decide), Int.toNat_of_nonneg (Int.emod_nonneg _ (by decide))]

theorem law_ok {cl : Cls} {ser : List Nat → List Nat}
    (piece : ∀ {n : Nat}, Con B d "_law_piece" [.int n] (.str (pieceF n)))
    (parse : ∀ {t : List Nat}, Mends t → Con B d "parse_component_value_list" [.str t] (.lst (parseToks cl ser (mendR t) (mendR t).length 0)))
    (told : ∀ {ts : List ((Nat × Nat) × TK)}, ts.length ≤ 400000 → (∀ q ∈ ts, tkLen q.2 ≤ 100000) → Con B d "_law_told" [.lst (ts.map (ndPV cl))] (.lst (ts.map toPV)))
    (read : ∀ {t : List Nat}, t.length ≤ 10000 → (∀ c ∈ mendF false t, c < 1114112) → Con B d "_law_read" [.str t] (.lst (rdRows (foldA (mendF false t) (mendF false t).length 0) (placesF 1 1 (mendF false t)) (foldA (mendF false t) (mendF false t).length 0).length 0)))
    (script : List Int) (H : AH) : vcSs B T d m_law (isRet (.bool true) H) (initLoc ([.lst (script.map PV.int)] ++ []) v_law.length) H := by
  obtain ⟨f1, f2⟩ := txs_facts 0 (script.take 14)
  have hl14 : (script.take 14).length ≤ 14 := by rw [List.length_take]; lia
  have hsl : ((script.map PV.int).drop 0).take (14 - 0) = (script.take 14).map PV.int := by rw [List.drop_zero, List.map_take]
  refine ⟨by rw [hsl, List.length_map]; lia, ?_⟩
  rw [hsl]
  refine mapI_txs (fun i n Q H hq => ?_) _ 0 _ H ?_
  · have p := piece (n := ((n * 101 + 7 * (i : Int)) % 999999937).toNat)
    rw [← modI_nat] at p
    exact ⟨p.b, Bool.or_eq_true_iff.mpr (.inr rfl), Bool.or_eq_true_iff.mpr (.inl rfl), by decide, p.use hq⟩
  · generalize hT : (txs 0 (script.take 14)).flatten = t at *
    obtain ⟨hM, hF⟩ := mends_of (t := t) (by lia) fun c hc => okB_iff c (f2 c hc)
    refine ⟨_, allStr_chPV _, by rw [hT]; lia, ?_⟩
    rw [hT]
    have hml := mendF_len false t
    obtain ⟨g1, g2⟩ := parseTK_len (ser := ser) (s := mendF false t) (mendF false t).length 0
    have pc := parse hM
    rw [parseToks_TK, (mendR_is t).1] at pc
    have tc := told (ts := parseTK ser (mendF false t) (mendF false t).length 0) (by lia) (fun q hq => by have := g2 q hq; lia)
    have rc := read (t := t) (by lia) fun c hc => (hF c hc).2
    rw [← total_al (ser := ser) hF (mendF false t).length 0 (foldA (mendF false t) (mendF false t).length 0) 0 (foldA (mendF false t) (mendF false t).length 0).length rfl (by lia) (by lia)] at rc
    exact ⟨tc.b, pc.b, pc.use (tc.use (rc.run ⟨_, eqPD_rows _, rfl, rfl⟩))⟩
end Mine
end

section
set_option tactic.hygienic false
set_option maxRecDepth 100000
set_option genInjectivity false
set_option genSizeOf false
namespace Mine
open PySem PySem.W PySem.Calls PyProof.Rows PySem.Builtin PySem.Builtin.Str PySem.NumText

theorem lookup_zip {k : Str} : ∀ {ps : List Str} {vs : List Value}, ps.length = vs.length → k ∈ ps → ((ps.zip vs).lookup k).isNone = false
  | [], _, _, h => by cases h
  | p :: ps, [], h, _ => by cases h
  | p :: ps, v :: vs, h, hk => by
    simp only [List.zip_cons_cons, List.lookup_cons]
    by_cases e : k = p
    · subst e; simp
    · have : (k == p) = false := by simpa using e
      rw [this]
      rcases List.mem_cons.mp hk with h' | h'
      · exact (e h').elim
      · exact lookup_zip (by simpa using h) h'
theorem filterMap_zip : ∀ {ps : List Str} {vs : List Value}, ps.length = vs.length → ps.Nodup → ps.filterMap (fun n => ((ps.zip vs).lookup n).map (n, ·)) = ps.zip vs := by
  have key : ∀ (ps : List Str) (vs : List Value) (l : List (Str × Value)), ps.length = vs.length → (∀ q ∈ ps.zip vs, l.lookup q.1 = some q.2) → ps.filterMap (fun n => (l.lookup n).map (n, ·)) = ps.zip vs := by
    intro ps
    induction ps with
    | nil => intro vs l _ _; rfl
    | cons p ps ih =>
      intro vs l hl h
      cases vs with
      | nil => cases hl
      | cons v vs =>
        rw [List.filterMap_cons, h (p, v) (by simp)]
        simp only [Option.map_some, List.zip_cons_cons]
        rw [ih vs l (by simpa using hl) fun q hq => h q (by simp [hq])]
  intro ps vs hl hn
  refine key ps vs _ hl fun q hq => lookup_mem ?_ hq
  rw [List.map_fst_zip (by lia)]; exact hn

theorem bind_pure_eq {α β : Type} {m : Sem α} {f : α → Sem β} {a : α} {r : Sem β} (hm : m = pure a) (h : f a = r) : m >>= f = r := by subst hm; exact h
theorem if_skip {α : Type} {c : Bool} {X Y Z : Sem α} (hc : c = false) (h : Y = Z) : (if c = true then X else Y) = Z := by rw [hc]; exact h
theorem forIn_nil' {α β : Type} {l : List α} {b : β} {f : α → β → Sem (ForInStep β)} (h : l = []) : forIn l b f = (pure b : Sem β) := by subst h; rfl
theorem filt_none {ps : List Str} {vals : List Value} (hl : ps.length = vals.length) {k : Nat} : (ps.take k).filter (fun n => ((ps.zip vals).lookup n).isNone) = [] :=
  List.filter_eq_nil_iff.mpr fun n hn => by rw [lookup_zip hl (List.mem_of_mem_take hn)]; exact Bool.false_ne_true
theorem par_inv {fd : FuncData} {ps : List Str} (h : plainPar fd ps = true) : fd.params.posonlyargs = [] ∧ fd.params.kwonlyargs = [] ∧ fd.params.vararg = none ∧ fd.params.kwarg = none ∧ fd.params.args.map (·.arg) = ps := by
  unfold plainPar at h
  simp only [Bool.and_eq_true, List.isEmpty_iff, Option.isNone_iff_eq_none, beq_iff_eq] at h
  obtain ⟨⟨⟨⟨h1, h2⟩, h3⟩, h4⟩, h5⟩ := h
  exact ⟨h1, h2, h3, h4, h5⟩
theorem bind_plain {fd : FuncData} {ps : List Str} {vals : List Value} (h : plainPar fd ps = true) (hn : ps.Nodup) (hd : fd.defaults = .none) (hl : ps.length = vals.length) : bindArgs fd ⟨vals, []⟩ = pure (ps.zip vals) := by
  obtain ⟨h1, h2, h3, h4, h5⟩ := par_inv h
  clear h
  obtain ⟨nm, qn, ⟨po, as, va, ko, kd, kw, df⟩, bd, sc, gl, cl, de, kdf, doc, pm, an, cd, ct, bi⟩ := fd
  dsimp only at h1 h2 h3 h4 h5 hd
  subst h1; subst h2; subst h3; subst h4; subst h5; subst hd
  refine bind_pure_eq rfl (bind_pure_eq (a := none) rfl (if_skip ?_ (if_skip ?_ (bind_pure_eq (a := (as.map Arg.arg).zip vals) ?_ ?_))))
  · exact (Bool.and_true _).trans (decide_eq_false (by rw [← hl]; exact Nat.lt_irrefl _))
  · exact congrArg (fun l : List Str => !l.isEmpty) (filt_none hl)
  · exact forIn_nil' ((congrArg (List.zip _) List.drop_nil).trans List.zip_nil_right)
  · refine bind_pure_eq (a := ((as.map Arg.arg).zip vals, [])) rfl (if_skip rfl ?_)
    refine congrArg pure ?_
    refine (congrArg (List.filterMap _) (List.append_nil (as.map Arg.arg))).trans ?_
    exact filterMap_zip hl hn
theorem wp_eq {M : Model} {A : Around} {α : Type} {m m' : Sem α} {Q : α → Shared → Prop} {E : Value → Shared → Prop} {s : Shared} (e : m = m') (h : wpAny M A m' Q E s) : wpAny M A m Q E s := by subst e; exact h
theorem miss_one {a b : Str} {v : Value} : (([a, b].take 1).filter fun n => (List.lookup n ([a, b].zip [v])).isNone) = [] := by simp
theorem look_two {a b : Str} {v : Value} (h : (b == a) = false) : List.lookup b [(a, v)] = none := by simp [List.lookup_cons, h]
theorem fil_two {a b : Str} {v x : Value} (h : (b == a) = false) : ([a, b].filterMap fun n => (List.lookup n [(a, v), (b, x)]).map (n, ·)) = [(a, v), (b, x)] := by simp [List.lookup_cons, h]
theorem if_take {α : Type} {c : Bool} {X Y Z : Sem α} (hc : c = true) (h : X = Z) : (if c = true then X else Y) = Z := by rw [hc]; exact h
theorem forIn_one {α β : Type} {x : α} {b b' : β} {f : α → β → Sem (ForInStep β)} (h : f x b = pure (.yield b')) : forIn [x] b f = (pure b' : Sem β) := by rw [List.forIn_cons, h]; rfl
theorem bind_one {fd : FuncData} {s : Shared} {a b : Str} {v x : Value} {t : Addr} {o : Obj} {n : Nat} (h : plainPar fd [a, b] = true) (hn : a ≠ b) (hd : fd.defaults = .ref t) (ho : s.heap.get? t = some o) (hs : o.data = .seq #[x] n) : BindsTo s fd ⟨[v], []⟩ [(a, v), (b, x)] := by
  obtain ⟨h1, h2, h3, h4, h5⟩ := par_inv h
  clear h
  obtain ⟨nm, qn, ⟨po, as, va, ko, kd, kw, df⟩, bd, sc, gl, cl, de, kdf, doc, pm, an, cd, ct, bi⟩ := fd
  dsimp only at h1 h2 h3 h4 h5 hd
  subst h1; subst h2; subst h3; subst h4; subst hd
  obtain ⟨a1, as, rfl⟩ : ∃ a1 r, as = a1 :: r := by cases as with
    | nil => cases h5
    | cons a1 r => exact ⟨a1, r, rfl⟩
  obtain ⟨a2, as, rfl⟩ : ∃ a1 r, as = a1 :: r := by cases as with
    | nil => cases h5
    | cons a1 r => exact ⟨a1, r, rfl⟩
  obtain ⟨e1, h5⟩ := List.cons.inj h5
  obtain ⟨e2, h5⟩ := List.cons.inj h5
  cases as with
  | cons _ _ => cases h5
  | nil =>
  subst e1; subst e2
  have hb : (a2.arg == a1.arg) = false := beq_eq_false_iff_ne.mpr (Ne.symm hn)
  intro M A E Q q
  show wpAny M A (forIn ([] : List (Str × Value)) _ _ >>= _) Q E s
  refine wpAny_bind (wpAny_pure (wpAny_bind (wpAny_seqItems ho hs (wp_eq ?_ (wpAny_pure q)))))
  refine if_skip rfl (if_skip (congrArg (fun l : List Str => !l.isEmpty) (miss_one (b := a2.arg) (v := v))) (bind_pure_eq (a := [(a1.arg, v), (a2.arg, x)]) ?_ ?_))
  · refine forIn_one ?_
    exact if_take (congrArg Option.isNone (look_two hb)) rfl
  · refine bind_pure_eq (a := ([(a1.arg, v), (a2.arg, x)], [])) rfl (if_skip rfl ?_)
    exact congrArg pure (fil_two hb)
end Mine
end

section
set_option tactic.hygienic false
set_option maxRecDepth 100000
set_option genInjectivity false
set_option genSizeOf false
namespace Mine
open PySem PySem.W PySem.Calls PyProof.Rows PySem.Builtin PySem.Builtin.Str PySem.NumText

theorem cutH_get (h : Heap) (ps : List Addr) (a : Addr) : (cutH h ps).get? a = gt h ps a := by
  unfold cutH gt Heap.get?
  simp only [Array.getElem?_mapIdx]
  cases h.objs[a]? with
  | none => simp
  | some o =>
    obtain ⟨c, d, dt, sl⟩ := o
    by_cases e : ps.contains a = true
    · rw [Option.map_some, if_pos e, if_pos e]
    · rw [Option.map_some, if_neg e, if_neg e]
theorem gt_sub {h : Heap} {ps : List Addr} {a : Addr} {o : Obj} (e : gt h ps a = some o) : h.get? a = some o := by
  unfold gt at e
  split at e
  · cases e
  · exact e
theorem ns_cut {h : Heap} {ps : List Addr} {a : Addr} (x : h.isNs a = true) (n : ps.contains a = false) : (cutH h ps).Ns a (h.nsMap a) := by
  obtain ⟨o, es, ep, ho, r⟩ := Heap.Ns.of_isNs x
  refine ⟨o, es, ep, ?_, r⟩
  rw [cutH_get]; unfold gt; rw [n]; simpa using ho

theorem frag_in (h : Heap) (ps as : List Addr) : (frag h ps as).In (cutH h ps) := by
  intro a o e
  rw [cutH_get]
  unfold frag at e
  induction as with
  | nil => cases e
  | cons b r ih =>
    rw [List.filterMap_cons] at e
    cases hg : gt h ps b with
    | none => rw [hg] at e; exact ih e
    | some x =>
      rw [hg] at e
      simp only [Option.map_some, List.lookup_cons] at e
      by_cases q : a = b
      · subst q; simp at e; rw [hg, e]
      · have : (a == b) = false := by simpa using q
        rw [this] at e; exact ih e

theorem ite_some {α : Type} {c : Bool} {x : Option α} {r : α} (h : (if c = true then x else none) = some r) : c = true ∧ x = some r := by
  cases c with
  | true => exact ⟨rfl, h⟩
  | false => cases h
theorem bind_some {α β : Type} {x : Option α} {f : α → Option β} {r : β} (h : x.bind f = some r) : ∃ a, f a = some r := by
  cases x with
  | none => cases h
  | some a => exact ⟨a, h⟩
theorem or_some {α : Type} {x y : Option α} {r : α} (h : x.or y = some r) : x = some r ∨ y = some r := by
  cases x with
  | none => exact .inr h
  | some a => exact .inl h
theorem sOf_cps (s : Str) : sOf s.cps.toList = s := by obtain ⟨a⟩ := s; simp
theorem strVal_of {s : Str} {r : AttR} (h : strVal s = some r) : ∃ p, r = .val p ∧ ∀ (B : Base) (z : PH) (t : Tok), Rep B z p (.str s t) := by
  obtain ⟨q, h⟩ := ite_some h
  obtain ⟨q1, q2⟩ := ands q
  exact ⟨_, (Option.some.inj h).symm, fun B z t => ⟨⟨fun c hc => of_decide_eq_true (List.all_eq_true.mp q1 c hc), Nat.le_trans (Nat.le_of_eq Array.length_toList) (Nat.le_trans (of_decide_eq_true q2) (by decide))⟩, t, by rw [sOf_cps]⟩⟩
section
variable {B : Base} {K : Frag} {h : Heap}
theorem att_of {C : Addr} {nm : Str} {r : AttR} (X : K.In B.heap) (e : attOf K C nm = some r) : AttSem B C nm r := by
  obtain ⟨q, e⟩ := ite_some e
  obtain ⟨q1, q2⟩ := ands q
  rcases or_some e with e | e
  · obtain ⟨f, e⟩ := bind_some e
    obtain ⟨v, e⟩ := bind_some e
    obtain ⟨p, e⟩ := bind_some e
    obtain ⟨q3, e⟩ := ite_some e
    obtain ⟨q3, q4⟩ := ands q3
    obtain ⟨i, hi, rfl⟩ := Option.map_eq_some_iff.mp e
    exact att_slot X q1 q2 (f.2.trans (congrArg some (v.2.trans (congrArg some p.2)))) (beq_iff_eq.mp q3) (beq_iff_eq.mp q4) hi
  · obtain ⟨f, e⟩ := bind_some e
    obtain ⟨v, e⟩ := bind_some e
    obtain ⟨s, e⟩ := bind_some e
    obtain ⟨p, rfl, hp⟩ := strVal_of e
    exact att_val X q1 (f.2.trans (congrArg some (v.2.trans (congrArg _ s.2)))) rfl (hp _ _ _)
theorem sat_of {C : Addr} {nm : Str} {i : Nat} (X : K.In B.heap) (e : satOf K C nm = some i) : SatSem B C nm i := by
  obtain ⟨q, e⟩ := ite_some e
  obtain ⟨q1, q2⟩ := ands q
  obtain ⟨f, e⟩ := bind_some e
  obtain ⟨v, e⟩ := bind_some e
  obtain ⟨p, e⟩ := bind_some e
  obtain ⟨q3, e⟩ := ite_some e
  obtain ⟨j, hj, e⟩ := Option.bind_eq_some_iff.mp e
  obtain ⟨q4, e⟩ := ite_some e
  obtain rfl := Option.some.inj e
  exact sat_slot X (beq_iff_eq.mp q1) q2 (f.2.trans (congrArg some (v.2.trans (congrArg some p.2)))) (beq_iff_eq.mp q3) hj (of_decide_eq_true q4)
theorem good_tab (X : K.In B.heap) (hm : ∀ n, B.mg n = h.nsMap mainGlobals n) : GoodT B ⟨attOf K, satOf K, statOf K h⟩ := by
  refine ⟨fun C nm r e => att_of X e, fun C nm i e => sat_of X e, fun cls nm v e => ?_⟩
  obtain ⟨c, e⟩ := bind_some e
  obtain ⟨C, e⟩ := bind_some e
  obtain ⟨q, e⟩ := ite_some e
  obtain ⟨q1, q2⟩ := ands q
  obtain ⟨f, e⟩ := bind_some e
  obtain ⟨fv, e⟩ := bind_some e
  obtain ⟨q3, e⟩ := ite_some e
  obtain rfl := Option.some.inj e
  exact stat_fn X ((hm _).trans (c.2.trans (congrArg some C.2))) (beq_iff_eq.mp q1) q2 (f.2.trans (congrArg some fv.2)) q3
end

theorem funAt_of {g : Addr → Option Obj} {fv : Value} {fd : FuncData} (e : funAt g fv = some fd) : ∃ a o, fv = .ref a ∧ g a = some o ∧ o.data = .func fd := by
  obtain ⟨a, e⟩ := bind_some e
  obtain ⟨o, e⟩ := bind_some e
  obtain ⟨f, _, rfl⟩ := Option.map_eq_some_iff.mp e
  exact ⟨a.1, o.1, a.2, o.2, f.2⟩
theorem codeAt_of {g : Addr → Option Obj} {h : Heap} (hg : ∀ a, h.get? a = g a) {cd : Value} {q : Str} (e : codeAt g cd q = true) : h.CodeRec cd q := by
  obtain ⟨c, e⟩ := any_inv e
  obtain ⟨o, e⟩ := any_inv e
  obtain ⟨vs, e⟩ := any_inv e
  obtain ⟨n, e⟩ := any_inv e
  obtain ⟨m, e⟩ := any_inv e
  exact ⟨c.1, o.1, vs.1, m.1.2, c.2, (hg c.1).trans o.2, vs.2, n.2.trans (congrArg some (m.2.trans (by rw [beq_iff_eq.mp e])))⟩
theorem all_get {α : Type} {p : α → Bool} {l : List α} (h : l.all p = true) (i : Nat) {x : α} (e : l[i]? = some x) : p x = true := List.all_eq_true.mp h x (List.mem_of_getElem? e)
theorem notb {b : Bool} (h : (!b) = true) : b = false := by cases b with
  | false => rfl
  | true => cases h
theorem mem_zip_nodup {vars ps : List Str} : ps.isPrefixOf vars = true → vars.Nodup → (∃ r, vars = ps ++ r) ∧ ps.Nodup := by
  intro h hn
  obtain ⟨r, e⟩ := List.isPrefixOf_iff_prefix.mp h
  refine ⟨⟨r, e.symm⟩, ?_⟩
  rw [← e] at hn
  exact (List.nodup_append.mp hn).1

theorem fd_facts {g : Addr → Option Obj} {B : Base} (hg : ∀ a, B.heap.get? a = g a) {fd : FuncData} {ps vars : List Str} {ms : List MS} (q : fdChk g fd ps vars ms = true) :
    B.heap.CodeRec fd.code fd.qualname ∧ (∃ body, fd.body = .stmts body ∧ chkSs ms fd.scope vars body = true) ∧ fd.scope.isCoroutine = false ∧ fd.scope.isGenerator = false ∧ fd.scope.kind = .function ∧ fd.globals = mainGlobals ∧ fd.builtins = builtinsNs ∧
    (∀ x ∈ fd.scope.names, x.2 ≠ .cell) ∧ (∀ x ∈ vars, fd.scope.names.lookup x = some .local ∧ (x == ("__debug__" : Str)) = false) ∧ plainPar fd ps = true ∧ vars.Nodup ∧ ps.Nodup ∧ ∃ r, vars = ps ++ r := by
  have hp := mem_zip_nodup (all_get q 11 rfl) (of_decide_eq_true (all_get q 10 rfl))
  refine ⟨codeAt_of hg (all_get q 0 rfl), ?_, notb (all_get q 1 rfl), notb (all_get q 2 rfl), beq_iff_eq.mp (all_get q 3 rfl), beq_iff_eq.mp (all_get q 4 rfl), beq_iff_eq.mp (all_get q 5 rfl), fun x hx => ?_, fun x hx => ?_, all_get q 8 rfl, of_decide_eq_true (all_get q 10 rfl), hp.2, hp.1⟩
  · obtain ⟨b, h⟩ := any_inv (all_get q 9 rfl)
    exact ⟨b.1, b.2, h⟩
  · exact beq_eq_false_iff_ne.mp (notb (List.all_eq_true.mp (all_get q 6 rfl) x hx))
  · obtain ⟨h1, h2⟩ := ands (List.all_eq_true.mp (all_get q 7 rfl) x hx)
    exact ⟨beq_iff_eq.mp h1, notb h2⟩

theorem fnOK_mk {g : Addr → Option Obj} {B : Base} (hg : ∀ a, B.heap.get? a = g a) {fv : Value} {fd : FuncData} {ps vars : List Str} {ms : List MS} {np : Nat} {exP : List PV} {exV : List Value} (e : funAt g fv = some fd) (q : fdChk g fd ps vars ms = true) (hl : ps.length = np + exP.length) (hex : RepL B B.heap.get? exP exV)
    (hb : plainPar fd ps = true → ps.Nodup → ∀ (s : Shared) (vals : List Value), BaseIn B s → vals.length = np → BindsTo s fd ⟨vals, []⟩ (ps.zip (vals ++ exV))) : FnOK B fv ps np exP vars ms := by
  obtain ⟨a, o, rfl, ho, hd⟩ := funAt_of e
  obtain ⟨f1, ⟨body, f2, f3⟩, f4, f5, f6, f7, f8, f9, f10, f11, f12, f13, f14⟩ := fd_facts hg q
  exact ⟨⟨a, o, fd, body, exV, rfl, (hg a).trans ho, hd, f1, f2, f4, f5, f6, f7, f8, f9, f10, hex, hb f11 f13, f3⟩, f12, f14, hl⟩
theorem fnOK_of {g : Addr → Option Obj} {B : Base} (hg : ∀ a, B.heap.get? a = g a) {fv : Value} {ps vars : List Str} {ms : List MS} {np : Nat} (hnp : ps.length = np) (q : fnChk g fv ps vars ms = true) : FnOK B fv ps np [] vars ms := by
  obtain ⟨fd, q⟩ := any_inv q
  obtain ⟨q, qd⟩ := ands q
  refine fnOK_mk hg fd.2 q hnp (exV := []) rfl fun hp hn s vals xx hl => .of_eq ?_
  rw [List.append_nil]
  exact bind_plain hp hn (beq_iff_eq.mp qd) (hnp.trans hl.symm)
theorem one_val {vals : List Value} (h : vals.length = 1) : ∃ v, vals = [v] := by
  cases vals with
  | nil => cases h
  | cons v r => cases r with
    | nil => exact ⟨v, rfl⟩
    | cons => cases h
theorem fnOK1_of {g : Addr → Option Obj} {B : Base} (hg : ∀ a, B.heap.get? a = g a) {fv : Value} {a b : Str} {vars : List Str} {ms : List MS} (q : fnChk1 g fv a b vars ms = true) : FnOK B fv [a, b] 1 [.bool false] vars ms := by
  obtain ⟨fd, q⟩ := any_inv q
  obtain ⟨q, qd⟩ := ands q
  obtain ⟨q, qn⟩ := ands q
  refine fnOK_mk hg fd.2 q rfl (exV := [.bool false]) ⟨_, _, rfl, rfl, rfl⟩ fun hp hn s vals hb hl => ?_
  obtain ⟨t, qd⟩ := any_inv qd
  obtain ⟨y, qd⟩ := any_inv qd
  obtain ⟨sq, qd⟩ := any_inv qd
  obtain ⟨v, rfl⟩ := one_val hl
  exact bind_one hp (beq_eq_false_iff_ne.mp (notb qn)) t.2 (hb t.1 _ ((hg t.1).trans y.2)) (sq.2.trans (by rw [beq_iff_eq.mp qd]))

theorem clsAt_of {g : Addr → Option Obj} {B : Base} (hg : ∀ a, B.heap.get? a = g a) {K : Frag} {h : Heap} (X : K.In B.heap) {nm : Str} {C : Addr} {ps vars own : List Str} {ms : List MS} {np : Nat} (hm : B.mg nm = some (.ref C)) (hnp : ps.length = np)
    (q : clsChk g K C ps vars ms own = true) : ClsAt B ⟨attOf K, satOf K, statOf K h⟩ nm C ps np vars ms own := by
  obtain ⟨q, q3⟩ := ands q
  obtain ⟨q1, q2⟩ := ands q
  refine ⟨hm, cls_keep X q1, ?_, fun i n e => beq_iff_eq.mp (List.all_eq_true.mp q3 (n, i) (by rw [List.mem_zipIdx_iff_getElem?]; exact e))⟩
  obtain ⟨i, q2⟩ := any_inv q2
  obtain ⟨v, q2⟩ := any_inv q2
  obtain ⟨f, q2⟩ := any_inv q2
  obtain ⟨q4, q5⟩ := ands q2
  exact ⟨K, f.1, X, q1, i.2.trans (congrArg some (v.2.trans (congrArg some f.2))), beq_iff_eq.mp q4, fnOK_of hg hnp q5⟩
theorem isSlot_of {i : Nat} {r : AttR} (h : isSlot i r = true) : r = .slot i := by
  cases r with
  | slot j => rw [beq_iff_eq.mp (show (j == i) = true from h)]
  | val p => cases h
theorem isTp_of {tp : List Nat} {r : AttR} (h : isTp tp r = true) : r = .val (.str tp) := by
  cases r with
  | slot j => cases h
  | val p => cases p with
    | str s => rw [beq_iff_eq.mp (show (s == tp) = true from h)]
    | _ => exact Bool.noConfusion h
theorem attAt_of {K : Frag} {h : Heap} {C : Addr} {tp : List Nat} {fs : List Str} (q : tellChk K C tp fs = true) : AttAt ⟨attOf K, satOf K, statOf K h⟩ C tp fs := by
  obtain ⟨q1, q2⟩ := ands q
  refine ⟨?_, fun i f e => ?_⟩
  · obtain ⟨r, q1⟩ := any_inv q1
    exact r.2.trans (congrArg some (isTp_of q1))
  · obtain ⟨r, q3⟩ := any_inv (List.all_eq_true.mp q2 (f, i) (by rw [List.mem_zipIdx_iff_getElem?]; exact e))
    exact r.2.trans (congrArg some (isSlot_of q3))
end Mine
end

section
set_option tactic.hygienic false
set_option maxRecDepth 100000
set_option genInjectivity false
set_option genSizeOf false
namespace Mine
open PySem PySem.W PySem.Calls PyProof.Rows PySem.Builtin PySem.Builtin.Str PySem.NumText

theorem strIs_of {s : List Nat} {v : Value} (q : strIs s v = true) : (∃ t, v = .str (sOf s) t) ∧ sok s := by
  obtain ⟨q1, q2, q3⟩ := ands3 q
  obtain ⟨x, q1⟩ := any_inv q1
  exact ⟨⟨x.1.2, x.2.trans (by rw [beq_iff_eq.mp q1])⟩, fun c hc => of_decide_eq_true (List.all_eq_true.mp q2 c hc), Nat.le_trans (of_decide_eq_true q3) (by decide)⟩
theorem strIs_rep {B : Base} {z : PH} {s : List Nat} {v : Value} (q : strIs s v = true) : Rep B z (.str s) v := ⟨(strIs_of q).2, (strIs_of q).1⟩
theorem strsAre_cons {s : List Nat} {ss : List (List Nat)} {vs : List Value} (h : strsAre (s :: ss) vs = true) : ∃ v r, vs = v :: r ∧ strIs s v = true ∧ strsAre ss r = true := by
  cases vs with
  | nil => cases h
  | cons v r => exact ⟨v, r, rfl, (ands h).1, (ands h).2⟩
theorem strsAre_rep {ss : List (List Nat)} : ∀ {vs : List Value}, strsAre ss vs = true → (∀ (B : Base) (z : PH), RepL B z (ss.map .str) vs) ∧ vs.length = ss.length := by
  induction ss with
  | nil =>
    intro vs h
    obtain rfl := nil_inv h
    exact ⟨fun xx xx => rfl, rfl⟩
  | cons s ss ih =>
    intro vs h
    obtain ⟨v, r, rfl, h1, h2⟩ := strsAre_cons h
    exact ⟨fun B z => ⟨v, r, rfl, strIs_rep h1, (ih h2).1 B z⟩, congrArg Nat.succ (ih h2).2⟩
theorem obj_eq {o : Obj} {k : Value} {d : Data} (h : (o.cls == k && o.dict.isNone && o.slots.isEmpty) = true) (hd : o.data = d) : o = { cls := k, data := d } := by
  obtain ⟨c, di, da, sl⟩ := o
  obtain ⟨h1, h2, h3⟩ := ands3 h
  obtain rfl : c = k := beq_iff_eq.mp h1
  obtain rfl : di = none := Option.isNone_iff_eq_none.mp h2
  obtain rfl : sl = #[] := Array.isEmpty_iff.mp h3
  obtain rfl : da = d := hd
  rfl
theorem seq_of {g : Addr → Option Obj} {k : String} {ss : List (List Nat)} {v : Value} (q : seqChk g k ss v = true) :
    ∃ a n xs, v = .ref a ∧ g a = some { cls := .type k, data := .seq xs n } ∧ strsAre ss xs.toList = true ∧ xs.size ≤ sizeLine := by
  obtain ⟨a, q⟩ := any_inv q
  obtain ⟨o, q⟩ := any_inv q
  obtain ⟨s, q⟩ := any_inv q
  obtain ⟨q1, q2, q3⟩ := ands3 q
  exact ⟨a.1, s.1.2, s.1.1, a.2, o.2.trans (congrArg some (obj_eq q1 s.2)), q2, Nat.le_trans (Nat.le_of_eq (Array.length_toList.symm.trans (strsAre_rep q2).2)) (Nat.le_trans (of_decide_eq_true q3) (by decide))⟩
theorem tup_rep {B : Base} {g : Addr → Option Obj} (hg : ∀ a, B.heap.get? a = g a) {ss : List (List Nat)} {v : Value} (q : seqChk g "tuple" ss v = true) : Rep B B.heap.get? (.tup (ss.map .str)) v := by
  obtain ⟨a, n, xs, rfl, h1, h2, h3⟩ := seq_of q
  exact ⟨a, n, xs, rfl, (hg a).trans h1, (strsAre_rep h2).1 _ _, h3⟩
theorem lst_rep {B : Base} {g : Addr → Option Obj} (hg : ∀ a, B.heap.get? a = g a) {ss : List (List Nat)} {v : Value} (q : seqChk g "list" ss v = true) : Rep B B.heap.get? (.lst (ss.map .str)) v := by
  obtain ⟨a, n, xs, rfl, h1, h2, h3⟩ := seq_of q
  exact ⟨a, n, xs, rfl, (hg a).trans h1, (strsAre_rep h2).1 _ _, h3⟩

theorem dictAt_of {g : Addr → Option Obj} {a : Addr} {k : Value} {es : Array DictEntry} {n : Nat} (h : g a = some { cls := k, data := .dict es n }) : dictAt g (.ref a) = es.toList := by
  unfold dictAt
  show (((vS (g a)).bind fun o => (dDict o.1.data).map fun q => q.1.1.toList)).getD [] = _
  generalize g a = x at h
  subst h
  rfl
theorem dct_of {g : Addr → Option Obj} {ks vs : List (List Nat)} {v : Value} (q : dctChk g ks vs v = true) : ∃ a n es, v = .ref a ∧ (a == sysModules) = false ∧ g a = some { cls := .type "dict", data := .dict es n } ∧ strsAre ks (es.toList.map (·.key)) = true ∧ strsAre vs (es.toList.map (·.val)) = true ∧ ks.length ≤ 1000 := by
  obtain ⟨a, q⟩ := any_inv q
  obtain ⟨o, q⟩ := any_inv q
  obtain ⟨s, q⟩ := any_inv q
  obtain ⟨q0, q1, q2, q3, q4⟩ := ands5 q
  exact ⟨a.1, s.1.2, s.1.1, a.2, notb q0, o.2.trans (congrArg some (obj_eq q1 s.2)), q2, q3, of_decide_eq_true q4⟩
theorem find_assoc {k : Str} {ks : List (List Nat)} : ∀ {es : List DictEntry}, strsAre ks (es.map (·.key)) = true → (es.find? fun e => Value.isStrOf k e.key).map (·.val) = assocL k ks (es.map (·.val)) := by
  induction ks with
  | nil =>
    intro es h
    obtain rfl := List.map_eq_nil_iff.mp (nil_inv h)
    rfl
  | cons s ss ih =>
    intro es h
    cases es with
    | nil => cases h
    | cons e es =>
      obtain ⟨h1, h2⟩ := ands (show (strIs s e.key && strsAre ss (es.map (·.key))) = true from h)
      obtain ⟨⟨t, hk⟩, _⟩ := strIs_of h1
      have hi : Value.isStrOf k e.key = (sOf s == k) := by rw [hk]; rfl
      show ((e :: es).find? fun e => Value.isStrOf k e.key).map (·.val) = if sOf s = k then some e.val else assocL k ss (es.map (·.val))
      rw [List.find?_cons, hi]
      by_cases h : sOf s = k
      · rw [if_pos h, beq_iff_eq.mpr h]; rfl
      · rw [if_neg h, beq_eq_false_iff_ne.mpr h]; exact ih h2
theorem keys_of {prog : Program} {w : World} {ks : List (List Nat)} : ∀ {es : List DictEntry}, strsAre ks (es.map (·.key)) = true → es.map (·.hash) = ks.map (fun k => hashStr w (sOf k)) → ∀ e ∈ es, ∃ k, (strKind prog w).is k e.key = true ∧ e.hash = (strKind prog w).hash k := by
  induction ks with
  | nil =>
    intro es h _ e he
    obtain rfl := List.map_eq_nil_iff.mp (nil_inv h)
    cases he
  | cons s ss ih =>
    intro es h hh x hx
    cases es with
    | nil => cases hx
    | cons e es =>
      obtain ⟨h1, h2⟩ := ands (show (strIs s e.key && strsAre ss (es.map (·.key))) = true from h)
      obtain ⟨hh1, hh2⟩ := List.cons.inj hh
      rcases List.mem_cons.mp hx with rfl | hx
      · obtain ⟨⟨t, hk⟩, _⟩ := strIs_of h1
        refine ⟨sOf s, ?_, hh1⟩
        rw [hk]
        exact beq_self_eq_true (sOf s)
      · exact ih h2 hh2 x hx
theorem dct_rep {B : Base} {g : Addr → Option Obj} (hg : ∀ a, B.heap.get? a = g a) {ks vs : List (List Nat)} {v : Value} (q : dctChk g ks vs v = true) (hh : (dictAt g v).map (·.hash) = ks.map (fun k => hashStr B.w (sOf k))) :
    Rep B B.heap.get? (.dct ks (vs.map .str)) v := by
  obtain ⟨a, n, es, rfl, q0, q1, q2, q3, q4⟩ := dct_of q
  rw [dictAt_of q1] at hh
  have l1 := (strsAre_rep q2).2
  have l2 := (strsAre_rep q3).2
  rw [List.length_map] at l1 l2
  refine ⟨a, es.toList.map (·.val), rfl, q0, ?_, (strsAre_rep q3).1 _ _, _, es, n, (hg a).trans q1, ⟨rfl, rfl, rfl⟩, rfl, fun e he => keys_of q2 hh e (Array.mem_toList_iff.mpr he), fun k => ?_, ?_⟩
  · rw [List.length_map]; lia
  · show (es.find? fun e => Value.isStrOf k e.key).map (·.val) = assocL k ks (es.toList.map (·.val))
    rw [← find_assoc q2, ← Array.find?_toList]
  · rw [← Array.length_toList]; lia

theorem isSome_of {α : Type} {o : Option α} (h : o.isSome = true) : ∃ x : α, o = some x := Option.isSome_iff_exists.mp h
theorem trip_of {n : Nat} : ∀ {l : List Value}, tripF n l = true → TriplesOk l := by
  induction n with
  | zero => intro l h; cases h
  | succ n ih =>
    intro l h
    cases l with
    | nil => exact trivial
    | cons a r =>
      obtain ⟨h1, h⟩ := ands h
      cases r with
      | nil => cases h
      | cons b r =>
        obtain ⟨h2, h⟩ := ands h
        cases r with
        | nil => cases h
        | cons c r =>
          obtain ⟨x, _⟩ := isSome_of h1
          obtain ⟨y, _⟩ := isSome_of h2
          rw [x.2, y.2]
          exact (ih (l := r) h : TriplesOk r)
theorem tabP_obj {h : Heap} {c c' p p' : Addr} {ps : Array Value} (e : tabP h c' p' = some (c, p, ps)) : h.get? p = some { cls := .none, data := .fields ps } ∧ TriplesOk ps.toList := by
  obtain ⟨t, e⟩ := bind_some e
  obtain ⟨ps', e⟩ := bind_some e
  obtain ⟨q, e⟩ := ite_some e
  obtain ⟨q1, q2⟩ := ands q
  cases e
  exact ⟨t.2.trans (congrArg some (obj_eq q1 ps'.2)), trip_of q2⟩
theorem tabC_obj {h : Heap} {c c' p : Addr} {ps : Array Value} (e : tabC h c' = some (c, p, ps)) : h.get? p = some { cls := .none, data := .fields ps } ∧ TriplesOk ps.toList := by
  obtain ⟨_, e⟩ := bind_some e
  obtain ⟨_, e⟩ := bind_some e
  obtain ⟨_, e⟩ := bind_some e
  obtain ⟨_, e⟩ := bind_some e
  exact tabP_obj e
theorem tabOf_obj {h : Heap} {nm : Str} {c p : Addr} {ps : Array Value} (e : tabOf h nm = some (c, p, ps)) : h.get? p = some { cls := .none, data := .fields ps } ∧ TriplesOk ps.toList := by
  obtain ⟨_, e⟩ := bind_some e
  obtain ⟨_, e⟩ := bind_some e
  exact tabC_obj e
theorem codeHead_of {B : Base} {g : Addr → Option Obj} (hg : ∀ a, B.heap.get? a = g a) {c p : Addr} (q : codeHeadChk g c p = true) : CodeHead B c p := by
  obtain ⟨o, q⟩ := any_inv q
  obtain ⟨vs, q⟩ := any_inv q
  obtain ⟨a, q⟩ := any_inv q
  obtain ⟨b, q⟩ := any_inv q
  obtain ⟨d, q⟩ := any_inv q
  obtain ⟨e, q⟩ := any_inv q
  obtain ⟨q1, q2, q3, q4⟩ := ands4 q
  exact ⟨beq_eq_false_iff_ne.mp (notb q1), o.1, vs.1, _, _, _, _, _, _, _, (hg c).trans o.2, beq_iff_eq.mp q2, vs.2, beq_iff_eq.mp q3, beq_iff_eq.mp q4, a.2, b.2, d.2, e.2⟩
theorem joinFn_of {B : Base} {g : Addr → Option Obj} (hg : ∀ a, B.heap.get? a = g a) {fv : Value} {ge : GE} {vn : Str} {c p : Addr} {ps : Array Value} (q : joinFnChk g fv ge vn c = true) (ht : (c, p, ps) ∈ B.tabs) (hk : ge.ok B) : JoinFn B fv ge vn c p ps := by
  obtain ⟨q1, q2⟩ := ands q
  refine ⟨fnOK_of hg rfl q1, ht, fun a o fd e ho hd => ?_, hk⟩
  obtain ⟨fd', q2⟩ := any_inv q2
  obtain ⟨q3, q4⟩ := ands q2
  obtain ⟨b, q4⟩ := any_inv q4
  obtain ⟨a', o', e', ho', hd'⟩ := funAt_of fd'.2
  subst e
  cases e'
  rw [hg a, ho'] at ho; cases ho
  rw [hd'] at hd
  obtain rfl := Data.func.inj hd
  exact ⟨beq_iff_eq.mp q3, fun body hb => by rw [← FuncBody.stmts.inj (b.2.symm.trans hb)]; exact q4⟩

theorem good_of {prog : Program} {w : World} {os : OsState} {h : Heap} {t : Addr × Addr × Array Value} (q : goodChk h [t.2.1] = true) : GoodB (base prog w os h t) ∧ GoodM (base prog w os h t) := by
  unfold goodChk at q
  simp only [Bool.and_eq_true, Bool.not_eq_true', beq_iff_eq] at q
  obtain ⟨⟨⟨⟨⟨⟨⟨⟨⟨⟨⟨q1, q2⟩, q3⟩, q4⟩, q5⟩, q6⟩, q7⟩, q8⟩, q9⟩, q10⟩, q11⟩, q12⟩ := q
  constructor
  · refine ⟨ns_cut q1 q4, ns_cut q2 q5, ⟨_, ns_cut q3 q6, q7⟩, fun f => ?_, ⟨q9, q10⟩, ?_⟩
    · have := List.all_eq_true.mp q8 f (by cases f <;> simp [biAll])
      simp only [Bool.and_eq_true, beq_iff_eq] at this
      exact this
    · obtain ⟨o, ho⟩ := Option.isSome_iff_exists.mp q11
      exact ⟨o, (cutH_get _ _ _).trans ho⟩
  · obtain ⟨v, q⟩ := any_inv q12
    obtain ⟨b, q⟩ := any_inv q
    obtain ⟨o, q⟩ := any_inv q
    obtain ⟨e1, e2, e3, e4⟩ := ands4 q
    obtain ⟨u, _⟩ := Option.isSome_iff_exists.mp e4
    exact ⟨b.1, o.1, v.2.trans (congrArg some b.2), by simpa using e1, (cutH_get _ _ _).trans o.2, beq_iff_eq.mp e2, beq_iff_eq.mp e3, u.2⟩
theorem val_of {h : Heap} {nm : Str} (q : (h.nsMap mainGlobals nm).isSome = true) : h.nsMap mainGlobals nm = some (val h nm) := by
  unfold val
  cases e : h.nsMap mainGlobals nm with
  | none => rw [e] at q; cases q
  | some v => rfl
theorem fnAt_of {prog : Program} {w : World} {os : OsState} {h : Heap} {t : Addr × Addr × Array Value} {nm : Str} {ps vars : List Str} {ms : List MS} {np : Nat} (hnp : ps.length = np) (q : nmChk h (gt h [t.2.1]) nm ps vars ms = true) : FnAt (base prog w os h t) nm ps np [] vars ms := by
  unfold nmChk at q
  simp only [Bool.and_eq_true] at q
  exact ⟨⟨val h nm, val_of q.1, fnOK_of (fun a => cutH_get _ _ _) hnp q.2⟩⟩
theorem adr_of {h : Heap} {nm : Str} (q : h.nsMap mainGlobals nm = some (.ref (adr h nm))) : h.nsMap mainGlobals nm = some (.ref (adr h nm)) := q
end Mine
end

section
set_option tactic.hygienic false
set_option maxRecDepth 100000
set_option genInjectivity false
set_option genSizeOf false
namespace Mine
open PySem PySem.W PySem.Calls PyProof.Rows PySem.Builtin PySem.Builtin.Str PySem.NumText

theorem gS_val (k : Nat) : (gS.val k).length ≤ 3 ∧ (k < 1114112 → ∀ y ∈ gS.val k, y < 1114112) := by
  show ((assocS [k] ksS vsS).getD [k]).length ≤ 3 ∧ (k < 1114112 → ∀ y ∈ (assocS [k] ksS vsS).getD [k], y < 1114112)
  have : (assocS [k] ksS vsS).getD [k] ∈ [k] :: vsS := by
    simp only [ksS, vsS, assocS]
    repeat' split
    all_goals simp
  rcases List.mem_cons.mp this with h | h
  · rw [h]; simp
  · have h1 : (vsS.all fun l => decide (l.length ≤ 3) && l.all (· < 1114112)) = true := by decide
    have h2 := List.all_eq_true.mp h1 _ h
    simp only [Bool.and_eq_true, decide_eq_true_eq, List.all_eq_true] at h2
    exact ⟨h2.1, fun xx => h2.2⟩
noncomputable def ser08 (v : List Nat) : List Nat := v.flatMap gS.val
theorem ser_len : ∀ v : List Nat, (ser08 v).length ≤ 3 * v.length
  | [] => by simp [ser08]
  | k :: r => by
    have h1 := (gS_val k).1
    have h2 := ser_len r
    simp only [ser08, List.flatMap_cons, List.length_append, List.length_cons] at h2 ⊢
    lia

theorem con_sok {B : Base} {d : Nat} {nm : Str} {fv : Value} {v : List Nat} {r : PV} (hm : B.mg nm = some fv) (hk : KeepOk B fv) (h : (∀ c ∈ v, c < 1114112) → Con B d nm [.str v] r) : Con B d nm [.str v] r := by
  by_cases e : ∀ c ∈ v, c < 1114112
  · exact h e
  · refine ⟨fv, hm, hk, fun H z P s A vals R SC hr => ?_⟩
    obtain ⟨x, xs, _, hx, _⟩ := hr
    exact (e hx.1.1).elim

theorem dct_same {h : Heap} {ps : List Addr} {ks vs : List (List Nat)} {v : Value} (q : dctChk (gt h ps) ks vs v = true) : dictAt (gt h ps) v = dictAt h.get? v := by
  obtain ⟨a, n, es, rfl, _, q1, _⟩ := dct_of q
  rw [dictAt_of q1, dictAt_of (gt_sub q1)]
section
variable {prog : Program} {w : World} {os : OsState} {h : Heap} {c p : Addr} {ps : Array Value}

set_option tactic.hygienic true in
set_option maxHeartbeats 0 in
theorem law08 (ht : tabOf h "serialize_string_value" = some (c, p, ps)) (q : chk08 h = true) (hh : (dictAt h.get? (val h "_replacement_string_value")).map (·.hash) = ksS.map (fun k => hashStr w (sOf k))) :
    ∃ T fv, GoodB (base prog w os h (c, p, ps)) ∧ GoodT (base prog w os h (c, p, ps)) T ∧ h.nsMap mainGlobals "law" = some fv ∧ FnOK (base prog w os h (c, p, ps)) fv p_law 1 [] v_law m_law ∧
      ∀ (script : List Int) H, vcSs (base prog w os h (c, p, ps)) T 4 m_law (isRet (.bool true) H) (initLoc ([.lst (script.map PV.int)] ++ []) v_law.length) H := by
  unfold chk08 at q
  rw [ht] at q
  dsimp only at q
  generalize hK : frag h [p] (lookAt h names08) = K at q
  have X : K.In (base prog w os h (c, p, ps)).heap := by rw [← hK]; exact frag_in h [p] _
  have hg : ∀ a, (base prog w os h (c, p, ps)).heap.get? a = gt h [p] a := fun a => cutH_get _ _ _
  have q2 := all_get (p := fun x => x) q 1 rfl
  obtain ⟨q3, q3'⟩ := ands (all_get (p := fun x => x) q 2 rfl)
  have q4 := all_get (p := fun x => x) q 3 rfl
  have q5 := all_get (p := fun x => x) q 4 rfl
  have q6 := all_get (p := fun x => x) q 5 rfl
  obtain ⟨q7, q7'⟩ := ands (all_get (p := fun x => x) q 6 rfl)
  obtain ⟨q8, q8'⟩ := ands (all_get (p := fun x => x) q 7 rfl)
  obtain ⟨q9, q9'⟩ := ands (all_get (p := fun x => x) q 8 rfl)
  obtain ⟨q11, q11'⟩ := ands (all_get (p := fun x => x) q 10 rfl)
  obtain ⟨G, GM⟩ := good_of (prog := prog) (w := w) (os := os) (t := (c, p, ps)) (all_get (p := fun x => x) q 0 rfl)
  clear q
  generalize hB : base prog w os h (c, p, ps) = B at *
  have hmg : ∀ n, B.mg n = h.nsMap mainGlobals n := by subst hB; intro n; rfl
  have GT : GoodT B ⟨attOf K, satOf K, statOf K h⟩ := good_tab X hmg
  have fn : ∀ (i : Nat) {nm : Str} {a v : List Str} {m : List MS} (np : Nat), fns08[i]? = some (nm, a, v, m) → a.length = np → FnAt B nm a np [] v m := fun i nm a v m np e hl => by
    have z := all_get q2 i e
    dsimp only at z
    subst hB; exact fnAt_of hl z
  have cls : ∀ (i : Nat) {nm : Str} {a v own : List Str} {m : List MS} (np : Nat), cls08[i]? = some (nm, a, v, m, own) → a.length = np → ClsAt B ⟨attOf K, satOf K, statOf K h⟩ nm (adr h nm) a np v m own := fun i nm a v own m np e hl => by
    have := all_get q4 i e
    simp only [Bool.and_eq_true, beq_iff_eq] at this
    exact clsAt_of hg X ((hmg _).trans this.1) hl this.2
  have tel : ∀ (i : Nat) {nm : Str} {tp : List Nat} {fs : List Str}, tell08[i]? = some (nm, tp, fs) → AttAt ⟨attOf K, satOf K, statOf K h⟩ (adr h nm) tp fs := fun i nm tp fs e => by
    have z := all_get q5 i e
    dsimp only at z
    exact attAt_of (K := K) (h := h) (C := adr h nm) z
  have N : NodeAt B ⟨attOf K, satOf K, statOf K h⟩ := by
    split at q6
    · rename_i fv hs; exact ⟨fv, hs, fnOK_of hg rfl q6⟩
    · cases q6
  have hD : GlobIs B "_DIGITS" digs := ⟨_, (hmg _).trans (val_of q7), tup_rep hg q7'⟩
  have hN : GlobIs B "_law_NAME" (.lst (nameL.map .str)) := ⟨_, (hmg _).trans (val_of q8), lst_rep hg q8'⟩
  have hne : gt h [p] = fun a => gt h [p] a := rfl
  have hS : gS.ok B := by
    refine ⟨_, (hmg _).trans (val_of q9), dct_rep hg q9' ?_⟩
    have e := dct_same q9'
    rw [e, hh]; subst hB; rfl
  have J : JoinFn B (val h "serialize_string_value") gS "value" c p ps := joinFn_of hg q11' (by subst hB; exact List.mem_cons_self) hS
  have hser : ∀ v : List Nat, v.length ≤ 100000 → Con B 3 "serialize_string_value" [.str v] (.str (ser08 v)) := fun v hv =>
    con_sok ((hmg _).trans (val_of q11)) J.fn.keep fun hc => (conJoin (d := 0) G GM ((hmg _).trans (val_of q11)) J hv fun k hk => ⟨by have := (gS_val k).1; lia, (gS_val k).2 (hc k hk)⟩).le (by lia)
  have F0 := fn 0 1 rfl rfl
  have low : ∀ s : List Nat, s.length ≤ 100000 → Con B 1 "ascii_lower" [.str s] (.str (s.map lowC)) := fun s hs => lower_ok (d := 0) G GT F0 hs
  have hex : ∀ (css : List Nat) (pos : Nat), Con B 1 "_hex_end" [.str css, .int pos] (.int (pos + hexRun 6 (css.drop pos) : Nat)) := fun css pos => hex_end_ok (d := 0) G GT (fn 2 2 rfl rfl)
  have esc : ∀ (css : List Nat) (pos : Nat), Con B 2 "_consume_escape" [.str css, .int pos] (.tup [.str [(escSpec (css.drop pos)).1], .int (pos + (escSpec (css.drop pos)).2 : Nat)]) := fun css pos => escape_ok G GT (fn 7 2 rfl rfl) hex
  let cl : Cls := ⟨adr h "WhitespaceToken", adr h "LiteralToken", adr h "IdentToken", adr h "AtKeywordToken", adr h "HashToken", adr h "StringToken", adr h "NumberToken", adr h "PercentageToken", adr h "DimensionToken", adr h "ParseError"⟩
  have E : ParseEnv B 3 cl ser08 := {
    ids := fun css pos xx hp => (ident_start_ok (d := 1) G GT (fn 4 2 rfl rfl) (fun css pos k hk => name_start_ok (d := 0) G GT (fn 3 2 rfl rfl) hk) hp).le (by lia)
    idc := fun css pos hL hp => consume_ident_ok G GT (fn 5 2 rfl rfl) esc hL hp
    num := fun css pos => (number_end_ok (d := 0) G GT (fn 1 2 rfl rfl) hD).le (by lia)
    quo := fun css pos k hL hq hq' => quoted_ok G GT (fn 6 2 rfl rfl) esc hL hq hq'
    serC := hser
    serl := ser_len
    ws := fun l c v => cls_value1 (d := 0) G GT N (cls 0 4 rfl rfl) l c v
    lit := fun l c v => cls_value1 (d := 0) G GT N (cls 1 4 rfl rfl) l c v
    ident := fun l c s hs => cls_ident (d := 0) G GT N low (cls 2 4 rfl rfl) l c hs
    at_ := fun l c s hs => cls_ident (d := 0) G GT N low (cls 3 4 rfl rfl) l c hs
    hash := fun l c v b => cls_hash (d := 0) G GT N (cls 4 5 rfl rfl) l c v b
    str := fun l c v b => cls_string (d := 0) G GT N (cls 5 5 rfl rfl) l c v b
    numT := fun l c v n r => cls_number (d := 0) G GT N (cls 6 6 rfl rfl) l c v n r
    pct := fun l c v n r => cls_number (d := 0) G GT N (cls 7 6 rfl rfl) l c v n r
    dim := fun l c v n r u hu => cls_dimension (d := 0) G GT N low (cls 8 7 rfl rfl) l c v n r hu
    err := fun l c k m => cls_error (d := 0) G GT N (cls 9 5 rfl rfl) l c k m }
  have FP : FnAt B "parse_component_value_list" p_parse 1 [.bool false] v_parse m_parse := ⟨_, (hmg _).trans (val_of q3), fnOK1_of hg q3'⟩
  have parse : ∀ {t : List Nat}, Mends t → Con B 4 "parse_component_value_list" [.str t] (.lst (parseToks cl ser08 (mendR t) (mendR t).length 0)) := fun M => parse_ok G GT FP E M
  have T : TellAt ⟨attOf K, satOf K, statOf K h⟩ cl := ⟨tel 0 rfl, tel 1 rfl, tel 2 rfl, tel 3 rfl, tel 4 rfl, tel 5 rfl, tel 6 rfl, tel 7 rfl, tel 8 rfl, tel 9 rfl⟩
  have PE : PieceEnv B 1 := {
    hexed := fun hn hw ht => hexed_ok (d := 0) G GT (fn 15 3 rfl rfl) hn hw ht
    tails := consts_TAILS G GT (fn 10 0 rfl rfl)
    ends := consts_ENDS G GT (fn 11 0 rfl rfl)
    letters := consts_LETTERS G GT (fn 12 0 rfl rfl)
    numbers := consts_NUMBERS G GT (fn 13 0 rfl rfl)
    signs := consts_SIGNS G GT (fn 14 0 rfl rfl) }
  have run : ∀ {d : Nat} {pl ws : List (List Nat)} {at_ : Nat}, Con B (d + 1) "_law_run" [.lst (chPV pl), .int at_, .lst (chPV ws)] (.int (at_ + runL ws (pl.drop at_) : Nat)) := fun {d pl ws at_} => run_ok G GT (fn 22 3 rfl rfl)
  have W : Con B 1 "_law_WORTH" [] (.dct worthK worthV) := worth_ok G GT (fn 8 0 rfl rfl)
  have BL : Con B 1 "_law_BLANKS" [] (.lst (chPV [[32], [9], [10]])) := consts_BLANKS G GT (fn 9 0 rfl rfl)
  have RE : ReadEnv B 2 := {
    run := run
    sta := (starts_ok (d := 1) G GT (fn 21 2 rfl rfl))
    num := fun h0 => law_number_ok G GT (fn 23 3 rfl rfl) run h0
    cnt := fun ht => counted_ok G GT (fn 24 1 rfl rfl) W ht
    quo := fun h0 hq hl => law_quoted_ok G GT (fn 25 3 rfl rfl) h0 hq hl
    bl := BL.le (by lia)
    nam := hN }
  obtain ⟨fv, hfv, FL⟩ := (fn 29 1 rfl rfl : FnAt B "law" p_law 1 [] v_law m_law).it
  refine ⟨_, fv, G, GT, (hmg _).symm.trans hfv, FL, fun script H => ?_⟩
  refine law_ok (cl := cl) (ser := ser08) ((piece_ok G GT (fn 16 1 rfl rfl) PE).le (by lia)) parse (fun hL hl => (told_ok (d := 3) G GT (fn 28 1 rfl rfl) T (fun hs => (law_plain_ok (d := 2) G GT (fn 27 1 rfl rfl) hs)) hL hl)) ?_ script H
  intro t hL hs
  exact (read_ok G GT (fn 26 1 rfl rfl) RE (fun hL => mended_ok G GT (fn 17 1 rfl rfl) hL) (fun hL => places_ok G GT (fn 18 1 rfl rfl) hL) (fun hL hs => folded_ok G GT (fn 19 1 rfl rfl) W BL hL hs) (part_ok G GT (fn 20 1 rfl rfl)) hL hs).le (by lia)
end
end Mine
end

section
set_option tactic.hygienic false
set_option maxRecDepth 100000
set_option genInjectivity false
set_option genSizeOf false
namespace Mine
open PySem PySem.W PySem.Calls PyProof.Rows PySem.Builtin PySem.Builtin.Str PySem.NumText

noncomputable def YP08 (w : World) (h : Heap) : Prop := ∃ s : Shared, chk08 s.heap = true ∧ hash08 s = ksS.map (fun k => hashStr w (sOf k)) ∧ ∀ b o, s.heap.get? b = some o → h.get? b = some o

theorem well_int {P : Params} {h : Heap} {v : Value} {i : Int} (hr : Well P h v (.int i)) : ∃ t, v = .int i t := by
  cases hr; exact ⟨_, rfl⟩
theorem well_list {P : Params} {h : Heap} {v : Value} {xs : List WData} (hr : Well P h v (.list xs)) : ∃ a vs, v = .ref a ∧ h.get? a = some { cls := .type "list", data := .seq (List.toArray vs) } ∧ WellAll P h vs xs := by
  cases hr with
  | list e r => exact ⟨_, _, rfl, e, r⟩
theorem well_nil {P : Params} {h : Heap} {vs : List Value} (hr : WellAll P h vs []) : vs = [] := by cases hr; rfl
theorem ints_read {P : Params} {h : Heap} : ∀ {l : List Int} {vs : List Value}, WellAll P h vs (l.map .int) → (∀ B z, RepL B z (l.map .int) vs) ∧ vs.length = l.length := by
  intro l
  induction l with
  | nil =>
    intro vs hr
    obtain rfl := well_nil hr
    exact ⟨fun xx xx => rfl, rfl⟩
  | cons i l ih =>
    intro vs hr
    obtain ⟨v, vs', rfl, h1, h2⟩ := wellAll_cons_inv hr
    obtain ⟨t, rfl⟩ := well_int h1
    exact ⟨fun B z => ⟨_, _, rfl, ⟨_, rfl⟩, (ih h2).1 B z⟩, congrArg Nat.succ (ih h2).2⟩
theorem one_arg {R : WRecords} {args : List WData} (h : WShape.hasAll R args [.list .int] = true) : ∃ d, args = [d] ∧ WShape.has R d (.list .int) = true := by
  cases args with
  | nil => exact Bool.noConfusion h
  | cons x r =>
    obtain ⟨h1, h2⟩ := Bool.and_eq_true_iff.mp (show (WShape.has R x (.list .int) && WShape.hasAll R r []) = true from h)
    cases r with
    | cons y r => exact Bool.noConfusion h2
    | nil => exact ⟨x, rfl, h1⟩
theorem args_read {R : WRecords} {P : Params} {h : Heap} {args : List WData} {vals : List Value} (hpre : WShape.hasAll R args [.list .int] = true) (hlay : WData.layableAll args = true) (hwl : WellAll P h vals args) :
    ∃ (a : Addr) (vs : List Value) (l : List Int), vals = [.ref a] ∧ h.get? a = some { cls := .type "list", data := .seq vs.toArray } ∧ (∀ B z, RepL B z (l.map .int) vs) ∧ vs.length ≤ 1048576 := by
  obtain ⟨d, rfl, h1⟩ := one_arg hpre
  obtain ⟨xs, rfl, h3⟩ := hasW_list h1
  obtain ⟨l, rfl⟩ := items_int h3
  obtain ⟨v, vs', rfl, h1, h2⟩ := wellAll_cons_inv hwl
  obtain rfl := well_nil h2
  obtain ⟨a, lvs, rfl, h3, h4⟩ := well_list h1
  refine ⟨a, lvs, l, rfl, h3, (ints_read h4).1, ?_⟩
  rw [(ints_read h4).2]
  have := length_le_of_layableW (Bool.and_eq_true_iff.mp (show (WData.layable (.list (l.map .int)) && true) = true from hlay)).1
  rwa [List.length_map] at this
theorem isT {h : Heap} {c p : Addr} (q : codeHeadChk (gt h [p]) c p = true) : isCodeTable h p := by
  obtain ⟨o, q⟩ := any_inv q
  obtain ⟨vs, q⟩ := any_inv q
  obtain ⟨_, q⟩ := any_inv q
  obtain ⟨_, q⟩ := any_inv q
  obtain ⟨_, q⟩ := any_inv q
  obtain ⟨_, q⟩ := any_inv q
  obtain ⟨_, q2, q3, _⟩ := ands4 q
  exact ⟨c, o.1, vs.1, gt_sub o.2, beq_iff_eq.mp q2, vs.2, beq_iff_eq.mp q3⟩
theorem isT_keeps {h h' : Heap} {p : Addr} (x : isCodeTable h p) (k : ∀ b o, h.get? b = some o → h'.get? b = some o) : isCodeTable h' p := by obtain ⟨c, o, vs, a, r⟩ := x; exact ⟨c, o, vs, k _ _ a, r⟩

noncomputable def zA (h : Heap) (p : Addr) : PH := fun x => if x = p then none else h.get? x
noncomputable def hA (c p : Addr) (ps : Array Value) : AH := fun x => if x = p then some (.tbl c p ps) else none
noncomputable def noP : PH := fun xx => none
theorem noP_inv {b : Addr} {o : Obj} {G : Prop} (e : noP b = some o) : G := by cases e
theorem zA_get {h : Heap} {p b : Addr} {o : Obj} (hb : b ≠ p) (e : h.get? b = some o) : zA h p b = some o := (if_neg hb).trans e
theorem zA_inv {h : Heap} {p b : Addr} {o : Obj} (e : zA h p b = some o) : h.get? b = some o := by
  unfold zA at e
  by_cases hb : b = p
  · rw [if_pos hb] at e; cases e
  · rwa [if_neg hb] at e
theorem hA_inv {c p b : Addr} {ps : Array Value} {x : AO} (e : hA c p ps b = some x) : b = p ∧ .tbl c p ps = x := by
  unfold hA at e
  by_cases hb : b = p
  · rw [if_pos hb] at e; exact ⟨hb, Option.some.inj e⟩
  · rw [if_neg hb] at e; cases e
theorem gt_inv {h : Heap} {p b : Addr} {o : Obj} (e : gt h [p] b = some o) : b ≠ p := by
  rintro rfl
  unfold gt at e; simp at e
section
variable {B : Base} {h : Heap} {s₁ s' : Shared} {c p : Addr} {ps : Array Value}
theorem base_sub (hB : ∀ a, B.heap.get? a = gt h [p] a) (hsub : ∀ b o, h.get? b = some o → s₁.heap.get? b = some o) (b : Addr) (o : Obj) (e : B.heap.get? b = some o) : s₁.heap.get? b = some o :=
  hsub b o (gt_sub ((hB b).symm.trans e))
theorem start_stc (hB : ∀ a, B.heap.get? a = gt h [p] a) (hT : B.tabs = [(c, p, ps)]) (hos : s₁.os = B.os) (hgen : s₁.gens = #[]) (hsub : ∀ b o, h.get? b = some o → s₁.heap.get? b = some o)
    (hp : s₁.heap.get? p = some { cls := .none, data := .fields ps }) (hts : TriplesOk ps.toList) (hcc : CodeHead B c p) : StC B (zA s₁.heap p) noP (hA c p ps) { s₁ with toks := s₁.toks + 1 } := by
  refine ⟨fun b o e => zA_get (gt_inv ((hB b).symm.trans e)) (base_sub hB hsub b o e), fun b o e => zA_inv e, fun b o e => noP_inv e, fun b x e => ?_, hos, ?_, Nat.succ_pos _, fun t ht => ?_⟩
  · obtain ⟨rfl, rfl⟩ := hA_inv e
    exact ⟨if_pos rfl, _, hp, hcc, #[], by rw [Array.append_empty], by rw [Array.append_empty] at *; exact hts⟩
  · show AllBare s₁.gens
    rw [hgen]; intro g hg; simp at hg
  · rw [hT, List.mem_singleton] at ht; subst ht
    exact if_pos rfl
theorem end_good {cm : ClaimW} {clf : Str → Option Addr} {mean : ExcName → Option Value} {args : List WData} {z' : PH} (S : StC B z' noP (hA c p ps) s') (le : zle (zA s₁.heap p) z') (hos : s₁.os = B.os)
    (hp : s₁.heap.get? p = some { cls := .none, data := .fields ps }) (hi : isCodeTable s₁.heap p) (hr : ∀ cls, cm.raises args cls = false) (hpost : cm.post args (.bool true) args = true) :
    GoodWG cm clf mean args s₁ (.ok (.ret (.bool true))) s' := by
  obtain ⟨_, o', ho', _, more, ho'', _⟩ := S.hin p (.tbl c p ps) (if_pos rfl)
  have hkeep : ∀ b o, b ≠ p → s₁.heap.get? b = some o → s'.heap.get? b = some o := fun b o hb e => S.zin _ _ (le _ _ (zA_get hb e))
  refine ⟨.inl ⟨_, .bool true, [], rfl, hr, .bool true, hpost, fun xx => ⟨List.nodup_nil, by simp⟩⟩, ⟨fun b o e => ?_, fun b o e => ?_⟩, S.os.trans hos.symm, S.gens⟩
  · by_cases hb : b = p
    · subst hb
      rw [hp] at e; cases e
      exact .inr (.inl ⟨hi, rfl, ps, more, rfl, ho'.trans (by rw [ho''])⟩)
    · exact .inl (hkeep b o hb e)
  · by_cases hb : b = p
    · subst hb; exact ⟨_, ho'⟩
    · exact ⟨o, hkeep b o hb e⟩
end

theorem walk_core {B : Base} {T : Tab} {h : Heap} {cm : ClaimW} {clf : Str → Option Addr} {mean : ExcName → Option Value} {s₁ : Shared} {mg : Str → Option Value} {a c p : Addr} {ps : Array Value} {args : List WData} {vals : List Value} {fv : Value}
    (hB : ∀ a, B.heap.get? a = gt h [p] a) (hT : B.tabs = [(c, p, ps)]) (hos : s₁.os = B.os) (hbm : B.mg = h.nsMap mainGlobals) (G : GoodB B) (GT : GoodT B T) (hfv : h.nsMap mainGlobals "law" = some fv) (F : FnOK B fv p_law 1 [] v_law m_law)
    (hvc : ∀ (script : List Int) H, vcSs B T 4 m_law (isRet (.bool true) H) (initLoc ([.lst (script.map PV.int)] ++ []) v_law.length) H)
    (ho : h.get? p = some { cls := .none, data := .fields ps }) (hts : TriplesOk ps.toList) (hcc : CodeHead B c p) (hi : isCodeTable h p)
    (hsub : ∀ b o, h.get? b = some o → s₁.heap.get? b = some o) (hns : s₁.heap.Ns mainGlobals mg) (hmg : mg "law" = some (.ref a)) (hgen : s₁.gens = #[])
    (hpre : WShape.hasAll cm.records args [.list .int] = true) (hlay : WData.layableAll args = true) {P : Params} (hwl : WellAll P s₁.heap vals args)
    (hr : ∀ cls, cm.raises args cls = false) (hpost : cm.post args (.bool true) args = true) :
    wpAny (model B.prog B.w) callerA (PySem.call (.ref a) vals) (fun v s' => GoodWG cm clf mean args s₁ (.ok (.ret v)) s') (fun e s' => GoodWG cm clf mean args s₁ (.error e) s') s₁ := by
  obtain ⟨la, lvs, l, rfl, hla, hl1, hsz⟩ := args_read hpre hlay hwl
  have hp := hsub _ _ ho
  have hlp : la ≠ p := by rintro rfl; rw [hla] at hp; cases hp
  have hfa : fv = .ref a := by
    have h1 := (G.mg.keeps (base_sub hB hsub)).agree hns "law"
    rw [hmg, hbm, hfv] at h1
    exact Option.some.inj h1
  subst hfa
  refine wpAny_call (codeAny_mono (callDefG (d := 4) (k := 1) (Q := keq (.bool true) (hA c p ps)) G GT F rfl (hvc l _) ⟨rfl, by decide, by decide⟩ (Nat.le_refl _) (start_stc hB hT hos hgen hsub hp hts hcc) ?_) ?_)
  · exact ⟨_, _, rfl, ⟨la, _, lvs.toArray, rfl, zA_get hlp hla, hl1 _ _, Nat.le_trans (Nat.le_of_eq List.size_toArray) (Nat.le_trans hsz (by decide))⟩, rfl⟩
  · intro r s' hrs
    rcases r with e | (v | _ | _ | _) <;> first | exact hrs.elim | skip
    obtain ⟨z', pv, H', le, S', rv, rfl, rfl⟩ := hrs
    cases rv
    exact end_good S' le hos hp (isT_keeps hi hsub) hr hpost

theorem walk08 {prog : Program} {cm : ClaimW} {clf : Str → Option Addr} {mean : ExcName → Option Value} {w : World} {s₁ : Shared} {mg : Str → Option Value} {a : Addr} {args : List WData} {vals : List Value} {as : List Addr}
    (hns : s₁.heap.Ns mainGlobals mg) (hmg : mg "law" = some (.ref a)) (Y : YP08 w s₁.heap) (hgen : s₁.gens = #[])
    (hpre : WShape.hasAll cm.records args [.list .int] = true) (hlay : WData.layableAll args = true) (hwl : WellAll w.params s₁.heap vals args) (_hrd : ReadsAllW cm.records clf s₁.heap vals args as)
    (hr : ∀ cls, cm.raises args cls = false) (hpost : cm.post args (.bool true) args = true) :
    wpAny (model prog w) callerA (PySem.call (.ref a) vals) (fun v s' => GoodWG cm clf mean args s₁ (.ok (.ret v)) s') (fun e s' => GoodWG cm clf mean args s₁ (.error e) s') s₁ := by
  obtain ⟨s₂, hchk, hhash, hsub⟩ := Y
  cases ht : tabOf s₂.heap "serialize_string_value" with
  | none => unfold chk08 at hchk; rw [ht] at hchk; cases hchk
  | some t =>
    obtain ⟨c, p, ps⟩ := t
    have hcc : codeHeadChk (gt s₂.heap [p]) c p = true := by
      unfold chk08 at hchk
      rw [ht] at hchk
      exact all_get (p := fun x => x) hchk 9 rfl
    obtain ⟨T, fv, G, GT, hfv, F, hvc⟩ := law08 (prog := prog) (w := w) (os := s₁.os) ht hchk hhash
    exact walk_core (B := base prog w s₁.os s₂.heap (c, p, ps)) (fun b => cutH_get _ _ _) rfl rfl rfl G GT hfv F hvc (tabOf_obj ht).1 (tabOf_obj ht).2 (codeHead_of (fun a => cutH_get _ _ _) hcc) (isT hcc) hsub hns hmg hgen hpre hlay hwl hr hpost
end Mine
end

section
set_option maxRecDepth 100000
set_option maxHeartbeats 0
namespace Mine
open PySem PySem.W PySem.Calls PyProof.Rows
theorem hold08 (said : PySem.Challenge.rw_qv0004_08.row.wellSaid = true) : PySem.Challenge.rw_qv0004_08.row.Holds := by
  refine holds_open (q := lawView PySem.Challenge.pw_qv0004_08) (loose := lawLoose PySem.Challenge.pw_qv0004_08) (Xt := fun s => xlAt (lawView PySem.Challenge.pw_qv0004_08) [] s && recOk [] s) (XP := XL (lawView PySem.Challenge.pw_qv0004_08) [])
    (Yf := obs08) (Ya := fun w => (true, ksS.map fun k => hashStr w (sOf k))) (YP := YP08) (N := 8000) (left_ok (by rfl) (fun _ => rfl) run_b) (fun w s e => ⟨s, congrArg Prod.fst e, congrArg Prod.snd e, fun _ _ x => x⟩) (fun w h h' x k => ?_)
    (fun s e => xl_of s (Bool.and_eq_true_iff.mp e).1) XL.keeps (by rfl) (by rfl) (by rfl) (fun s e => recFacts_of (Bool.and_eq_true_iff.mp e).2) (by rfl) said (by decide +kernel) ⟨rfl, rfl, rfl, rfl, rfl, by decide +kernel⟩ ?hw ?hc
  · obtain ⟨s, a, b, c⟩ := x
    exact ⟨s, a, b, fun _ _ e => k _ _ (c _ _ e)⟩
  case hw => exact ⟨[.list []], by decide +kernel, by decide +kernel⟩
  case hc =>
    intro w s₀ s₁ mg mb G Y fa o pm cd doc dV kV ho hd hcd hD hmg hg args vals as hpre hlay hrd hwl hlo
    refine walk08 G.T.g hmg Y hg (Bool.and_eq_true_iff.mp hpre).1 hlay hwl hrd (fun _ => rfl) ?_
    kernel_rfl
end Mine
end
theorem PySem.Challenge.cw_qv0004_08_holds : PySem.Challenge.rw_qv0004_08.Holds := by
  exact PySem.W.holds_law Mine.ws_law fun said => Mine.hold08 said
