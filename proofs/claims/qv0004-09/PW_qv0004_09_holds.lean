import PyProof.Rows.All
import Wide.All
import Open.Line
import OpenK.AllK
import Wide.FinOn
import Lean
import PySem.Challenge.RW_qv0004_09
set_option Elab.async false
set_option tactic.hygienic false
set_option linter.all false
set_option bootstrap.genMatcherCode false
set_option genInjectivity false
set_option genSizeOf false
set_option maxRecDepth 100000
section
namespace Mine
theorem succ_of {n a p : Nat} (h : a - p ≤ n) (hp : p < a) : ∃ j, n = j + 1 := ⟨n - 1, (Nat.succ_pred_eq_of_pos (Nat.lt_of_lt_of_le (Nat.sub_pos_of_lt hp) h)).symm⟩
theorem dec_of {a p q n : Nat} (h : a - p ≤ n + 1) (hq : p < q) : a - q ≤ n := Nat.le_trans (Nat.sub_le_sub_left hq a) (Nat.pred_le_pred h)
theorem up_of {a n p q : Nat} (h : a ≤ n - q) (hq : p < q) (hp : p < n) : a + 1 ≤ n - p := Nat.lt_of_le_of_lt h (Nat.sub_lt_sub_left hp hq)
theorem sub1 {e p : Nat} (h : p < e) : e - p = e - (p + 1) + 1 := (Nat.succ_pred_eq_of_pos (Nat.sub_pos_of_lt h)).symm
theorem lt1_of {p k : Nat} : p < p + 1 + k := Nat.lt_of_lt_of_le (Nat.lt_succ_self p) (Nat.le_add_right _ _)
theorem le_sub_le {a n e : Nat} (h : a ≤ n - e) : a ≤ n := Nat.le_trans h (Nat.sub_le n e)
theorem add_sub_le {a n e : Nat} (h : a ≤ n - e) (he : e ≤ n) : e + a ≤ n := Nat.le_trans (Nat.add_le_add_left h e) (Nat.le_of_eq (Nat.add_sub_cancel' he))
theorem two_of {p n : Nat} (h : p ≤ n) (hn : n ≤ 100000) : 2 * p < 999999 := Nat.lt_of_le_of_lt (Nat.mul_le_mul_left 2 (Nat.le_trans h hn)) (by decide)
theorem ch2 {c p : Nat} (k : Nat) (h : c ≤ 2 * p) : c + 1 + 1 ≤ 2 * (p + 1 + k) := Nat.le_trans (Nat.add_le_add_right h 2) (Nat.mul_le_mul_left 2 (Nat.le_add_right (p + 1) k))
theorem ch1 {c p : Nat} (h : c ≤ 2 * p) : c ≤ 2 * (p + 1) := Nat.le_trans h (Nat.le_add_right _ 2)
theorem ch11 {c p : Nat} (h : c ≤ 2 * p) : c + 1 ≤ 2 * (p + 1) := Nat.le_succ_of_le (Nat.succ_le_succ h)
theorem ac3 (p n k : Nat) : p + 1 + k + n = p + (n + k + 1) := by rw [Nat.add_assoc p 1, Nat.add_assoc p, Nat.add_comm n k, Nat.add_comm 1 k, Nat.add_assoc k 1, Nat.add_comm 1 n, ← Nat.add_assoc k n]
theorem ac2 (p n : Nat) : p + 2 + n = p + (n + 2) := by rw [Nat.add_assoc, Nat.add_comm 2]
theorem le4 {n : Nat} (h : n ≤ 400000) : n ≤ 1000000 := Nat.le_trans h (by decide)
theorem le4s {n : Nat} (h : n ≤ 400000) : n + 1 ≤ 1000000 := Nat.le_trans (Nat.succ_le_succ h) (by decide)
theorem le17 {n : Nat} (h : n ≤ 100000) : n ≤ 16777216 := Nat.le_trans h (by decide)
theorem ser_a {s n j : Nat} (h : s ≤ 3 * n) (hn : n ≤ 100000) (hj : j ≤ 10) : j + s ≤ 16777216 := Nat.le_trans (Nat.add_le_add hj (Nat.le_trans h (Nat.mul_le_mul_left 3 hn))) (by decide)
theorem ser_b {s n j : Nat} (h : s ≤ 3 * n) (hn : n ≤ 100000) (hj : j ≤ 10) : j + s + 1 ≤ 16777216 := Nat.le_trans (Nat.succ_le_succ (Nat.add_le_add hj (Nat.le_trans h (Nat.mul_le_mul_left 3 hn)))) (by decide)
theorem min_all {a b n : Nat} (h : min b n - min a n = n) : a = 0 ∨ n = 0 := by
  rcases Nat.eq_zero_or_pos a with ha | ha
  · exact .inl ha
  rcases Nat.eq_zero_or_pos n with hn | hn
  · exact .inr hn
  have h1 : n ≤ n - min a n := Nat.le_trans (Nat.le_of_eq h.symm) (Nat.sub_le_sub_right (Nat.min_le_right b n) _)
  exact absurd (Nat.sub_lt hn (Nat.lt_min.mpr ⟨ha, hn⟩)) (Nat.not_lt.mpr h1)
theorem dbl {p q : Nat} (h : p < q) : 2 * p ≤ 2 * q := Nat.mul_le_mul_left 2 (Nat.le_of_lt h)
theorem dbl2 {c t p q : Nat} (h1 : c ≤ 2 * p) (h2 : t ≤ 2) (h : p < q) : c + t ≤ 2 * q := Nat.le_trans (Nat.add_le_add h1 h2) (Nat.mul_le_mul_left 2 h)
theorem six {e : Nat} (h : e < 6) : ∃ k, 6 - e = k + 1 ∧ 6 - (e + 1) = k := ⟨6 - (e + 1), sub1 h, rfl⟩
theorem six0 {e : Nat} (h : ¬ e < 6) : 6 - e = 0 := Nat.sub_eq_zero_of_le (Nat.not_lt.mp h)
end Mine
end
section
set_option backward.match.sparseCases false
namespace Mine
open PySem PySem.W PySem.Calls PyProof.Rows
abbrev PH := Addr → Option Obj
inductive PV where
  | none
  | bool (b : Bool)
  | int (i : Int)
  | str (s : List Nat)
  | tup (vs : List PV)
  | lst (vs : List PV)
  | node (c : Addr) (fs : List PV)
  | dct (ks : List (List Nat)) (vs : List PV)
  | tdc (ks : List (List Int)) (vs : List PV)
  | ref (a : Addr)
abbrev sOf (s : List Nat) : Str := ⟨s.toArray⟩
def sok (s : List Nat) : Prop := (∀ c ∈ s, c < 1114112) ∧ s.length ≤ 16777216
noncomputable def assocL (k : Str) : List (List Nat) → List Value → Option Value
  | [], _ => Option.none
  | a :: ks, vs => vs.casesOn Option.none fun v vs => if sOf a = k then some v else assocL k ks vs
def PMapOf (prog : Program) (w : World) (z : PH) (a : Addr) (f : Str → Option Value) : Prop :=
  ∃ o es ep, z a = some o ∧ o.ExactDict ∧ o.data = .dict es ep ∧ KeysOf (strKind prog w) es ∧ (∀ k, findBy (strKind prog w).is es k = f k) ∧ es.size ≤ 1000
def TKey (prog : Program) (w : World) (z : PH) (ks : List Int) (a : Addr) : Prop := ∃ o items n, z a = some o ∧ o.cls = .type "tuple" ∧ o.data = .seq items n ∧ ItemsAre (intKind prog w) ks items.toList
def TEnt (prog : Program) (w : World) (z : PH) (es : Array DictEntry) (ks : List (List Int)) (xs : List Value) : Prop :=
  ∃ l : List (List Int × Addr × Value), es.toList = l.map (entryOfKey (tupleKind (intKind prog w))) ∧ (∀ x ∈ l, TKey prog w z x.1 x.2.1) ∧ l.map (·.1) = ks ∧ l.map (·.2.2) = xs ∧ ks.Nodup ∧ l.length ≤ 1000
structure Base where
  prog : Program
  w : World
  heap : Heap
  os : OsState
  mg : Str → Option Value
  mb : Str → Option Value
  tabs : List (Addr × Addr × Array Value)
mutual
def Rep (B : Base) (z : PH) : PV → Value → Prop
  | .none, v => v = .none
  | .bool b, v => v = .bool b
  | .int i, v => ∃ t, v = .int i t
  | .str s, v => sok s ∧ ∃ t, v = .str (sOf s) t
  | .tup vs, v => ∃ a n xs, v = .ref a ∧ z a = some { cls := .type "tuple", data := .seq xs n } ∧ RepL B z vs xs.toList ∧ xs.size ≤ sizeLine
  | .lst vs, v => ∃ a n xs, v = .ref a ∧ z a = some { cls := .type "list", data := .seq xs n } ∧ RepL B z vs xs.toList ∧ xs.size ≤ sizeLine
  | .node c fs, v => ∃ a d sl xs, v = .ref a ∧ z a = some ⟨.ref c, some d, .plain, sl⟩ ∧ z d = some emptyDict ∧ sl.toList = xs.map some ∧ RepL B z fs xs
  | .dct ks vs, v => ∃ a xs, v = .ref a ∧ (a == sysModules) = false ∧ ks.length = vs.length ∧ RepL B z vs xs ∧ PMapOf B.prog B.w z a (fun k => assocL k ks xs)
  | .tdc ks vs, v => ∃ a xs, v = .ref a ∧ (a == sysModules) = false ∧ RepL B z vs xs ∧ ∃ o es ep, z a = some o ∧ o.ExactDict ∧ o.data = .dict es ep ∧ TEnt B.prog B.w z es ks xs
  | .ref a, v => v = .ref a
def RepL (B : Base) (z : PH) : List PV → List Value → Prop
  | [], xs => xs = []
  | p :: ps, xs => ∃ v vs, xs = v :: vs ∧ Rep B z p v ∧ RepL B z ps vs
end
def zle (z z' : PH) : Prop := ∀ a o, z a = some o → z' a = some o
theorem zle.refl (z : PH) : zle z z := fun xx xx h => h
theorem zle.trans {z₁ z₂ z₃ : PH} (a : zle z₁ z₂) (b : zle z₂ z₃) : zle z₁ z₃ := fun x o h => b x o (a x o h)
theorem PMapOf.mono {prog w z z' a f} (h : zle z z') (m : PMapOf prog w z a f) : PMapOf prog w z' a f :=
  by obtain ⟨o, es, ep, h1, h2⟩ := m; exact ⟨o, es, ep, h _ _ h1, h2⟩
theorem TKey.mono {prog w z z' ks a} (h : zle z z') (m : TKey prog w z ks a) : TKey prog w z' ks a := by
  obtain ⟨o, items, n, h1, h2⟩ := m; exact ⟨o, items, n, h _ _ h1, h2⟩
theorem TEnt.mono {prog w z z' es ks xs} (h : zle z z') (m : TEnt prog w z es ks xs) : TEnt prog w z' es ks xs := by
  obtain ⟨l, h1, h2, h3⟩ := m; exact ⟨l, h1, fun x hx => (h2 x hx).mono h, h3⟩
mutual
theorem Rep.mono {B : Base} {z z' : PH} (h : zle z z') : ∀ {p : PV} {v : Value}, Rep B z p v → Rep B z' p v
  | .none, _, r => r
  | .bool _, _, r => r
  | .int _, _, r => r
  | .str _, _, r => r
  | .tup _, _, r => by obtain ⟨a, n, xs, h1, h2, h3, h4⟩ := r; exact ⟨a, n, xs, h1, h _ _ h2, RepL.mono h h3, h4⟩
  | .lst _, _, r => by obtain ⟨a, n, xs, h1, h2, h3, h4⟩ := r; exact ⟨a, n, xs, h1, h _ _ h2, RepL.mono h h3, h4⟩
  | .node _ _, _, r => by obtain ⟨a, d, sl, xs, h1, h2, h5, h3, h4⟩ := r; exact ⟨a, d, sl, xs, h1, h _ _ h2, h _ _ h5, h3, RepL.mono h h4⟩
  | .dct _ _, _, r => by obtain ⟨a, xs, h1, h2, h3, h4, h5⟩ := r; exact ⟨a, xs, h1, h2, h3, RepL.mono h h4, h5.mono h⟩
  | .tdc _ _, _, r => by obtain ⟨a, xs, h1, h2, h3, o, es, ep, h4, h5, h6, h7⟩ := r; exact ⟨a, xs, h1, h2, RepL.mono h h3, o, es, ep, h _ _ h4, h5, h6, h7.mono h⟩
  | .ref _, _, r => r
theorem RepL.mono {B : Base} {z z' : PH} (h : zle z z') : ∀ {ps : List PV} {vs : List Value}, RepL B z ps vs → RepL B z' ps vs
  | [], _, r => r
  | _ :: _, _, r => by obtain ⟨v, vs, h1, h2, h3⟩ := r; exact ⟨v, vs, h1, Rep.mono h h2, RepL.mono h h3⟩
end
theorem RepL.length {B : Base} {z : PH} : ∀ {ps : List PV} {vs : List Value}, RepL B z ps vs → vs.length = ps.length
  | [], _, r => by cases r; rfl
  | _ :: _, _, r => by obtain ⟨v, vs, h1, h2, h3⟩ := r; subst h1; exact congrArg Nat.succ (RepL.length h3)
theorem RepL.get {B : Base} {z : PH} : ∀ {ps : List PV} {vs : List Value}, RepL B z ps vs → ∀ {i : Nat} {p : PV}, ps[i]? = some p → ∃ v, vs[i]? = some v ∧ Rep B z p v
  | [], _, r, i, p, h => nomatch h
  | q :: ps, _, r, i, p, h => by
    obtain ⟨v, vs, h1, h2, h3⟩ := r
    subst h1
    cases i with
    | zero => cases h; exact ⟨v, rfl, h2⟩
    | succ i => exact RepL.get h3 (i := i) h
theorem RepL.append {B : Base} {z : PH} : ∀ {ps qs : List PV} {vs us : List Value}, RepL B z ps vs → RepL B z qs us → RepL B z (ps ++ qs) (vs ++ us)
  | [], _, _, _, r, r' => by cases r; exact r'
  | _ :: _, _, _, _, r, r' => by obtain ⟨v, vs, h1, h2, h3⟩ := r; subst h1; exact ⟨v, _, rfl, h2, RepL.append h3 r'⟩
theorem RepL.single {B : Base} {z : PH} {p : PV} {v : Value} (h : Rep B z p v) : RepL B z [p] [v] := ⟨v, [], rfl, h, rfl⟩
theorem RepL.take {B : Base} {z : PH} : ∀ {ps : List PV} {vs : List Value}, RepL B z ps vs → ∀ n, RepL B z (ps.take n) (vs.take n)
  | [], _, r, n => by cases r; cases n <;> rfl
  | _ :: _, _, r, n => by
    obtain ⟨v, vs, h1, h2, h3⟩ := r
    subst h1
    cases n with
    | zero => rfl
    | succ n => exact ⟨v, _, rfl, h2, RepL.take h3 n⟩
theorem RepL.drop {B : Base} {z : PH} : ∀ {ps : List PV} {vs : List Value}, RepL B z ps vs → ∀ n, RepL B z (ps.drop n) (vs.drop n)
  | [], _, r, n => by cases r; cases n <;> rfl
  | _ :: _, _, r, n => by
    cases n with
    | zero => exact r
    | succ n =>
      obtain ⟨v, vs, h1, h2, h3⟩ := r
      subst h1
      exact RepL.drop h3 n
set_option genCtorIdx false in
inductive AO where
  | list (vs : List PV)
  | dict (ks : List (List Nat)) (vs : List PV)
  | tdict (ks : List (List Int)) (vs : List PV)
  | inst (c : Addr) (fs : List (Option PV))
  | tbl (c p : Addr) (ps : Array Value)
abbrev AH := Addr → Option AO
noncomputable def AH.upd (H : AH) (a : Addr) (o : AO) : AH := fun b => if b = a then some o else H b
noncomputable def AH.del (H : AH) (a : Addr) : AH := fun b => if b = a then none else H b
def NoTbl : Option AO → Prop
  | .none => True
  | some x => AO.rec (fun _ => True) (fun _ _ => True) (fun _ _ => True) (fun _ _ => True) (fun _ _ _ => False) x
def TabIn (B : Base) (H : AH) : Prop := ∀ t ∈ B.tabs, H t.2.1 = some (.tbl t.1 t.2.1 t.2.2)
theorem TabIn.del {B : Base} {H : AH} {a : Addr} (T : TabIn B H) (h : NoTbl (H a)) : TabIn B (H.del a) := by
  intro t ht
  unfold AH.del
  split
  · rename_i q
    have := T t ht
    rw [q] at this; rw [this] at h; exact h.elim
  · exact T t ht
theorem TabIn.upd {B : Base} {H : AH} {a : Addr} {x : AO} (T : TabIn B H) (h : NoTbl (H a)) : TabIn B (H.upd a x) := by
  intro t ht
  unfold AH.upd
  split
  · rename_i q
    have := T t ht
    rw [q] at this; rw [this] at h; exact h.elim
  · exact T t ht
structure CodeHead (z : PH) (c p : Addr) : Prop where
  ne : c ≠ p
  it : ∃ o vs file tf flags tg inF text tt, z c = some o ∧ o.cls = .type "code" ∧ o.data = .fields vs ∧ vs[11]? = some (.ref p) ∧ vs.getD 11 .none = .ref p ∧ vs.getD 18 .none = .str file tf ∧
    vs.getD 7 .none = .int flags tg ∧ vs.getD 9 .none = .bool inF ∧ vs.getD 10 .none = .int text tt
theorem CodeHead.mono {z z' : PH} {c p : Addr} (h : zle z z') (K : CodeHead z c p) : CodeHead z' c p := by
  obtain ⟨o, vs, file, tf, flags, tg, inF, text, tt, h1, h2⟩ := K.it
  exact ⟨K.ne, o, vs, file, tf, flags, tg, inF, text, tt, h _ _ h1, h2⟩
def RepO (B : Base) (z : PH) : Option PV → Option Value → Prop
  | none, v => v = none
  | some p, v => ∃ x, v = some x ∧ Rep B z p x
def RepOL (B : Base) (z : PH) : List (Option PV) → List (Option Value) → Prop
  | [], xs => xs = []
  | p :: ps, xs => ∃ v vs, xs = v :: vs ∧ RepO B z p v ∧ RepOL B z ps vs
def ORep (B : Base) (z : PH) (o : Obj) : AO → Prop
  | .list vs => ∃ n xs, o = { cls := .type "list", data := .seq xs n } ∧ RepL B z vs xs.toList ∧ xs.size ≤ sizeLine
  | .dict ks vs => ∃ es ep kvs, o.ExactDict ∧ o.data = .dict es ep ∧ KeysOf (strKind B.prog B.w) es ∧ Pairs (strKind B.prog B.w) es.toList kvs ∧ kvs.map (·.1) = ks.map sOf ∧ (ks.map sOf).Nodup ∧ RepL B z vs (kvs.map (·.2)) ∧ es.size ≤ 1000
  | .tdict ks vs => ∃ es ep xs, o.ExactDict ∧ o.data = .dict es ep ∧ RepL B z vs xs ∧ TEnt B.prog B.w z es ks xs
  | .inst c fs => ∃ d sl, o = ⟨.ref c, some d, .plain, sl⟩ ∧ z d = some emptyDict ∧ RepOL B z fs sl.toList
  | .tbl c p ps => CodeHead z c p ∧ ∃ more, o = { cls := .none, data := .fields (ps ++ more) } ∧ TriplesOk (ps ++ more).toList
theorem RepO.mono {B : Base} {z z' : PH} (h : zle z z') : ∀ {p v}, RepO B z p v → RepO B z' p v
  | none, _, r => r
  | some _, _, ⟨x, a, b⟩ => ⟨x, a, b.mono h⟩
theorem RepOL.mono {B : Base} {z z' : PH} (h : zle z z') : ∀ {ps vs}, RepOL B z ps vs → RepOL B z' ps vs
  | [], _, r => r
  | _ :: _, _, r => by obtain ⟨v, vs, a, b, c⟩ := r; exact ⟨v, vs, a, b.mono h, RepOL.mono h c⟩
theorem ORep.mono {B : Base} {z z' : PH} (h : zle z z') {o : Obj} : ∀ {x : AO}, ORep B z o x → ORep B z' o x
  | .list _, r => by obtain ⟨n, xs, a, b, c⟩ := r; exact ⟨n, xs, a, b.mono h, c⟩
  | .dict _ _, r => by obtain ⟨es, ep, xs, a, b, c, d, e, f, g, i⟩ := r; exact ⟨es, ep, xs, a, b, c, d, e, f, g.mono h, i⟩
  | .tdict _ _, r => by obtain ⟨es, ep, xs, a, b, c, d⟩ := r; exact ⟨es, ep, xs, a, b, c.mono h, d.mono h⟩
  | .inst _ _, r => by obtain ⟨d, sl, a, e, b⟩ := r; exact ⟨d, sl, a, h _ _ e, RepOL.mono h b⟩
  | .tbl _ _ _, r => ⟨r.1.mono h, r.2⟩
structure StC (B : Base) (z P : PH) (H : AH) (s : Shared) : Prop where
  base : ∀ a o, B.heap.get? a = some o → z a = some o
  zin : ∀ a o, z a = some o → s.heap.get? a = some o
  pin : ∀ a o, P a = some o → s.heap.get? a = some o ∧ z a = none ∧ H a = none
  hin : ∀ a x, H a = some x → z a = none ∧ ∃ o, s.heap.get? a = some o ∧ ORep B z o x
  os : s.os = B.os
  gens : AllBare s.gens
  tk : 0 < s.toks ∧ TabIn B H
def LocRep (B : Base) (z : PH) (vars : List Str) (ρ : List (Option PV)) (m : Str → Option Value) : Prop :=
  ∀ (i : Nat) (x : Str) (p : PV), vars[i]? = some x → ρ[i]? = some (some p) → ∃ v, m x = some v ∧ Rep B z p v
structure St (B : Base) (z P : PH) (vars : List Str) (L : Addr) (ρ : List (Option PV)) (H : AH) (s : Shared) : Prop where
  c : StC B z P H s
  lz : z L = none
  lp : P L = none
  lh : H L = none
  loc : ∃ m, s.heap.Ns L m ∧ LocRep B z vars ρ m
theorem LocRep.mono {B : Base} {z z' : PH} (h : zle z z') {vars ρ m} (l : LocRep B z vars ρ m) : LocRep B z' vars ρ m :=
  fun i x p a b => by obtain ⟨v, c, d⟩ := l i x p a b; exact ⟨v, c, d.mono h⟩
section
variable {B : Base} {z P : PH} {vars : List Str} {L : Addr} {ρ : List (Option PV)} {H : AH} {s s' : Shared}
theorem StC.ofHeap (S : StC B z P H s) (h : s'.heap = s.heap) (ho : s'.os = s.os) (hg : AllBare s'.gens) (ht : s.toks ≤ s'.toks) : StC B z P H s' :=
  ⟨S.base, fun a o e => by rw [h]; exact S.zin a o e, fun a o e => by rw [h]; exact S.pin a o e, fun a x e => by rw [h]; exact S.hin a x e, ho.trans S.os, hg, ⟨Nat.lt_of_lt_of_le S.tk.1 ht, S.tk.2⟩⟩
theorem St.ofHeap (S : St B z P vars L ρ H s) (h : s'.heap = s.heap) (ho : s'.os = s.os) (hg : AllBare s'.gens) (ht : s.toks ≤ s'.toks) : St B z P vars L ρ H s' :=
  ⟨S.c.ofHeap h ho hg ht, S.lz, S.lp, S.lh, by rw [h]; exact S.loc⟩
theorem St.toks (S : St B z P vars L ρ H s) {t : Nat} (ht : s.toks ≤ t) : St B z P vars L ρ H { s with toks := t } := S.ofHeap rfl rfl S.c.gens ht
theorem StC.zlt (S : StC B z P H s) {a o} (h : z a = some o) : a < s.heap.objs.size := Heap.lt_size (S.zin a o h)
theorem StC.zfresh (S : StC B z P H s) : z s.heap.objs.size = none := by
  cases h : z s.heap.objs.size with
  | none => rfl
  | some o => exact absurd (S.zlt h) (Nat.lt_irrefl _)
theorem StC.pfresh (S : StC B z P H s) : P s.heap.objs.size = none := by
  cases h : P s.heap.objs.size with
  | none => rfl
  | some o => exact absurd (Heap.lt_size (S.pin _ o h).1) (Nat.lt_irrefl _)
theorem StC.hfresh (S : StC B z P H s) : H s.heap.objs.size = none := by
  cases h : H s.heap.objs.size with
  | none => rfl
  | some o => obtain ⟨_, o, h, _⟩ := S.hin _ _ h; exact absurd (Heap.lt_size h) (Nat.lt_irrefl _)
theorem St.llt (S : St B z P vars L ρ H s) : L < s.heap.objs.size := by obtain ⟨_, n, _⟩ := S.loc; exact n.lt
theorem StC.keeps (S : StC B z P H s) {h' : Heap} {t : Nat} (ht : s.toks ≤ t) (k : ∀ b o, s.heap.get? b = some o → h'.get? b = some o) : StC B z P H { s with heap := h', toks := t } :=
  ⟨S.base, fun a o e => k _ _ (S.zin a o e), fun a o e => ⟨k _ _ (S.pin a o e).1, (S.pin a o e).2⟩, fun a x e => by obtain ⟨a1, o, a2, a3⟩ := S.hin a x e; exact ⟨a1, o, k _ _ a2, a3⟩, S.os, S.gens, ⟨Nat.lt_of_lt_of_le S.tk.1 ht, S.tk.2⟩⟩
theorem St.keeps (S : St B z P vars L ρ H s) {h' : Heap} {t : Nat} (ht : s.toks ≤ t) (k : ∀ b o, s.heap.get? b = some o → h'.get? b = some o) : St B z P vars L ρ H { s with heap := h', toks := t } :=
  ⟨S.c.keeps ht k, S.lz, S.lp, S.lh, by obtain ⟨m, a, b⟩ := S.loc; exact ⟨m, a.keeps k, b⟩⟩
noncomputable def zadd (z : PH) (a : Addr) (o : Obj) : PH := fun b => if b = a then some o else z b
theorem zadd_le {z : PH} {a : Addr} {o : Obj} (h : z a = none) : zle z (zadd z a o) := fun b o' e => by
  unfold zadd; split
  · rename_i q; subst q; rw [h] at e; cases e
  · exact e
theorem zadd_self (z : PH) (a : Addr) (o : Obj) : zadd z a o a = some o := by simp [zadd]
theorem StC.freeze (S : StC B z P H s) {a : Addr} {o : Obj} (ho : s.heap.get? a = some o) (hz : z a = none) (hp : P a = none) (hh : H a = none) : StC B (zadd z a o) P H s := by
  have le := zadd_le (o := o) hz
  refine ⟨fun b x e => le _ _ (S.base b x e), fun b x e => ?_, fun b x e => ?_, fun b x e => ?_, S.os, S.gens, S.tk⟩
  · unfold zadd at e; split at e
    · rename_i q; subst q; cases e; exact ho
    · exact S.zin _ _ e
  · obtain ⟨a1, a2, a3⟩ := S.pin b x e
    refine ⟨a1, ?_, a3⟩
    unfold zadd; split
    · rename_i q; subst q; rw [hp] at e; cases e
    · exact a2
  · obtain ⟨a1, o', a2, a3⟩ := S.hin b x e
    refine ⟨?_, o', a2, a3.mono le⟩
    unfold zadd; split
    · rename_i q; subst q; rw [hh] at e; cases e
    · exact a1
theorem St.freeze (S : St B z P vars L ρ H s) {a : Addr} {o : Obj} (ho : s.heap.get? a = some o) (hz : z a = none) (hp : P a = none) (hh : H a = none) (hl : a ≠ L) : St B (zadd z a o) P vars L ρ H s :=
  ⟨S.c.freeze ho hz hp hh, by unfold zadd; rw [if_neg (Ne.symm hl)]; exact S.lz, S.lp, S.lh, by obtain ⟨m, a, b⟩ := S.loc; exact ⟨m, a, b.mono (zadd_le hz)⟩⟩
theorem StC.drop (S : StC B z P H s) (a : Addr) (hn : NoTbl (H a)) : StC B z P (H.del a) s :=
  ⟨S.base, S.zin, fun b o e => by obtain ⟨a1, a2, a3⟩ := S.pin b o e; exact ⟨a1, a2, by unfold AH.del; split; rfl; exact a3⟩,
   fun b x e => by unfold AH.del at e; split at e; cases e; exact S.hin b x e, S.os, S.gens, S.tk.1, S.tk.2.del hn⟩
theorem St.drop (S : St B z P vars L ρ H s) (a : Addr) (hn : NoTbl (H a)) : St B z P vars L ρ (H.del a) s :=
  ⟨S.c.drop a hn, S.lz, S.lp, by unfold AH.del; split; rfl; exact S.lh, S.loc⟩
theorem St.pushFrozen (S : St B z P vars L ρ H s) {o : Obj} (hf : o.isFreed = false) : St B (zadd z s.heap.objs.size o) P vars L ρ H { s with heap := s.heap.push o } :=
  (S.keeps (Nat.le_refl s.toks) fun xx xx e => Heap.get?_push_of_some o e).freeze (Heap.get?_push_size _ hf) S.c.zfresh S.c.pfresh S.c.hfresh (Nat.ne_of_gt S.llt)
theorem StC.pushFrozen (S : StC B z P H s) {o : Obj} (hf : o.isFreed = false) : StC B (zadd z s.heap.objs.size o) P H { s with heap := s.heap.push o } :=
  (S.keeps (Nat.le_refl s.toks) fun xx xx e => Heap.get?_push_of_some o e).freeze (Heap.get?_push_size _ hf) S.zfresh S.pfresh S.hfresh
theorem StC.own (S : StC B z P H s) {a : Addr} {o : Obj} {x : AO} (hn : NoTbl (H a)) (ho : s.heap.get? a = some o) (hz : z a = none) (hp : P a = none) (hr : ORep B z o x) : StC B z P (H.upd a x) s := by
  refine ⟨S.base, S.zin, fun b o' e => ?_, fun b x' e => ?_, S.os, S.gens, S.tk.1, S.tk.2.upd hn⟩
  · obtain ⟨a1, a2, a3⟩ := S.pin b o' e
    refine ⟨a1, a2, ?_⟩
    unfold AH.upd; split
    · rename_i q; subst q; rw [hp] at e; cases e
    · exact a3
  · unfold AH.upd at e; split at e
    · rename_i q; subst q; cases e; exact ⟨hz, o, ho, hr⟩
    · exact S.hin b x' e
theorem St.own (S : St B z P vars L ρ H s) {a : Addr} {o : Obj} {x : AO} (hn : NoTbl (H a)) (ho : s.heap.get? a = some o) (hz : z a = none) (hp : P a = none) (hr : ORep B z o x) (hl : a ≠ L) : St B z P vars L ρ (H.upd a x) s :=
  ⟨S.c.own hn ho hz hp hr, S.lz, S.lp, by unfold AH.upd; rw [if_neg (Ne.symm hl)]; exact S.lh, S.loc⟩
theorem St.pushOwn (S : St B z P vars L ρ H s) {o : Obj} {x : AO} (hf : o.isFreed = false) (hr : ORep B z o x) : St B z P vars L ρ (H.upd s.heap.objs.size x) { s with heap := s.heap.push o } :=
  (S.keeps (Nat.le_refl s.toks) fun xx xx e => Heap.get?_push_of_some o e).own (by rw [S.c.hfresh]; exact trivial) (Heap.get?_push_size _ hf) S.c.zfresh S.c.pfresh hr (Nat.ne_of_gt S.llt)
theorem StC.pushOwn (S : StC B z P H s) {o : Obj} {x : AO} (hf : o.isFreed = false) (hr : ORep B z o x) : StC B z P (H.upd s.heap.objs.size x) { s with heap := s.heap.push o } :=
  (S.keeps (Nat.le_refl s.toks) fun xx xx e => Heap.get?_push_of_some o e).own (by rw [S.hfresh]; exact trivial) (Heap.get?_push_size _ hf) S.zfresh S.pfresh hr
theorem StC.change (S : StC B z P H s) {a : Addr} {h' : Heap} {t : Nat} (hn : NoTbl (H a)) (ht : s.toks ≤ t) (hs : Heap.ExtBut a s.heap h') (hz : z a = none) (hp : P a = none) : StC B z P (H.del a) { s with heap := h', toks := t } := by
  refine ⟨S.base, fun b o e => ?_, fun b o e => ?_, fun b x e => ?_, S.os, S.gens, Nat.lt_of_lt_of_le S.tk.1 ht, S.tk.2.del hn⟩
  · exact hs b o (by rintro rfl; rw [hz] at e; cases e) (S.zin b o e)
  · obtain ⟨a1, a2, a3⟩ := S.pin b o e
    exact ⟨hs b o (by rintro rfl; rw [hp] at e; cases e) a1, a2, by unfold AH.del; split; rfl; exact a3⟩
  · unfold AH.del at e; split at e
    · cases e
    · rename_i q
      obtain ⟨a1, o, a2, a3⟩ := S.hin b x e
      exact ⟨a1, o, hs b _ q a2, a3⟩
theorem StC.changeOwn (S : StC B z P H s) {a : Addr} {h' : Heap} {t : Nat} {o : Obj} {x y : AO} (ht : s.toks ≤ t) (hs : Heap.ExtBut a s.heap h') (hx : H a = some y) (ho : h'.get? a = some o) (hr : ORep B z o x) (hy : NoTbl (some y)) :
    StC B z P (H.upd a x) { s with heap := h', toks := t } := by
  have hz := (S.hin a y hx).1
  have hp : P a = none := by
    cases h : P a with
    | none => rfl
    | some o => have := (S.pin a o h).2.2; rw [hx] at this; cases this
  have S1 := (S.change (by rw [hx]; exact hy) ht hs hz hp).own (by show NoTbl (if a = a then none else H a); rw [if_pos rfl]; trivial) (s := { s with heap := h', toks := t }) (o := o) (x := x) ho hz hp hr
  have : (H.del a).upd a x = H.upd a x := by funext b; unfold AH.upd AH.del; split <;> simp [*]
  rw [this] at S1; exact S1
theorem St.changeOwn (S : St B z P vars L ρ H s) {a : Addr} {h' : Heap} {t : Nat} {o : Obj} {x y : AO} (ht : s.toks ≤ t) (hs : Heap.ExtBut a s.heap h') (hx : H a = some y) (ho : h'.get? a = some o) (hr : ORep B z o x) (hy : NoTbl (some y)) :
    St B z P vars L ρ (H.upd a x) { s with heap := h', toks := t } := by
  have hl : L ≠ a := by rintro rfl; rw [S.lh] at hx; cases hx
  refine ⟨S.c.changeOwn ht hs hx ho hr hy, S.lz, S.lp, by unfold AH.upd; rw [if_neg hl]; exact S.lh, ?_⟩
  obtain ⟨m, a1, a2⟩ := S.loc
  exact ⟨m, a1.extBut hs hl, a2⟩
theorem St.setLoc (S : St B z P vars L ρ H s) {h' : Heap} {t : Nat} (ht : s.toks ≤ t) {x : Str} {v : Value} {p : PV} {i : Nat} (hn : vars.Nodup) (hi : vars[i]? = some x)
    (m : Str → Option Value) (hm : LocRep B z vars ρ m) (hns : h'.Ns L (fun y => if y = x then some v else m y)) (hs : Heap.SameBut L s.heap h') (hr : Rep B z p v) :
    St B z P vars L (ρ.set i (some p)) H { s with heap := h', toks := t } := by
  have e : H.del L = H := by
    funext b; unfold AH.del; split
    · rename_i q; subst q; exact S.lh.symm
    · rfl
  have := S.c.change (by rw [S.lh]; exact trivial) ht hs.extBut S.lz S.lp
  rw [e] at this
  refine ⟨this, S.lz, S.lp, S.lh, _, hns, fun j y q hy hq => ?_⟩
  by_cases hij : j = i
  · subst hij
    rw [hi] at hy; cases hy
    simp only [if_true]
    rw [List.getElem?_set] at hq
    split at hq
    · split at hq
      · cases hq; exact ⟨v, rfl, hr⟩
      · cases hq
    · rename_i h; exact absurd rfl h
  · have hne : y ≠ x := by
      rintro rfl
      exact hij ((List.getElem?_inj (List.getElem?_eq_some_iff.mp hy).1 hn).mp (hy.trans hi.symm))
    rw [List.getElem?_set_ne (Ne.symm hij)] at hq
    obtain ⟨u, a1, a2⟩ := hm j y q hy hq
    exact ⟨u, by simp only [hne, if_false]; exact a1, a2⟩
end
structure Room (d : Nat) (A : Around) : Prop where
  h : A.handled = none
  dep : A.depth + 3 * d + 20 ≤ 1000
  un : A.units + 20 * d + 1000 ≤ 9900
end Mine
end
section
set_option backward.match.sparseCases false
namespace Mine
open PySem PySem.W PySem.Calls PyProof.Rows
noncomputable def onInt (x : PV) (k : Int → Prop) : Prop := match x with
  | .int i => k i
  | _ => False
noncomputable def onNat (x : PV) (k : Nat → Prop) : Prop := match x with
  | .int i => (match i with | .ofNat n => k n | .negSucc _ => False)
  | _ => False
noncomputable def onStr (x : PV) (k : List Nat → Prop) : Prop := match x with
  | .str i => k i
  | _ => False
noncomputable def onTup (x : PV) (k : List PV → Prop) : Prop := match x with
  | .tup i => k i
  | _ => False
noncomputable def onLst (x : PV) (k : List PV → Prop) : Prop := match x with
  | .lst i => k i
  | _ => False
noncomputable def onRef (x : PV) (k : Addr → Prop) : Prop := match x with
  | .ref i => k i
  | _ => False
noncomputable def onNode (x : PV) (k : Addr → List PV → Prop) : Prop := match x with
  | .node c fs => k c fs
  | _ => False
theorem onInt_inv {x : PV} {k : Int → Prop} (h : onInt x k) : ∃ i, x = .int i ∧ k i := by cases x <;> first | exact ⟨_, rfl, h⟩ | exact h.elim
theorem onNat_inv {x : PV} {k : Nat → Prop} (h : onNat x k) : ∃ i : Nat, x = .int i ∧ k i := by
  cases x with
  | int i => cases i with
    | ofNat n => exact ⟨n, rfl, h⟩
    | negSucc _ => exact h.elim
  | _ => exact h.elim
theorem onStr_inv {x : PV} {k : List Nat → Prop} (h : onStr x k) : ∃ i, x = .str i ∧ k i := by cases x <;> first | exact ⟨_, rfl, h⟩ | exact h.elim
theorem onTup_inv {x : PV} {k : List PV → Prop} (h : onTup x k) : ∃ i, x = .tup i ∧ k i := by cases x <;> first | exact ⟨_, rfl, h⟩ | exact h.elim
theorem onLst_inv {x : PV} {k : List PV → Prop} (h : onLst x k) : ∃ i, x = .lst i ∧ k i := by cases x <;> first | exact ⟨_, rfl, h⟩ | exact h.elim
theorem onRef_inv {x : PV} {k : Addr → Prop} (h : onRef x k) : ∃ i, x = .ref i ∧ k i := by cases x <;> first | exact ⟨_, rfl, h⟩ | exact h.elim
theorem onNode_inv {x : PV} {k : Addr → List PV → Prop} (h : onNode x k) : ∃ c fs, x = .node c fs ∧ k c fs := by cases x <;> first | exact ⟨_, _, rfl, h⟩ | exact h.elim
structure DP where
  p : Prop
  i : Decidable p
noncomputable def DP.dec (c : DP) : Bool := @decide c.p c.i
noncomputable def DP.not (c : DP) : DP := ⟨¬ c.p, @instDecidableNot c.p c.i⟩
noncomputable def dT : DP := ⟨True, inferInstance⟩
noncomputable def dF : DP := ⟨False, inferInstance⟩
noncomputable def dB (b : Bool) : DP := ⟨b = true, inferInstance⟩
@[irreducible] noncomputable def tst (c : DP) (A B : Prop) : Prop := (c.p → A) ∧ (¬ c.p → B)
theorem tst_pos {p : Prop} {i : Decidable p} {A B : Prop} (h : p) (a : A) : tst ⟨p, i⟩ A B := by unfold tst; exact ⟨fun xx => a, fun n => (n h).elim⟩
theorem tst_neg {p : Prop} {i : Decidable p} {A B : Prop} (h : ¬ p) (b : B) : tst ⟨p, i⟩ A B := by unfold tst; exact ⟨fun x => (h x).elim, fun xx => b⟩
theorem tst_both {p : Prop} {i : Decidable p} {A B : Prop} (a : p → A) (b : ¬ p → B) : tst ⟨p, i⟩ A B := by unfold tst; exact ⟨a, b⟩
theorem tst_t {A B : Prop} (a : A) : tst (dB true) A B := tst_pos rfl a
theorem tst_f {A B : Prop} (b : B) : tst (dB false) A B := tst_neg Bool.false_ne_true b
theorem tst_true {c : DP} {A B : Prop} (h : tst c A B) (x : c.p) : A := by unfold tst at h; exact h.1 x
theorem tst_false {c : DP} {A B : Prop} (h : tst c A B) (x : ¬ c.p) : B := by unfold tst at h; exact h.2 x
noncomputable def isN : PV → Bool
  | .none => true
  | _ => false
noncomputable def tdK (x : PV) (k : DP → Prop) : Prop := match x with
  | .none => k dF
  | .bool b => k (dB b)
  | .int i => k ⟨i ≠ 0, inferInstance⟩
  | .str s => k ⟨s.isEmpty = false, inferInstance⟩
  | _ => False
noncomputable def pvStr : PV → Option (List Nat)
  | .str s => some s
  | _ => none
noncomputable def allStr : List PV → Option (List (List Nat))
  | [] => some []
  | p :: r => (pvStr p).bind fun s => (allStr r).map (s :: ·)
mutual
noncomputable def toPD : PV → Option PyData
  | .none => some .none
  | .bool b => some (.bool b)
  | .int i => some (.int i)
  | .str s => some (.str (sOf s))
  | .tup vs => (toPDs vs).map .tuple
  | .lst vs => (toPDs vs).map .list
  | _ => none
noncomputable def toPDs : List PV → Option (List PyData)
  | [] => some []
  | a :: as => (toPD a).bind fun x => (toPDs as).bind fun y => some (x :: y)
end
noncomputable def eqPD (a b : PV) : Option Bool := (toPD a).bind fun x => (toPD b).bind fun y => if x.depth ≤ 60 ∧ y.depth ≤ 60 then some (PyData.eqv x y) else none
noncomputable def small (i : Int) : Bool := decide (i.natAbs < 4611686018427387904)
noncomputable def assocP (k : List Nat) : List (List Nat) → List PV → Option PV
  | [], _ => none
  | a :: ks, vs => vs.casesOn none fun v vs => if a = k then some v else assocP k ks vs
noncomputable def assocT (k : List Int) : List (List Int) → List PV → Option PV
  | [], _ => none
  | a :: ks, vs => vs.casesOn none fun v vs => if a = k then some v else assocT k ks vs
noncomputable def startsAt (s p : List Nat) (i : Nat) : Bool := (s.drop i).take p.length == p && decide (i + p.length ≤ s.length)
noncomputable def rfindL (c : Nat) (s : List Nat) (a b : Nat) : Option Nat := Builtin.Str.lastOccurrence (sOf s) (sOf [c]) a (min b s.length)
noncomputable def countL (c : Nat) (s : List Nat) (a b : Nat) : Nat := (Builtin.Str.occurrences (sOf s) (sOf [c]) a (min b s.length) (s.length + 1)).length
noncomputable def replL (p : List Nat) (q : Nat) (s : List Nat) : List Nat :=
  if (Builtin.Str.occurrences (sOf s) (sOf p) 0 s.length (s.length + 1)).isEmpty then s
  else (Builtin.Str.glued (sOf [q]) (Builtin.Str.partsBetween (sOf s) (Builtin.Str.occurrences (sOf s) (sOf p) 0 s.length (s.length + 1)) p.length)).cps.toList
noncomputable def hexV (c : Nat) : Option Nat := if 48 ≤ c ∧ c ≤ 57 then some (c - 48) else if 97 ≤ c ∧ c ≤ 102 then some (c - 87) else if 65 ≤ c ∧ c ≤ 70 then some (c - 55) else none
noncomputable def hexNum (s : List Nat) : Nat := s.foldl (fun a c => a * 16 + (hexV c).getD 0) 0
noncomputable def isHex (c : Nat) : Bool := (hexV c).isSome
noncomputable def onStrs (vs : List PV) (k : List (List Nat) → Prop) : Prop := match allStr vs with
  | some l => k l
  | none => False
theorem onStrs_inv {vs : List PV} {k : List (List Nat) → Prop} (h : onStrs vs k) : ∃ l, allStr vs = some l ∧ k l := by
  unfold onStrs at h
  cases q : allStr vs with
  | none => rw [q] at h; exact h.elim
  | some l => rw [q] at h; exact ⟨l, rfl, h⟩
noncomputable def on1 (vs : List PV) (k : PV → Prop) : Prop := match vs with
  | [] => False
  | x :: r => (match r with | [] => k x | _ :: _ => False)
theorem on1_inv {vs : List PV} {k : PV → Prop} (h : on1 vs k) : ∃ x, vs = [x] ∧ k x := by
  cases vs with
  | nil => exact h.elim
  | cons x r => cases r with
    | nil => exact ⟨x, rfl, h⟩
    | cons _ _ => exact h.elim
noncomputable def on2 (vs : List PV) (k : PV → PV → Prop) : Prop := match vs with
  | [] => False
  | x :: r => on1 r (k x)
theorem on2_inv {vs : List PV} {k : PV → PV → Prop} (h : on2 vs k) : ∃ x y, vs = [x, y] ∧ k x y := by
  cases vs with
  | nil => exact h.elim
  | cons x r => obtain ⟨y, rfl, h⟩ := on1_inv h; exact ⟨x, y, rfl, h⟩
noncomputable def on3 (vs : List PV) (k : PV → PV → PV → Prop) : Prop := match vs with
  | [] => False
  | x :: r => on2 r (k x)
theorem on3_inv {vs : List PV} {k : PV → PV → PV → Prop} (h : on3 vs k) : ∃ x y u, vs = [x, y, u] ∧ k x y u := by
  cases vs with
  | nil => exact h.elim
  | cons x r => obtain ⟨y, u, rfl, h⟩ := on2_inv h; exact ⟨x, y, u, rfl, h⟩
noncomputable def onChr (s : List Nat) (k : Nat → Prop) : Prop := match s with
  | [] => False
  | c :: r => (match r with | [] => k c | _ :: _ => False)
theorem onChr_inv {s : List Nat} {k : Nat → Prop} (h : onChr s k) : ∃ c, s = [c] ∧ k c := by
  cases s with
  | nil => exact h.elim
  | cons x r => cases r with
    | nil => exact ⟨x, rfl, h⟩
    | cons _ _ => exact h.elim
noncomputable def addK (x y : PV) (Q : PV → Prop) : Prop := match x with
  | .int a => onInt y fun b => Q (.int (a + b))
  | .str a => onStr y fun b => a.length + b.length ≤ 16777216 ∧ Q (.str (a ++ b))
  | _ => False
noncomputable def modI (a b : Int) : Int := match a with
  | .ofNat m => (match b with | .ofNat n => .ofNat (m % n) | .negSucc _ => a.fmod b)
  | .negSucc _ => a.fmod b
noncomputable def divI (a b : Int) : Int := match a with
  | .ofNat m => (match b with | .ofNat n => .ofNat (m / n) | .negSucc _ => a.fdiv b)
  | .negSucc _ => a.fdiv b
theorem modI_is (a b : Int) : modI a b = a.fmod b := by
  cases a with
  | ofNat m => cases b with
    | ofNat n => exact Int.ofNat_fmod m n
    | negSucc _ => rfl
  | negSucc _ => rfl
theorem divI_is (a b : Int) : divI a b = a.fdiv b := by
  cases a with
  | ofNat m => cases b with
    | ofNat n => exact Int.ofNat_fdiv m n
    | negSucc _ => rfl
  | negSucc _ => rfl
noncomputable def binK (op : Operator) (x y : PV) (Q : PV → Prop) : Prop := match op with
  | .Add => addK x y Q
  | .Sub => onInt x fun a => onInt y fun b => Q (.int (a - b))
  | .Mult => onInt x fun a => onInt y fun b => (small a || small b) = true ∧ Q (.int (a * b))
  | .FloorDiv => onInt x fun a => onInt y fun b => (b.natAbs < 1073741824 ∧ b ≠ 0) ∧ Q (.int (divI a b))
  | .Mod => onInt x fun a => onInt y fun b => b ≠ 0 ∧ Q (.int (modI a b))
  | _ => False
noncomputable def eqK (x y : PV) (k : DP → Prop) : Prop := match x with
  | .str a => (match y with | .str b => k ⟨a = b, inferInstance⟩ | .none => k dF | _ => False)
  | .int a => (match y with | .int b => k ⟨a = b, inferInstance⟩ | .none => k dF | _ => False)
  | .bool a => (match y with | .bool b => k ⟨a = b, inferInstance⟩ | _ => False)
  | .none => (match y with | .none => k dT | .str _ => k dF | .int _ => k dF | _ => False)
  | .tup _ => ∃ b, eqPD x y = some b ∧ k (dB b)
  | .lst _ => ∃ b, eqPD x y = some b ∧ k (dB b)
  | _ => False
noncomputable def neK (x y : PV) (k : DP → Prop) : Prop := match x with
  | .str a => onStr y fun b => k ⟨a ≠ b, inferInstance⟩
  | .int a => onInt y fun b => k ⟨a ≠ b, inferInstance⟩
  | _ => False
noncomputable def leK (x y : PV) (k : DP → Prop) : Prop := match x with
  | .int a => onInt y fun b => k ⟨a ≤ b, inferInstance⟩
  | .str a => (match a with | [a] => onStr y fun b => (match b with | [b] => k ⟨a ≤ b, inferInstance⟩ | _ => False) | _ => False)
  | _ => False
noncomputable def gtK (x y : PV) (k : DP → Prop) : Prop := match x with
  | .int a => onInt y fun b => k ⟨b < a, inferInstance⟩
  | .str a => (match a with | [a] => onStr y fun b => (match b with | [b] => k ⟨b < a, inferInstance⟩ | _ => False) | _ => False)
  | _ => False
noncomputable def inSK (a : List Nat) (y : PV) (k : DP → Prop) : Prop := match y with
  | .tup vs => onStrs vs fun l => k ⟨a ∈ l, inferInstance⟩
  | .lst vs => onStrs vs fun l => k ⟨a ∈ l, inferInstance⟩
  | .dct ks _ => k ⟨a ∈ ks, inferInstance⟩
  | .str b => (match a with | [c] => k ⟨c ∈ b, inferInstance⟩ | _ => False)
  | _ => False
@[irreducible] noncomputable def inLK (x y : PV) (k : DP → Prop) : Prop := match y with
  | .lst vs => ∃ d xs, toPD x = some d ∧ toPDs vs = some xs ∧ d.depth ≤ 60 ∧ k (dB (xs.any fun y => PyData.eqv y d))
  | _ => False
noncomputable def inK (x y : PV) (k : DP → Prop) : Prop := match x with
  | .str a => inSK a y k
  | .lst _ => inLK x y k
  | _ => False
noncomputable def cmpK (op : CmpOp) (x y : PV) (k : DP → Prop) : Prop := match op with
  | .Eq => eqK x y k
  | .NotEq => neK x y k
  | .Lt => onInt x fun a => onInt y fun b => k ⟨a < b, inferInstance⟩
  | .LtE => leK x y k
  | .Gt => gtK x y k
  | .GtE => onInt x fun a => onInt y fun b => k ⟨b ≤ a, inferInstance⟩
  | .Is => (match y with | .none => k (dB (isN x)) | _ => False)
  | .IsNot => (match y with | .none => k ⟨isN x = false, inferInstance⟩ | _ => False)
  | .In => inK x y k
  | .NotIn => (match y with
    | .tup _ => onStr x fun a => inSK a y fun c => k c.not
    | .str _ => onStr x fun a => inSK a y fun c => k c.not
    | _ => False)
noncomputable def idxK (x y : PV) (Q : PV → Prop) : Prop := match x with
  | .str s => onNat y fun i => ∃ c, s[i]? = some c ∧ Q (.str [c])
  | .tup vs => onNat y fun i => ∃ p, vs[i]? = some p ∧ Q p
  | .lst vs => onNat y fun i => ∃ p, vs[i]? = some p ∧ Q p
  | .dct ks vs => onStr y fun k => ∃ p, assocP k ks vs = some p ∧ Q p
  | _ => False
noncomputable def loK (n : Nat) (x : PV) (k : Nat → Prop) : Prop := match x with
  | .none => k 0
  | .int i => (match i with | .ofNat a => k a | .negSucc m => k (n - (m + 1)))
  | _ => False
noncomputable def hiK (n : Nat) (x : PV) (k : Nat → Prop) : Prop := match x with
  | .none => k n
  | .int i => (match i with | .ofNat n => k n | .negSucc m => k (n - (m + 1)))
  | _ => False
noncomputable def slcK (x lo hi : PV) (Q : PV → Prop) : Prop := match x with
  | .str s => loK s.length lo fun a => hiK s.length hi fun b => Q (.str ((s.drop a).take (b - a)))
  | .lst s => loK s.length lo fun a => hiK s.length hi fun b => Q (.lst ((s.drop a).take (b - a)))
  | _ => False
inductive Bi where
  | len | ord | chr | int
noncomputable def Bi.name : Bi → Str
  | .len => "len" | .ord => "ord" | .chr => "chr" | .int => "int"
noncomputable def Bi.val : Bi → Value
  | .len => .builtin "len" | .ord => .builtin "ord" | .chr => .builtin "chr" | .int => .type "int"
noncomputable def biK (f : Bi) (vs : List PV) (Q : PV → Prop) : Prop := match f with
  | .len => (match vs with
    | [x] => (match x with | .str s => Q (.int s.length) | .lst s => Q (.int s.length) | _ => False)
    | _ => False)
  | .ord => (match vs with
    | [x] => onStr x fun s => (match s with | [c] => Q (.int c) | _ => False)
    | _ => False)
  | .chr => (match vs with
    | [x] => onNat x fun i => i < 1114112 ∧ Q (.str [i])
    | _ => False)
  | .int => (match vs with
    | [x] => onStr x fun s => s.length ≤ 640 ∧ ∃ i, PySem.intText? (sOf s) = some i ∧ Q (.int i)
    | [x, y] => onStr x fun s => onInt y fun b => (s.length ≤ 640 ∧ s ≠ [] ∧ b = 16 ∧ s.all isHex = true) ∧ Q (.int (hexNum s))
    | _ => False)
inductive Mt where
  | startswith | rfind | count | join | get
noncomputable def Mt.name : Mt → Str
  | .startswith => "startswith" | .rfind => "rfind" | .count => "count" | .join => "join" | .get => "get"
noncomputable def methK (f : Mt) (x : PV) (vs : List PV) (Q : PV → Prop) : Prop := match f with
  | .startswith => onStr x fun s => on2 vs fun p i => onNat i fun i => (match p with
      | .str p => Q (.bool (startsAt s p i))
      | .tup ps => onStrs ps fun l => Q (.bool (l.any fun p => startsAt s p i))
      | _ => False)
  | .rfind => onStr x fun s => on3 vs fun p a b => onStr p fun p => onChr p fun c => onNat a fun a => onNat b fun b => Q (.int (match rfindL c s a b with | some i => (i : Int) | none => -1))
  | .count => onStr x fun s => on3 vs fun p a b => onStr p fun p => onChr p fun c => onNat a fun a => onNat b fun b => Q (.int (countL c s a b))
  | .join => onStr x fun s => (match s with
    | [] => on1 vs fun p => onLst p fun ps => ∃ l, allStr ps = some l ∧ l.flatten.length ≤ 16777216 ∧ Q (.str l.flatten)
    | _ :: _ => False)
  | .get => (match x with
    | .dct ks ps => on2 vs fun k dv => onStr k fun k => Q ((assocP k ks ps).getD dv)
    | .tdc ks ps => on2 vs fun k dv => ∃ l : List Int, k = .tup (l.map .int) ∧ Q ((assocT l ks ps).getD dv)
    | _ => False)
noncomputable def pItems : PV → Option (List PV)
  | .str s => some (s.map fun c => .str [c])
  | .lst vs => some vs
  | _ => none
set_option genCtorIdx false in
inductive ME where
  | const (v : PV)
  | var (i : Nat)
  | glob (nm : Str) (v : PV)
  | bin (op : Operator) (a b : ME)
  | neg (a : ME)
  | nt (a : ME)
  | bop (op : BoolOp) (es : List ME)
  | cmp (op : CmpOp) (a b : ME)
  | cmp2 (o1 o2 : CmpOp) (a b c : ME)
  | ife (t a b : ME)
  | tup (es : List ME)
  | lst (es : List ME)
  | mlst (es : List ME)
  | dct (ks : List (List Nat)) (vs : List ME)
  | idx (a b : ME)
  | slc (a : ME) (lo hi : Option ME)
  | attr (a : ME) (nm : Str)
  | call (nm : Str) (es : List ME)
  | scall (cls nm : Str) (es : List ME)
  | bi (nm : Bi) (es : List ME)
  | meth (nm : Mt) (a : ME) (es : List ME)
  | repl (a : ME) (p : List Nat) (q : Nat)
  | app (a b : ME)
  | frz (a : ME)
  | cel (nm : Str)
  | edct (t : Bool)
  | lenO (a : ME)
  | popf (a : ME)
  | frzS (a : ME)
  | comp (x : Str) (elt iter : ME)
  | fstr (es : List (Option (List Nat) × Option ME))
  | bad
set_option genCtorIdx false in
inductive MS where
  | asg (i : Nat) (e : ME)
  | asg2 (i j : Nat) (e : ME)
  | unp (is : List Nat) (e : ME)
  | aug (i : Nat) (op : Operator) (e : ME)
  | setattr (a : ME) (nm : Str) (v : ME)
  | expr (e : ME)
  | ite (t : ME) (a b : List MS)
  | wh (t : ME) (b oe : List MS)
  | for1 (i : Nat) (iter : ME) (b : List MS)
  | efor (i j : Nat) (iter : ME) (b : List MS)
  | seti (a k v : ME)
  | ret (e : ME)
  | brk
  | cont
  | pass
  | try1 (b : List MS)
  | asrt (t : ME)
  | bad
inductive MF where
  | next | brk | cont
  | ret (v : PV)
abbrev Loc := List (Option PV)
noncomputable def getL : Loc → Nat → Option PV
  | o :: _, 0 => o
  | _ :: r, n + 1 => getL r n
  | [], _ => none
noncomputable def setL : Loc → Nat → PV → Loc
  | _ :: r, 0, v => some v :: r
  | o :: r, n + 1, v => o :: setL r n v
  | [], _, _ => []
noncomputable def setMany : List Nat → List PV → Loc → Loc
  | i :: is, v :: vs, ρ => setMany is vs (setL ρ i v)
  | _, _, ρ => ρ
noncomputable def mapW (f : PV → (PV → AH → Prop) → AH → Prop) : List PV → (List PV → AH → Prop) → AH → Prop
  | [], Q, H => Q [] H
  | x :: xs, Q, H => f x (fun r H' => mapW f xs (fun rs H'' => Q (r :: rs) H'') H') H
noncomputable def mapI (f : Nat → PV → (PV → AH → Prop) → AH → Prop) : Nat → List PV → (List PV → AH → Prop) → AH → Prop
  | _, [], Q, H => Q [] H
  | i, x :: xs, Q, H => f i x (fun r H' => mapI f (i + 1) xs (fun rs H'' => Q (r :: rs) H'') H') H
end Mine
end
section
set_option backward.match.sparseCases false
namespace Mine
open PySem PySem.W PySem.Calls PyProof.Rows
noncomputable def cPV : PV → Const → Bool
  | .none, .none => true
  | .bool a, .bool b => a == b
  | .int a, .int b => a == b
  | .str s, .str x => s == x.cps.toList && s.all (· < 0x110000) && decide (s.length ≤ 1000)
  | _, _ => false
set_option genCtorIdx false in
inductive AttR where
  | slot (i : Nat)
  | val (p : PV)
structure Tab where
  att : Addr → Str → Option AttR
  sat : Addr → Str → Option Nat
  stat : Str → Str → Option Value
  /-- the cells of the frame: constants -/
  cel : Str → Option PV
def NoExc : Value → Shared → Prop := fun xx xx => False
def BaseIn (B : Base) (s : Shared) : Prop := ∀ a o, B.heap.get? a = some o → s.heap.get? a = some o
def Post (B : Base) (P : PH) (z : PH) (Q : PV → AH → Prop) : Value → Shared → Prop :=
  fun v s' => ∃ z' p H', zle z z' ∧ StC B z' P H' s' ∧ Rep B z' p v ∧ Q p H'
def CallSem (B : Base) (d : Nat) (fv : Value) (vs : List PV) (H : AH) (Q : PV → AH → Prop) : Prop :=
  ∀ z P s A vals, Room d A → StC B z P H s → RepL B z vs vals → wpAny (model B.prog B.w) A (call fv vals) (Post B P z Q) NoExc s
def KeepOk (B : Base) (fv : Value) : Prop :=
  ∀ (A : Around) (s : Shared) (E : Value → Shared → Prop) (Q : Keeper → Shared → Prop), BaseIn B s → (∀ k, (k = .frame ∨ k = .machine) → Q k s) → wpAny (model B.prog B.w) A (keeperOf fv) Q E s
@[irreducible] noncomputable def calB (B : Base) (d : Nat) (nm : Str) (vs : List PV) (Q : PV → AH → Prop) (H : AH) : Prop := ∃ fv, B.mg nm = some fv ∧ KeepOk B fv ∧ CallSem B d fv vs H Q
noncomputable def slotSet (fs : List (Option PV)) (i : Nat) (v : PV) : List (Option PV) := (fs ++ List.replicate (i + 1 - fs.length) none).set i (some v)
noncomputable def asC (m : ME) : Option { v : PV // m = .const v } := match m with
  | .const v => some ⟨v, rfl⟩
  | _ => none
noncomputable def constPVs : List ME → Option (List PV)
  | [] => some []
  | m :: es => (asC m).bind fun q => (constPVs es).map (q.1 :: ·)
section
variable (B : Base) (T : Tab) (d : Nat)
abbrev KE := PV → AH → Prop
abbrev KT := DP → AH → Prop
abbrev KL := List PV → AH → Prop
abbrev KS := MF → Loc → AH → Prop
abbrev VE := KE → Loc → AH → Prop
abbrev VT := KT → Loc → AH → Prop
abbrev VL := KL → Loc → AH → Prop
abbrev VS := KS → Loc → AH → Prop
noncomputable def kv (Q : KE) (H : AH) : PV → Prop := fun r => Q r H
noncomputable def kvb (Q : KE) (H : AH) : DP → Prop := fun c => Q (.bool c.dec) H
noncomputable def kvt (Q : KT) (H : AH) : DP → Prop := fun c => Q c H
noncomputable def kbin2 (op : Operator) (x : PV) (Q : KE) : KE := fun y H => binK op x y (kv Q H)
noncomputable def kbin (op : Operator) (vb : VE) (Q : KE) (ρ : Loc) : KE := fun x H => vb (kbin2 op x Q) ρ H
noncomputable def kneg (Q : KE) : KE := fun x H => onInt x fun i => Q (.int (-i)) H
noncomputable def knot (Q : KE) : KE := fun x H => tdK x fun c => Q (.bool c.not.dec) H
noncomputable def kcmp2 (op : CmpOp) (x : PV) (Q : KE) : KE := fun y H => cmpK op x y (kvb Q H)
noncomputable def kcmp (op : CmpOp) (vb : VE) (Q : KE) (ρ : Loc) : KE := fun x H => vb (kcmp2 op x Q) ρ H
noncomputable def kite (va vb : VE) (Q : KE) (ρ : Loc) : KT := fun c H => tst c (va Q ρ H) (vb Q ρ H)
noncomputable def ktup (Q : KE) : KL := fun vs H => Q (.tup vs) H
noncomputable def klst (Q : KE) : KL := fun vs H => Q (.lst vs) H
noncomputable def kml (Q : KE) : KL := fun vs H => ∀ a, H a = none → Q (.ref a) (H.upd a (.list vs))
noncomputable def kidx2 (x : PV) (Q : KE) : KE := fun y H => idxK x y (kv Q H)
noncomputable def kidx (vb : VE) (Q : KE) (ρ : Loc) : KE := fun x H => vb (kidx2 x Q) ρ H
noncomputable def kslc3 (x l : PV) (Q : KE) : KE := fun u H => slcK x l u (kv Q H)
noncomputable def kslc2 (x : PV) (vu : VE) (Q : KE) (ρ : Loc) : KE := fun l H => vu (kslc3 x l Q) ρ H
noncomputable def kslc (vl vu : VE) (Q : KE) (ρ : Loc) : KE := fun x H => vl (kslc2 x vu Q ρ) ρ H
noncomputable def kattr (nm : Str) (Q : KE) : KE := fun x H => onNode x fun c fs => ∃ r, T.att c nm = some r ∧ match r with
  | .slot i => ∃ p, fs[i]? = some p ∧ Q p H
  | .val p => Q p H
noncomputable def kcal (nm : Str) (Q : KE) : KL := fun vs H => calB B d nm vs Q H
noncomputable def kscal (c nm : Str) (Q : KE) : KL := fun vs H => ∃ fv, T.stat c nm = some fv ∧ CallSem B d fv vs H Q
noncomputable def kbi (f : Bi) (Q : KE) : KL := fun vs H => biK f vs (kv Q H)
noncomputable def kme2 (f : Mt) (x : PV) (Q : KE) : KL := fun vs H => methK f x vs (kv Q H)
noncomputable def onRecv (f : Mt) (x : PV) (P : Prop) : Prop := match f with
  | .get => (match x with | .dct _ _ => P | .tdc _ _ => P | _ => False)
  | _ => onStr x fun xx => P
noncomputable def kme (f : Mt) (vs : VL) (Q : KE) (ρ : Loc) : KE := fun x H => onRecv f x (vs (kme2 f x Q) ρ H)
noncomputable def krepl (p : List Nat) (q : Nat) (Q : KE) : KE := fun x H => onStr x fun s => (p ≠ [] ∧ p ≠ [q] ∧ 2 * s.length + 1 ≤ 16777216 ∧ sok (replL p q s)) ∧ Q (.str (replL p q s)) H
@[irreducible] noncomputable def appB (l : Addr) (y : PV) (Q : KE) (H : AH) : Prop := ∃ vs, H l = some (.list vs) ∧ vs.length ≤ 1000000 ∧ Q .none (H.upd l (.list (vs ++ [y])))
noncomputable def kapp2 (l : Addr) (Q : KE) : KE := fun y H => appB l y Q H
noncomputable def kapp (vb : VE) (Q : KE) (ρ : Loc) : KE := fun x H => onRef x fun l => (∃ vs, H l = some (.list vs)) ∧ vb (kapp2 l Q) ρ H
noncomputable def frzP : AO → Option PV
  | .list vs => some (.lst vs)
  | .dict ks vs => some (.dct ks vs)
  | .tdict ks vs => some (.tdc ks vs)
  | _ => none
noncomputable def frzQ (o : AO) (k : PV → Prop) : Prop := match frzP o with
  | some v => k v
  | none => False
noncomputable def kfrz (Q : KE) : KE := fun x H => onRef x fun l => ∃ o, H l = some o ∧ frzQ o fun v => Q v (H.del l)
noncomputable def klen (Q : KE) : KE := fun x H => onRef x fun l => ∃ ks vs, H l = some (.dict ks vs) ∧ Q (.int ks.length) H
inductive Shut : AH → AH → Prop
  | refl (H : AH) : Shut H H
  | step {H H' : AH} {a b c : Addr} {its ini : List PV} {fs gs : List PV} : Shut H H' → H' a = some (.list its) → H' b = some (.list (ini ++ [.node c (fs ++ .ref a :: gs)])) → a ≠ b →
      Shut H ((H'.del a).upd b (.list (ini ++ [.node c (fs ++ .lst its :: gs)])))
noncomputable def kpop (Q : KE) : KE := fun x H => onRef x fun l => ∃ vs v H', H l = some (.list (vs ++ [v])) ∧ Shut (H.upd l (.list vs)) H' ∧ Q v H'
noncomputable def kfrzS (Q : KE) : KE := fun x H => onRef x fun l => ∃ H' vs, Shut H H' ∧ H' l = some (.list vs) ∧ Q (.lst vs) (H'.del l)
noncomputable def kcomp (ve : VE) (Q : KE) : KE := fun x H => ∃ xs, pItems x = some xs ∧ xs.length ≤ 1000000 ∧ mapW (fun y Q H => ve Q [some y] H) xs (klst Q) H
noncomputable def kes2 (x : PV) (Q : KL) : KL := fun xs H => Q (x :: xs) H
noncomputable def kes (vs : VL) (Q : KL) (ρ : Loc) : KE := fun x H => vs (kes2 x Q) ρ H
noncomputable def kand (vs : VE) (Q : KE) (ρ : Loc) : KE := fun x H => tdK x fun c => tst c (vs Q ρ H) (Q x H)
noncomputable def kor (vs : VE) (Q : KE) (ρ : Loc) : KE := fun x H => tdK x fun c => tst c (Q x H) (vs Q ρ H)
noncomputable def ktn (Q : KT) : KT := fun c H => Q c.not H
noncomputable def ktcmp2 (op : CmpOp) (x : PV) (Q : KT) : KE := fun y H => cmpK op x y (kvt Q H)
noncomputable def ktcmp (op : CmpOp) (vb : VE) (Q : KT) (ρ : Loc) : KE := fun x H => vb (ktcmp2 op x Q) ρ H
noncomputable def ktch2 (o1 o2 : CmpOp) (x : PV) (vc : VE) (Q : KT) (ρ : Loc) : KE := fun y H => cmpK o1 x y fun c => tst c (vc (ktcmp2 o2 y Q) ρ H) (Q dF H)
noncomputable def ktch (o1 o2 : CmpOp) (vb vc : VE) (Q : KT) (ρ : Loc) : KE := fun x H => vb (ktch2 o1 o2 x vc Q ρ) ρ H
noncomputable def ktv (Q : KT) : KE := fun x H => tdK x (kvt Q H)
noncomputable def ktand (vs : VT) (Q : KT) (ρ : Loc) : KT := fun c H => tst c (vs Q ρ H) (Q dF H)
noncomputable def ktor (vs : VT) (Q : KT) (ρ : Loc) : KT := fun c H => tst c (Q dT H) (vs Q ρ H)
noncomputable def kf (out : List Nat) (vr : List Nat → VE) (Q : KE) (ρ : Loc) : KE := fun x H => onStr x fun s => out.length + s.length ≤ 16777216 ∧ vr (out ++ s) Q ρ H
mutual
noncomputable def vcE : ME → KE → Loc → AH → Prop
  | .const v => fun Q xx H => Q v H
  | .var i => fun Q ρ H => match getL ρ i with
    | some v => Q v H
    | none => False
  | .glob nm v => fun Q xx H => (∃ x, B.mg nm = some x ∧ Rep B B.heap.get? v x) ∧ Q v H
  | .bin op a b => fun Q ρ H => vcE a (kbin op (vcE b) Q ρ) ρ H
  | .neg a => fun Q ρ H => vcE a (kneg Q) ρ H
  | .nt a => fun Q ρ H => vcE a (knot Q) ρ H
  | .bop op es => fun Q ρ H => vcB op es Q ρ H
  | .cmp op a b => fun Q ρ H => vcE a (kcmp op (vcE b) Q ρ) ρ H
  | .cmp2 .. => fun xx xx xx => False
  | .ife t a b => fun Q ρ H => vcT t (kite (vcE a) (vcE b) Q ρ) ρ H
  | .tup es => fun Q ρ H => vcEs es (ktup Q) ρ H
  | .lst es => fun Q ρ H => vcEs es (klst Q) ρ H
  | .mlst es => fun Q ρ H => vcEs es (kml Q) ρ H
  | .dct ks es => fun Q xx H => ∃ vs, constPVs es = some vs ∧ (17 < ks.length ∧ ks.length ≤ 32) ∧ (ks.map sOf).Nodup ∧ (∀ k ∈ ks, cPV (.str k) (.str (sOf k)) = true) ∧ Q (.dct ks vs) H
  | .idx a b => fun Q ρ H => vcE a (kidx (vcE b) Q ρ) ρ H
  | .slc a lo hi => fun Q ρ H => vcE a (kslc (vcO lo) (vcO hi) Q ρ) ρ H
  | .attr a nm => fun Q ρ H => vcE a (kattr T nm Q) ρ H
  | .call nm es => fun Q ρ H => (∃ fv, B.mg nm = some fv ∧ KeepOk B fv) ∧ vcEs es (kcal B d nm Q) ρ H
  | .scall c nm es => fun Q ρ H => (∃ fv, T.stat c nm = some fv ∧ KeepOk B fv) ∧ vcEs es (kscal B T d c nm Q) ρ H
  | .bi f es => fun Q ρ H => vcEs es (kbi f Q) ρ H
  | .meth f a es => fun Q ρ H => vcE a (kme f (vcEs es) Q ρ) ρ H
  | .repl a p q => fun Q ρ H => vcE a (krepl p q Q) ρ H
  | .app a b => fun Q ρ H => vcE a (kapp (vcE b) Q ρ) ρ H
  | .frz a => fun Q ρ H => vcE a (kfrz Q) ρ H
  | .cel nm => fun Q xx H => ∃ p, T.cel nm = some p ∧ Q p H
  | .edct t => fun Q xx H => ∀ a, H a = none → Q (.ref a) (H.upd a (if t = true then .tdict [] [] else .dict [] []))
  | .lenO a => fun Q ρ H => vcE a (klen Q) ρ H
  | .popf a => fun Q ρ H => vcE a (kpop Q) ρ H
  | .frzS a => fun Q ρ H => vcE a (kfrzS Q) ρ H
  | .comp _ elt iter => fun Q ρ H => vcE iter (kcomp (vcE elt) Q) ρ H
  | .fstr es => fun Q ρ H => vcF es [] Q ρ H
  | .bad => fun xx xx xx => False
noncomputable def vcEs : List ME → KL → Loc → AH → Prop
  | [] => fun Q xx H => Q [] H
  | e :: es => fun Q ρ H => vcE e (kes (vcEs es) Q ρ) ρ H
noncomputable def vcO : Option ME → KE → Loc → AH → Prop
  | none => fun Q xx H => Q .none H
  | some e => fun Q ρ H => vcE e Q ρ H
noncomputable def vcB : BoolOp → List ME → KE → Loc → AH → Prop
  | _, [] => fun xx xx xx => False
  | op, e :: es => fun Q ρ H => vcE e (match es with
    | [] => Q
    | _ :: _ => match op with
      | .And => kand (vcB op es) Q ρ
      | .Or => kor (vcB op es) Q ρ) ρ H
noncomputable def vcT : ME → KT → Loc → AH → Prop
  | .nt a => fun Q ρ H => vcT a (ktn Q) ρ H
  | .bop op es => fun Q ρ H => vcTB op es Q ρ H
  | .cmp op a b => fun Q ρ H => vcE a (ktcmp op (vcE b) Q ρ) ρ H
  | .cmp2 o1 o2 a b c => fun Q ρ H => vcE a (ktch o1 o2 (vcE b) (vcE c) Q ρ) ρ H
  | .const v => fun Q xx H => tdK v (kvt Q H)
  | .var i => fun Q ρ H => match getL ρ i with
    | some v => tdK v (kvt Q H)
    | none => False
  | .bin op a b => fun Q ρ H => vcE a (kbin op (vcE b) (ktv Q) ρ) ρ H
  | .call nm es => fun Q ρ H => (∃ fv, B.mg nm = some fv ∧ KeepOk B fv) ∧ vcEs es (kcal B d nm (ktv Q)) ρ H
  | .meth f a es => fun Q ρ H => vcE a (kme f (vcEs es) (ktv Q) ρ) ρ H
  | _ => fun xx xx xx => False
noncomputable def vcTB : BoolOp → List ME → KT → Loc → AH → Prop
  | op, [] => fun Q xx H => Q (match op with | .And => dT | .Or => dF) H
  | op, e :: es => fun Q ρ H => vcT e (match op with | .And => ktand (vcTB op es) Q ρ | .Or => ktor (vcTB op es) Q ρ) ρ H
noncomputable def vcF : List (Option (List Nat) × Option ME) → List Nat → KE → Loc → AH → Prop
  | [], out => fun Q xx H => Q (.str out) H
  | (some s, _) :: r, out => fun Q ρ H => out.length + s.length ≤ 16777216 ∧ vcF r (out ++ s) Q ρ H
  | (none, some e) :: r, out => fun Q ρ H => vcE e (kf out (fun o => vcF r o) Q ρ) ρ H
  | (none, none) :: _, _ => fun xx xx xx => False
end
noncomputable def kseq (vr : VS) (Q : KS) : KS := fun f ρ H => match f with
  | .next => vr Q ρ H
  | .brk => Q .brk ρ H
  | .cont => Q .cont ρ H
  | .ret v => Q (.ret v) ρ H
noncomputable def kasg (i : Nat) (Q : KS) (ρ : Loc) : KE := fun v H => Q .next (setL ρ i v) H
noncomputable def kasg2 (i j : Nat) (Q : KS) (ρ : Loc) : KE := fun v H => Q .next (setL (setL ρ i v) j v) H
noncomputable def kunp (is : List Nat) (Q : KS) (ρ : Loc) : KE := fun v H => onTup v fun vs => vs.length = is.length ∧ Q .next (setMany is vs ρ) H
noncomputable def kaug (i : Nat) (op : Operator) (o : PV) (Q : KS) (ρ : Loc) : KE := fun v H => match op with
  | .Add => addK o v fun r => Q .next (setL ρ i r) H
  | _ => False
@[irreducible] noncomputable def satB (T : Tab) (nm : Str) (l : Addr) (v : PV) (Q : AH → Prop) (H : AH) : Prop := ∃ c fs i, H l = some (.inst c fs) ∧ T.sat c nm = some i ∧ i < 1000 ∧ Q (H.upd l (.inst c (slotSet fs i v)))
noncomputable def ksat2 (nm : Str) (v : PV) (Q : KS) (ρ : Loc) : KE := fun x H => onRef x fun l => satB T nm l v (Q .next ρ) H
noncomputable def ksat (va : VE) (nm : Str) (Q : KS) (ρ : Loc) : KE := fun v H => va (ksat2 T nm v Q ρ) ρ H
noncomputable def kexp (Q : KS) (ρ : Loc) : KE := fun v H => v = .none ∧ Q .next ρ H
noncomputable def kif (va vb : VS) (Q : KS) (ρ : Loc) : KT := fun c H => tst c (va Q ρ H) (vb Q ρ H)
noncomputable def kwhb (I : Nat → Loc → AH → Prop) (n : Nat) (Q : KS) : KS := fun f ρ H => match f with
  | .next => ∃ m, m < n ∧ I m ρ H
  | .cont => ∃ m, m < n ∧ I m ρ H
  | .brk => Q .next ρ H
  | .ret v => Q (.ret v) ρ H
noncomputable def kwh (vb ve : VS) (I : Nat → Loc → AH → Prop) (n : Nat) (Q : KS) (ρ : Loc) : KT := fun c H => tst c (vb (kwhb I n Q) ρ H) (ve Q ρ H)
@[irreducible] noncomputable def whB (vt : VT) (vb ve : VS) (Q : KS) (ρ : Loc) (H : AH) : Prop := ∃ (I : Nat → Loc → AH → Prop) (n : Nat), I n ρ H ∧ ∀ n ρ H, I n ρ H → vt (kwh vb ve I n Q ρ) ρ H
noncomputable def kforb (I : List PV → Loc → AH → Prop) (r : List PV) (Q : KS) : KS := fun f ρ H => match f with
  | .next => I r ρ H
  | .cont => I r ρ H
  | .brk => Q .next ρ H
  | .ret v => Q (.ret v) ρ H
@[irreducible] noncomputable def forB (i : Nat) (xs : List PV) (vb : VS) (Q : KS) (ρ : Loc) (H : AH) : Prop := ∃ I : List PV → Loc → AH → Prop, I xs ρ H ∧ (∀ x r ρ H, I (x :: r) ρ H → vb (kforb I r Q) (setL ρ i x) H) ∧ ∀ ρ H, I [] ρ H → Q .next ρ H
noncomputable def kfor (i : Nat) (vb : VS) (Q : KS) (ρ : Loc) : KE := fun x H => match pItems x with
  | some xs => forB i xs vb Q ρ H
  | none => False
noncomputable def kefb (I : Nat → List PV → Loc → AH → Prop) (n : Nat) (r : List PV) (Q : KS) : KS := fun f ρ H => match f with
  | .next => I (n + 1) r ρ H
  | .cont => I (n + 1) r ρ H
  | .brk => Q .next ρ H
  | .ret v => Q (.ret v) ρ H
@[irreducible] noncomputable def eforB (i j : Nat) (xs : List PV) (vb : VS) (Q : KS) (ρ : Loc) (H : AH) : Prop := ∃ I : Nat → List PV → Loc → AH → Prop, I 0 xs ρ H ∧ (∀ n x r ρ H, I n (x :: r) ρ H → vb (kefb I n r Q) (setL (setL ρ i (.int n)) j x) H) ∧ (∀ n ρ H, I n [] ρ H → Q .next ρ H)
noncomputable def kefor (i j : Nat) (vb : VS) (Q : KS) (ρ : Loc) : KE := fun x H => onLst x fun xs => xs.length ≤ 1000000 ∧ eforB i j xs vb Q ρ H
@[irreducible] noncomputable def setB (l : Addr) (k v : PV) (Q : AH → Prop) (H : AH) : Prop :=
  (∃ ks vs s, k = .str s ∧ H l = some (.dict ks vs) ∧ s ∉ ks ∧ sok s ∧ ks.length < 1000 ∧ Q (H.upd l (.dict (ks ++ [s]) (vs ++ [v])))) ∨
  (∃ ks vs s, k = .tup (s.map PV.int) ∧ H l = some (.tdict ks vs) ∧ s ∉ ks ∧ ks.length < 1000 ∧ Q (H.upd l (.tdict (ks ++ [s]) (vs ++ [v]))))
noncomputable def kset3 (l : Addr) (v : PV) (Q : KS) (ρ : Loc) : KE := fun k H => setB l k v (Q .next ρ) H
noncomputable def kset2 (v : PV) (vk : VE) (Q : KS) (ρ : Loc) : KE := fun x H => onRef x fun l => vk (kset3 l v Q ρ) ρ H
noncomputable def kset (va vk : VE) (Q : KS) (ρ : Loc) : KE := fun v H => va (kset2 v vk Q ρ) ρ H
noncomputable def kret (Q : KS) (ρ : Loc) : KE := fun v H => Q (.ret v) ρ H
noncomputable def kasr (Q : KS) (ρ : Loc) : KT := fun c H => c.p ∧ Q .next ρ H
mutual
noncomputable def vcS : MS → KS → Loc → AH → Prop
  | .asg i e => fun Q ρ H => vcE B T d e (kasg i Q ρ) ρ H
  | .asg2 i j e => fun Q ρ H => vcE B T d e (kasg2 i j Q ρ) ρ H
  | .unp is e => fun Q ρ H => vcE B T d e (kunp is Q ρ) ρ H
  | .aug i op e => fun Q ρ H => match getL ρ i with
    | some o => vcE B T d e (kaug i op o Q ρ) ρ H
    | none => False
  | .setattr a nm e => fun Q ρ H => vcE B T d e (ksat T (vcE B T d a) nm Q ρ) ρ H
  | .expr e => fun Q ρ H => vcE B T d e (kexp Q ρ) ρ H
  | .ite t a b => fun Q ρ H => vcT B T d t (kif (vcSs a) (vcSs b) Q ρ) ρ H
  | .wh t b oe => fun Q ρ H => whB (vcT B T d t) (vcSs b) (vcSs oe) Q ρ H
  | .for1 i iter b => fun Q ρ H => vcE B T d iter (kfor i (vcSs b) Q ρ) ρ H
  | .efor i j iter b => fun Q ρ H => vcE B T d iter (kefor i j (vcSs b) Q ρ) ρ H
  | .seti a k e => fun Q ρ H => vcE B T d e (kset (vcE B T d a) (vcE B T d k) Q ρ) ρ H
  | .ret e => fun Q ρ H => vcE B T d e (kret Q ρ) ρ H
  | .brk => fun Q ρ H => Q .brk ρ H
  | .cont => fun Q ρ H => Q .cont ρ H
  | .pass => fun Q ρ H => Q .next ρ H
  | .try1 b => fun Q ρ H => vcSs b Q ρ H
  | .asrt t => fun Q ρ H => vcT B T d t (kasr Q ρ) ρ H
  | .bad => fun xx xx xx => False
noncomputable def vcSs : List MS → KS → Loc → AH → Prop
  | [] => fun Q ρ H => Q .next ρ H
  | st :: r => fun Q ρ H => vcS st (kseq (vcSs r) Q) ρ H
end
end
end Mine
end
section
set_option backward.match.sparseCases false
namespace Mine
open PySem PySem.W PySem.Calls PyProof.Rows
theorem any_inv {α : Type} {o : Option α} {f : α → Bool} (h : o.any f = true) : ∃ x, f x = true := by
  cases o with
  | none => cases h
  | some x => exact ⟨x, h⟩
noncomputable def vConst (e : PySem.Expr) : Option {q : Const × Nat × Pos // e = PySem.Expr.Constant q.1 q.2.1 q.2.2} := match e with
  | .Constant a0 a1 a2 => some ⟨(a0, a1, a2), rfl⟩
  | _ => none
noncomputable def vName (e : PySem.Expr) : Option {q : Str × Pos // e = PySem.Expr.Name q.1 q.2} := match e with
  | .Name a0 a1 => some ⟨(a0, a1), rfl⟩
  | _ => none
noncomputable def vBin (e : PySem.Expr) : Option {q : Expr × Operator × Expr × Pos // e = PySem.Expr.BinOp q.1 q.2.1 q.2.2.1 q.2.2.2} := match e with
  | .BinOp a0 a1 a2 a3 => some ⟨(a0, a1, a2, a3), rfl⟩
  | _ => none
noncomputable def vUn (e : PySem.Expr) : Option {q : UnaryOp × Expr × Pos // e = PySem.Expr.UnaryOp q.1 q.2.1 q.2.2} := match e with
  | .UnaryOp a0 a1 a2 => some ⟨(a0, a1, a2), rfl⟩
  | _ => none
noncomputable def vBool (e : PySem.Expr) : Option {q : BoolOp × (List Expr) × Pos // e = PySem.Expr.BoolOp q.1 q.2.1 q.2.2} := match e with
  | .BoolOp a0 a1 a2 => some ⟨(a0, a1, a2), rfl⟩
  | _ => none
noncomputable def vCmp (e : PySem.Expr) : Option {q : Expr × (List CmpOp) × (List Expr) × Pos // e = PySem.Expr.Compare q.1 q.2.1 q.2.2.1 q.2.2.2} := match e with
  | .Compare a0 a1 a2 a3 => some ⟨(a0, a1, a2, a3), rfl⟩
  | _ => none
noncomputable def vIf (e : PySem.Expr) : Option {q : Expr × Expr × Expr × Pos // e = PySem.Expr.IfExp q.1 q.2.1 q.2.2.1 q.2.2.2} := match e with
  | .IfExp a0 a1 a2 a3 => some ⟨(a0, a1, a2, a3), rfl⟩
  | _ => none
noncomputable def vTup (e : PySem.Expr) : Option {q : (List Expr) × Nat × Pos // e = PySem.Expr.Tuple q.1 q.2.1 q.2.2} := match e with
  | .Tuple a0 a1 a2 => some ⟨(a0, a1, a2), rfl⟩
  | _ => none
noncomputable def vList (e : PySem.Expr) : Option {q : (List Expr) × Pos // e = PySem.Expr.List q.1 q.2} := match e with
  | .List a0 a1 => some ⟨(a0, a1), rfl⟩
  | _ => none
noncomputable def vDict (e : PySem.Expr) : Option {q : (List (Option Expr)) × (List Expr) × Pos // e = PySem.Expr.Dict q.1 q.2.1 q.2.2} := match e with
  | .Dict a0 a1 a2 => some ⟨(a0, a1, a2), rfl⟩
  | _ => none
noncomputable def vSub (e : PySem.Expr) : Option {q : Expr × Expr × Pos // e = PySem.Expr.Subscript q.1 q.2.1 q.2.2} := match e with
  | .Subscript a0 a1 a2 => some ⟨(a0, a1, a2), rfl⟩
  | _ => none
noncomputable def vSlc (e : PySem.Expr) : Option {q : (Option Expr) × (Option Expr) × (Option Expr) × Pos // e = PySem.Expr.Slice q.1 q.2.1 q.2.2.1 q.2.2.2} := match e with
  | .Slice a0 a1 a2 a3 => some ⟨(a0, a1, a2, a3), rfl⟩
  | _ => none
noncomputable def vAttr (e : PySem.Expr) : Option {q : Expr × Str × Pos // e = PySem.Expr.Attribute q.1 q.2.1 q.2.2} := match e with
  | .Attribute a0 a1 a2 => some ⟨(a0, a1, a2), rfl⟩
  | _ => none
noncomputable def vCall (e : PySem.Expr) : Option {q : Expr × (List Expr) × (List Keyword) × Pos // e = PySem.Expr.Call q.1 q.2.1 q.2.2.1 q.2.2.2} := match e with
  | .Call a0 a1 a2 a3 => some ⟨(a0, a1, a2, a3), rfl⟩
  | _ => none
noncomputable def vLC (e : PySem.Expr) : Option {q : Expr × (List Comprehension) × Scope × Pos // e = PySem.Expr.ListComp q.1 q.2.1 q.2.2.1 q.2.2.2} := match e with
  | .ListComp a0 a1 a2 a3 => some ⟨(a0, a1, a2, a3), rfl⟩
  | _ => none
noncomputable def vGE (e : PySem.Expr) : Option {q : Expr × (List Comprehension) × Scope × Pos // e = PySem.Expr.GeneratorExp q.1 q.2.1 q.2.2.1 q.2.2.2} := match e with
  | .GeneratorExp a0 a1 a2 a3 => some ⟨(a0, a1, a2, a3), rfl⟩
  | _ => none
noncomputable def vJS (e : PySem.Expr) : Option {q : (List Expr) × Pos // e = PySem.Expr.JoinedStr q.1 q.2} := match e with
  | .JoinedStr a0 a1 => some ⟨(a0, a1), rfl⟩
  | _ => none
noncomputable def vFV (e : PySem.Expr) : Option {q : Expr × Int × (Option Expr) × Pos // e = PySem.Expr.FormattedValue q.1 q.2.1 q.2.2.1 q.2.2.2} := match e with
  | .FormattedValue a0 a1 a2 a3 => some ⟨(a0, a1, a2, a3), rfl⟩
  | _ => none
noncomputable def sAssign (e : PySem.Stmt) : Option {q : (List Expr) × Expr × Pos // e = PySem.Stmt.Assign q.1 q.2.1 q.2.2} := match e with
  | .Assign a0 a1 a2 => some ⟨(a0, a1, a2), rfl⟩
  | _ => none
noncomputable def sAug (e : PySem.Stmt) : Option {q : Expr × Operator × Expr × Pos // e = PySem.Stmt.AugAssign q.1 q.2.1 q.2.2.1 q.2.2.2} := match e with
  | .AugAssign a0 a1 a2 a3 => some ⟨(a0, a1, a2, a3), rfl⟩
  | _ => none
noncomputable def sExpr (e : PySem.Stmt) : Option {q : Expr × Pos // e = PySem.Stmt.Expr q.1 q.2} := match e with
  | .Expr a0 a1 => some ⟨(a0, a1), rfl⟩
  | _ => none
noncomputable def sIf (e : PySem.Stmt) : Option {q : Expr × (List PySem.Stmt) × (List PySem.Stmt) × Pos // e = PySem.Stmt.If q.1 q.2.1 q.2.2.1 q.2.2.2} := match e with
  | .If a0 a1 a2 a3 => some ⟨(a0, a1, a2, a3), rfl⟩
  | _ => none
noncomputable def sWhile (e : PySem.Stmt) : Option {q : Expr × (List PySem.Stmt) × (List PySem.Stmt) × Pos // e = PySem.Stmt.While q.1 q.2.1 q.2.2.1 q.2.2.2} := match e with
  | .While a0 a1 a2 a3 => some ⟨(a0, a1, a2, a3), rfl⟩
  | _ => none
noncomputable def sFor (e : PySem.Stmt) : Option {q : Expr × Expr × (List PySem.Stmt) × (List PySem.Stmt) × Pos // e = PySem.Stmt.For q.1 q.2.1 q.2.2.1 q.2.2.2.1 q.2.2.2.2} := match e with
  | .For a0 a1 a2 a3 a4 => some ⟨(a0, a1, a2, a3, a4), rfl⟩
  | _ => none
noncomputable def sRet (e : PySem.Stmt) : Option {q : (Option Expr) × Pos // e = PySem.Stmt.Return q.1 q.2} := match e with
  | .Return a0 a1 => some ⟨(a0, a1), rfl⟩
  | _ => none
noncomputable def sBrk (e : PySem.Stmt) : Option {q : Pos // e = PySem.Stmt.Break q} := match e with
  | .Break a0 => some ⟨a0, rfl⟩
  | _ => none
noncomputable def sCont (e : PySem.Stmt) : Option {q : Pos // e = PySem.Stmt.Continue q} := match e with
  | .Continue a0 => some ⟨a0, rfl⟩
  | _ => none
noncomputable def sPass (e : PySem.Stmt) : Option {q : Pos // e = PySem.Stmt.Pass q} := match e with
  | .Pass a0 => some ⟨a0, rfl⟩
  | _ => none
noncomputable def sTry (e : PySem.Stmt) : Option {q : (List PySem.Stmt) × (List ExceptHandler) × (List PySem.Stmt) × (List PySem.Stmt) × Pos // e = PySem.Stmt.Try q.1 q.2.1 q.2.2.1 q.2.2.2.1 q.2.2.2.2} := match e with
  | .Try a0 a1 a2 a3 a4 => some ⟨(a0, a1, a2, a3, a4), rfl⟩
  | _ => none
noncomputable def sAssert (e : PySem.Stmt) : Option {q : Expr × (Option Expr) × Pos // e = PySem.Stmt.Assert q.1 q.2.1 q.2.2} := match e with
  | .Assert a0 a1 a2 => some ⟨(a0, a1, a2), rfl⟩
  | _ => none
noncomputable def v1 {α : Type} (l : List α) : Option {x : α // l = [x]} := match l with
  | [x] => some ⟨x, rfl⟩
  | _ => none
noncomputable def v2 {α : Type} (l : List α) : Option {x : α × α // l = [x.1, x.2]} := match l with
  | [x, y] => some ⟨(x, y), rfl⟩
  | _ => none
noncomputable def vS {α : Type} (l : Option α) : Option {x : α // l = some x} := match l with
  | some x => some ⟨x, rfl⟩
  | _ => none
noncomputable def vStr (c : Const) : Option {s : Str // c = .str s} := match c with
  | .str s => some ⟨s, rfl⟩
  | _ => none
noncomputable def vGen (g : List Comprehension) : Option {q : Expr × Expr // g = [⟨q.1, q.2, [], 0⟩]} := match g with
  | [⟨t, it, [], 0⟩] => some ⟨(t, it), rfl⟩
  | _ => none
noncomputable def nil {α : Type} : List α → Bool
  | [] => true
  | _ => false
theorem nil_inv {α : Type} {l : List α} (h : nil l = true) : l = [] := by cases l <;> first | rfl | cases h
noncomputable def star1 : Expr → Bool
  | .Starred .. => true
  | _ => false
noncomputable def isSlc : Expr → Bool
  | .Slice .. => true
  | _ => false
noncomputable def isSet : Expr → Bool
  | .Set .. => true
  | _ => false
noncomputable def isComp : Expr → Bool
  | .ListComp .. | .SetComp .. | .DictComp .. => true
  | _ => false
noncomputable def isTup : Expr → Bool
  | .Tuple .. => true
  | _ => false
noncomputable def plainBase (e : Expr) : Bool := (vName e).isSome || (vConst e).isSome
noncomputable def callBase (e : Expr) : Bool := (vName e).isSome || (vCall e).any fun q => (vAttr q.1.1).isSome
end Mine
end
section
set_option backward.match.sparseCases false
namespace Mine
open PySem PySem.W PySem.Calls PyProof.Rows
noncomputable def glb (sc : Scope) (x : Str) : Bool := sc.names.lookup x == some .globalImplicit && !(x == ("__debug__" : Str)) && !(x == ("super" : Str))
noncomputable def locOk (vars : List Str) (i : Nat) (id : Str) : Bool := vars[i]? == some id
noncomputable def targets (vars : List Str) : List Nat → List Expr → Bool
  | [], ts => nil ts
  | i :: is, ts => match ts with
    | [] => false
    | t :: r => ((vName t).any fun q => locOk vars i q.1.1) && targets vars is r
noncomputable def relab (csc : Scope) : Scope := { csc with names := csc.names.map fun y => if y.2 == .free then (y.1, .cell) else y }
noncomputable def compOk (sc csc : Scope) (x : Str) : Bool :=
  csc.names.all (fun y => (y.2 != .free || sc.names.lookup y.1 == some .cell) && y.2 != .cell) && csc.kind == .function && csc.names.all (fun y => y.2 != .local || csc.names.lookup y.1 == some .local) && csc.names.lookup x == some .local && x != (".0" : Str) && !(x == ("__debug__" : Str))
noncomputable def isSome0 {α : Type} : Option α → Bool
  | none => true
  | some _ => false
noncomputable def chkKs : List (List Nat) → List (Option Expr) → Bool
  | [], es => nil es
  | k :: ks, es => match es with
    | [] => false
    | e :: es => ((vS e).any fun q => (vConst q.1).any fun c => (vStr c.1.1).any fun s => k == s.1.cps.toList) && chkKs ks es
mutual
noncomputable def chkE : ME → Scope → List Str → Expr → Bool
  | .const v => fun xx xx e => (vConst e).any fun q => cPV v q.1.1
  | .var i => fun xx vars e => (vName e).any fun q => locOk vars i q.1.1
  | .glob nm _ => fun sc xx e => (vName e).any fun q => q.1.1 == nm && glb sc nm
  | .bin op a b => fun sc vars e => (vBin e).any fun q => q.1.2.1 == op && chkE a sc vars q.1.1 && chkE b sc vars q.1.2.2.1
  | .neg a => fun sc vars e => (vUn e).any fun q => (match q.1.1 with | .USub => true | _ => false) && chkE a sc vars q.1.2.1
  | .nt a => fun sc vars e => (vUn e).any fun q => (match q.1.1 with | .Not => true | _ => false) && chkE a sc vars q.1.2.1
  | .bop op es => fun sc vars e => (vBool e).any fun q => q.1.1 == op && chkEs es sc vars q.1.2.1
  | .cmp op a b => fun sc vars e => (vCmp e).any fun q => (v1 q.1.2.1).any fun o => (v1 q.1.2.2.1).any fun r => o.1 == op && chkE a sc vars q.1.1 && chkE b sc vars r.1 && !behindInMarks o.1 r.1
  | .cmp2 o1 o2 a b c => fun sc vars e => (vCmp e).any fun q => (v2 q.1.2.1).any fun o => (v2 q.1.2.2.1).any fun r => o.1.1 == o1 && o.1.2 == o2 && chkE a sc vars q.1.1 && chkE b sc vars r.1.1 && chkE c sc vars r.1.2 && !behindInMarks o.1.2 r.1.2
  | .ife t a b => fun sc vars e => (vIf e).any fun q => chkE t sc vars q.1.1 && chkE a sc vars q.1.2.1 && chkE b sc vars q.1.2.2.1
  | .tup es => fun sc vars e => (vTup e).any fun q => chkEs es sc vars q.1.1 && decide (es.length ≤ 1000)
  | .lst es => fun sc vars e => (vList e).any fun q => chkEs es sc vars q.1.1 && decide (es.length ≤ 1000)
  | .mlst es => fun sc vars e => (vList e).any fun q => chkEs es sc vars q.1.1 && decide (es.length ≤ 1000)
  | .dct ks es => fun sc vars e => (vDict e).any fun q => chkKs ks q.1.1 && chkEs es sc vars q.1.2.1 && decide (ks.length = es.length)
  | .idx a b => fun sc vars e => (vSub e).any fun q => chkE a sc vars q.1.1 && chkE b sc vars q.1.2.1 && !isSlc q.1.2.1
  | .slc a lo hi => fun sc vars e => (vSub e).any fun q => (vSlc q.1.2.1).any fun s => isSome0 s.1.2.2.1 && chkE a sc vars q.1.1 && chkO lo sc vars s.1.1 && chkO hi sc vars s.1.2.1
  | .attr a nm => fun sc vars e => (vAttr e).any fun q => (vName q.1.1).isSome && q.1.2.1 == nm && chkE a sc vars q.1.1
  | .call nm es => fun sc vars e => (vCall e).any fun q => (vName q.1.1).any fun n => nil q.1.2.2.1 && n.1.1 == nm && glb sc nm && chkEs es sc vars q.1.2.1
  | .scall c nm es => fun sc vars e => (vCall e).any fun q => (vAttr q.1.1).any fun a => (vName a.1.1).any fun n => nil q.1.2.2.1 && n.1.1 == c && a.1.2.1 == nm && glb sc c && chkEs es sc vars q.1.2.1 && a.1.2.2.endLine == q.1.2.2.2.line && decide (q.1.2.1.length < 25)
  | .bi f es => fun sc vars e => (vCall e).any fun q => (vName q.1.1).any fun n => nil q.1.2.2.1 && n.1.1 == f.name && glb sc f.name && chkEs es sc vars q.1.2.1
  | .repl a p r => fun sc vars e => (vCall e).any fun q => (vAttr q.1.1).any fun o => (v2 q.1.2.1).any fun w => (vConst w.1.1).any fun c1 => (vConst w.1.2).any fun c2 => (vStr c1.1.1).any fun x => (vStr c2.1.1).any fun y =>
      nil q.1.2.2.1 && o.1.2.1 == ("replace" : Str) && callBase o.1.1 && chkE a sc vars o.1.1 && x.1.cps.toList == p && y.1.cps.toList == [r] && decide (r < 1114112) && o.1.2.2.endLine == q.1.2.2.2.line
  | .meth f a es => fun sc vars e => (vCall e).any fun q => (vAttr q.1.1).any fun o => nil q.1.2.2.1 && o.1.2.1 == f.name && plainBase o.1.1 && chkE a sc vars o.1.1 && chkEs es sc vars q.1.2.1 && o.1.2.2.endLine == q.1.2.2.2.line && decide (q.1.2.1.length < 25)
  | .app a b => fun sc vars e => (vCall e).any fun q => (vAttr q.1.1).any fun o => (v1 q.1.2.1).any fun x => nil q.1.2.2.1 && o.1.2.1 == ("append" : Str) && plainBase o.1.1 && chkE a sc vars o.1.1 && chkE b sc vars x.1 && o.1.2.2.endLine == q.1.2.2.2.line && !star1 x.1
  | .frz a => fun sc vars e => chkE a sc vars e
  | .frzS a => fun sc vars e => chkE a sc vars e
  | .cel nm => fun sc xx e => (vName e).any fun q => q.1.1 == nm && sc.names.lookup nm == some .cell && !(nm == ("__debug__" : Str))
  | .edct _ => fun xx xx e => (vDict e).any fun q => nil q.1.1 && nil q.1.2.1
  | .lenO a => fun sc vars e => (vCall e).any fun q => (vName q.1.1).any fun n => (v1 q.1.2.1).any fun x => nil q.1.2.2.1 && n.1.1 == ("len" : Str) && glb sc "len" && chkE a sc vars x.1 && !star1 x.1
  | .popf a => fun sc vars e => (vCall e).any fun q => (vAttr q.1.1).any fun o => nil q.1.2.2.1 && nil q.1.2.1 && o.1.2.1 == ("pop" : Str) && plainBase o.1.1 && chkE a sc vars o.1.1 && o.1.2.2.endLine == q.1.2.2.2.line
  | .comp x elt iter => fun sc vars e => (vLC e).any fun q => (vGen q.1.2.1).any fun g => (vName g.1.1).any fun n => n.1.1 == x && chkE iter sc vars g.1.2 && chkE elt (relab q.1.2.2.1) [x] q.1.1 && compOk sc q.1.2.2.1 x && !isSet g.1.2
  | .fstr es => fun sc vars e => (vJS e).any fun q => chkF es sc vars q.1.1 && decide (2 ≤ q.1.1.length)
  | .bad => fun xx xx xx => true
noncomputable def chkEs : List ME → Scope → List Str → List Expr → Bool
  | [] => fun xx xx es => nil es
  | m :: ms => fun sc vars es => match es with
    | [] => false
    | e :: es => chkE m sc vars e && chkEs ms sc vars es && !star1 e
noncomputable def chkO : Option ME → Scope → List Str → Option Expr → Bool
  | none => fun xx xx e => isSome0 e
  | some m => fun sc vars e => (vS e).any fun q => chkE m sc vars q.1
noncomputable def chkF : List (Option (List Nat) × Option ME) → Scope → List Str → List Expr → Bool
  | [] => fun xx xx es => nil es
  | (some s, _) :: r => fun sc vars es => match es with
    | [] => false
    | e :: es => ((vConst e).any fun q => (vStr q.1.1).any fun x => s == x.1.cps.toList && s.all (· < 0x110000) && decide (s.length ≤ 1000)) && chkF r sc vars es
  | (none, some m) :: r => fun sc vars es => match es with
    | [] => false
    | e :: es => ((vFV e).any fun q => q.1.2.1 == -1 && isSome0 q.1.2.2.1 && chkE m sc vars q.1.1) && chkF r sc vars es
  | (none, none) :: _ => fun xx xx xx => true
end
mutual
noncomputable def chkS : MS → Scope → List Str → Stmt → Bool
  | .asg i m => fun sc vars st => (sAssign st).any fun q => (v1 q.1.1).any fun t => (vName t.1).any fun n => locOk vars i n.1.1 && chkE m sc vars q.1.2.1 && !isComp q.1.2.1
  | .asg2 i j m => fun sc vars st => (sAssign st).any fun q => (v2 q.1.1).any fun t => (vName t.1.1).any fun n => (vName t.1.2).any fun n' => locOk vars i n.1.1 && locOk vars j n'.1.1 && chkE m sc vars q.1.2.1 && !isComp q.1.2.1
  | .unp is m => fun sc vars st => (sAssign st).any fun q => (v1 q.1.1).any fun t => (vTup t.1).any fun n => targets vars is n.1.1 && chkE m sc vars q.1.2.1 && !isComp q.1.2.1 && !isTup q.1.2.1 && decide (2 ≤ is.length)
  | .aug i op m => fun sc vars st => (sAug st).any fun q => (vName q.1.1).any fun n => locOk vars i n.1.1 && q.1.2.1 == op && chkE m sc vars q.1.2.2.1
  | .setattr a nm m => fun sc vars st => (sAssign st).any fun q => (v1 q.1.1).any fun t => (vAttr t.1).any fun n => (vName n.1.1).isSome && n.1.2.1 == nm && chkE a sc vars n.1.1 && chkE m sc vars q.1.2.1 && !isComp q.1.2.1
  | .expr m => fun sc vars st => (sExpr st).any fun q => chkE m sc vars q.1.1 && !isComp q.1.1
  | .ite t a b => fun sc vars st => (sIf st).any fun q => chkE t sc vars q.1.1 && chkSs a sc vars q.1.2.1 && chkSs b sc vars q.1.2.2.1
  | .wh t a b => fun sc vars st => (sWhile st).any fun q => chkE t sc vars q.1.1 && chkSs a sc vars q.1.2.1 && chkSs b sc vars q.1.2.2.1
  | .for1 i m b => fun sc vars st => (sFor st).any fun q => (vName q.1.1).any fun n => nil q.1.2.2.2.1 && locOk vars i n.1.1 && chkE m sc vars q.1.2.1 && chkSs b sc vars q.1.2.2.1 && !isSet q.1.2.1
  | .efor i j m b => fun sc vars st => (sFor st).any fun q => (vTup q.1.1).any fun t => (v2 t.1.1).any fun n => (vName n.1.1).any fun n1 => (vName n.1.2).any fun n2 => (vCall q.1.2.1).any fun c => (vName c.1.1).any fun en => (v1 c.1.2.1).any fun it =>
      nil q.1.2.2.2.1 && locOk vars i n1.1.1 && locOk vars j n2.1.1 && nil c.1.2.2.1 && en.1.1 == ("enumerate" : Str) && glb sc "enumerate" && !star1 it.1 && chkE m sc vars it.1 && chkSs b sc vars q.1.2.2.1 && i != j
  | .seti a k m => fun sc vars st => (sAssign st).any fun q => (v1 q.1.1).any fun t => (vSub t.1).any fun n => chkE a sc vars n.1.1 && chkE k sc vars n.1.2.1 && !isSlc n.1.2.1 && chkE m sc vars q.1.2.1 && !isComp q.1.2.1
  | .ret m => fun sc vars st => (sRet st).any fun q => (vS q.1.1).any fun e => chkE m sc vars e.1
  | .brk => fun xx xx st => (sBrk st).isSome
  | .cont => fun xx xx st => (sCont st).isSome
  | .pass => fun xx xx st => (sPass st).isSome
  | .try1 b => fun sc vars st => (sTry st).any fun q => !nil q.1.2.1 && nil q.1.2.2.1 && nil q.1.2.2.2.1 && chkSs b sc vars q.1.1
  | .asrt t => fun sc vars st => (sAssert st).any fun q => isSome0 q.1.2.1 && chkE t sc vars q.1.1
  | .bad => fun xx xx xx => true
noncomputable def chkSs : List MS → Scope → List Str → List Stmt → Bool
  | [] => fun xx xx es => nil es
  | m :: ms => fun sc vars es => match es with
    | [] => false
    | e :: es => chkS m sc vars e && chkSs ms sc vars es
end
end Mine
end
section
namespace Mine
open PySem PySem.W PySem.Calls PyProof.Rows PySem.Builtin PySem.Builtin.Str PySem.NumText
set_option genCtorIdx false in
inductive GE where
  | arg
  | str (s : List Nat)
  | ifeq (s : List Nat) (a b : GE)
  | get (nm : Str) (ks vs : List (List Nat))
noncomputable def assocS (k : List Nat) : List (List Nat) → List (List Nat) → Option (List Nat)
  | a :: ks, v :: vs => if a = k then some v else assocS k ks vs
  | _, _ => none
theorem assocS_P (k : List Nat) : ∀ (ks vs : List (List Nat)), assocP k ks (vs.map .str) = (assocS k ks vs).map .str
  | [], [] => rfl
  | [], _ :: _ => rfl
  | _ :: _, [] => rfl
  | a :: ks, v :: vs => by
    simp only [List.map_cons, assocP, assocS]
    split
    · rfl
    · exact assocS_P k ks vs
noncomputable def GE.val : GE → Nat → List Nat
  | .arg, c => [c]
  | .str s, _ => s
  | .ifeq s a b, c => if [c] = s then a.val c else b.val c
  | .get _ ks vs, c => (assocS [c] ks vs).getD [c]
noncomputable def GE.ok (B : Base) : GE → Prop
  | .ifeq _ a b => a.ok B ∧ b.ok B
  | .get nm ks vs => ∃ x, B.mg nm = some x ∧ Rep B B.heap.get? (.dct ks (vs.map .str)) x
  | _ => True
theorem cmp_eq {l l' : Expr} {os os' : List CmpOp} {rs rs' : List Expr} {p : Pos} (h1 : l = l') (h2 : os = os') (h3 : rs = rs') : Expr.Compare l os rs p = Expr.Compare l' os' rs' p := by rw [h1, h2, h3]
theorem attr_eq {l l' : Expr} {n n' : Str} {p : Pos} (h1 : l = l') (h2 : n = n') : Expr.Attribute l n p = Expr.Attribute l' n' p := by rw [h1, h2]
theorem call_eq {f f' : Expr} {as as' : List Expr} {ks ks' : List Keyword} {p : Pos} (h1 : f = f') (h2 : as = as') (h3 : ks = ks') : Expr.Call f as ks p = Expr.Call f' as' ks' p := by rw [h1, h2, h3]
theorem two_eq {α : Type} {a a' b b' : α} (h1 : a = a') (h2 : b = b') : [a, b] = [a', b'] := by rw [h1, h2]
theorem gen_eq {a a' b b' : Expr} (h1 : a = a') (h2 : b = b') : [Comprehension.mk a b [] 0] = [⟨a', b', [], 0⟩] := by rw [h1, h2]
noncomputable def vIfG (e : Expr) : Option { q : (Str × Pos × CmpOp × Const) × (Nat × Pos × Pos) × Expr × Expr × Pos // e = .IfExp (.Compare (.Name q.1.1 q.1.2.1) [q.1.2.2.1] [.Constant q.1.2.2.2 q.2.1.1 q.2.1.2.1] q.2.1.2.2) q.2.2.1 q.2.2.2.1 q.2.2.2.2 } :=
  (vIf e).bind fun q => (vCmp q.1.1).bind fun w => (vName w.1.1).bind fun i => (v1 w.1.2.1).bind fun o => (v1 w.1.2.2.1).bind fun r => (vConst r.1).bind fun k =>
    some ⟨((i.1.1, i.1.2, o.1, k.1.1), (k.1.2.1, k.1.2.2, w.1.2.2.2), q.1.2.1, q.1.2.2.1, q.1.2.2.2), q.2.trans (congrArg (fun y => Expr.IfExp y _ _ _) (w.2.trans (cmp_eq i.2 o.2 (r.2.trans (congrArg (fun z => [z]) k.2)))))⟩
noncomputable def vGetG (e : Expr) : Option { q : (Str × Pos × Str × Pos) × (Str × Pos) × (Str × Pos) × List Keyword × Pos // e = .Call (.Attribute (.Name q.1.1 q.1.2.1) q.1.2.2.1 q.1.2.2.2) [.Name q.2.1.1 q.2.1.2, .Name q.2.2.1.1 q.2.2.1.2] q.2.2.2.1 q.2.2.2.2 } :=
  (vCall e).bind fun q => (vAttr q.1.1).bind fun o => (vName o.1.1).bind fun n => (v2 q.1.2.1).bind fun w => (vName w.1.1).bind fun a => (vName w.1.2).bind fun b =>
    some ⟨((n.1.1, n.1.2, o.1.2.1, o.1.2.2), a.1, b.1, q.1.2.2.1, q.1.2.2.2), q.2.trans (call_eq (o.2.trans (attr_eq n.2 rfl)) (w.2.trans (two_eq a.2 b.2)) rfl)⟩
noncomputable def chkG (sc : Scope) (x : Str) : GE → Expr → Bool
  | .arg => fun e => (vName e).any fun q => q.1.1 == x
  | .str s => fun e => (vConst e).any fun q => cPV (.str s) q.1.1
  | .ifeq s a b => fun e => (vIfG e).any fun q => q.1.1.1 == x && q.1.1.2.2.1 == .Eq && cPV (.str s) q.1.1.2.2.2 && chkG sc x a q.1.2.2.1 && chkG sc x b q.1.2.2.2.1
  | .get nm _ _ => fun e => (vGetG e).any fun q => nil q.1.2.2.2.1 && q.1.1.1 == nm && q.1.1.2.2.1 == ("get" : Str) && q.1.2.1.1 == x && q.1.2.2.1.1 == x && glb sc nm && q.1.1.2.2.2.endLine == q.1.2.2.2.2.line
noncomputable def compOk0 (csc : Scope) (x : Str) : Bool := compOk { csc with names := [] } csc x
noncomputable def vJoin (body : List Stmt) : Option { q : (Str × Nat × Pos × Str × Pos) × (Expr × Str × Pos × Str × Pos × Scope × Pos) × List Keyword × Pos × Pos //
    body = [.Return (some (.Call (.Attribute (.Constant (.str q.1.1) q.1.2.1 q.1.2.2.1) q.1.2.2.2.1 q.1.2.2.2.2) [.GeneratorExp q.2.1.1 [⟨.Name q.2.1.2.1 q.2.1.2.2.1, .Name q.2.1.2.2.2.1 q.2.1.2.2.2.2.1, [], 0⟩] q.2.1.2.2.2.2.2.1 q.2.1.2.2.2.2.2.2] q.2.2.1 q.2.2.2.1)) q.2.2.2.2] } :=
  (v1 body).bind fun st => (sRet st.1).bind fun r => (vS r.1.1).bind fun e => (vCall e.1).bind fun q => (vAttr q.1.1).bind fun o => (vConst o.1.1).bind fun c => (vStr c.1.1).bind fun sp =>
  (v1 q.1.2.1).bind fun ge => (vGE ge.1).bind fun l => (vGen l.1.2.1).bind fun g' => (vName g'.1.1).bind fun n => (vName g'.1.2).bind fun w =>
  some ⟨((sp.1, c.1.2.1, c.1.2.2, o.1.2.1, o.1.2.2), (l.1.1, n.1.1, n.1.2, w.1.1, w.1.2, l.1.2.2.1, l.1.2.2.2), q.1.2.2.1, q.1.2.2.2, r.1.2),
    st.2.trans (congrArg (fun z => [z]) (r.2.trans (congrArg (Stmt.Return · _) (e.2.trans (congrArg some (q.2.trans (call_eq (o.2.trans (attr_eq (c.2.trans (congrArg (fun z => Expr.Constant z _ _) sp.2)) rfl))
      (ge.2.trans (congrArg (fun z => [z]) (l.2.trans (congrArg (fun z => Expr.GeneratorExp _ z _ _) (g'.2.trans (gen_eq n.2 w.2)))))) rfl)))))))⟩
noncomputable def joinChk (g : GE) (vn : Str) (body : List Stmt) : Bool := (vJoin body).any fun q =>
  (nil q.1.2.2.1 && q.1.1.1 == sOf [] && q.1.1.2.2.2.1 == ("join" : Str) && q.1.2.1.2.2.2.1 == vn && q.1.1.2.2.2.2.endLine == q.1.2.2.2.1.line) &&
  (chkG q.1.2.1.2.2.2.2.2.1 q.1.2.1.2.1 g q.1.2.1.1 && compOk0 q.1.2.1.2.2.2.2.2.1 q.1.2.1.2.1 && !q.1.2.1.2.2.2.2.2.1.isCoroutine && q.1.2.1.2.2.2.2.2.1.names.lookup (".0" : Str) == some NameKind.local)
end Mine
end
section
set_option backward.match.sparseCases false
namespace Mine
open PySem PySem.W
noncomputable def v_ascii_lower : List Str := ["text"]
noncomputable def p_ascii_lower : List Str := ["text"]
noncomputable def m_ascii_lower : List MS :=
 [.ret (.meth .join (.const (.str [])) [(.comp "c" (.ife (.cmp2 .LtE .LtE (.const (.str [65])) (.var 0) (.const (.str [90]))) (.bi .chr [(.bin .Add (.bi .ord [(.var 0)]) (.const (.int 32)))]) (.var 0)) (.var 0))])]
noncomputable def v_number_end : List Str := ["css", "pos", "end", "start", "plain", "power"]
noncomputable def p_number_end : List Str := ["css", "pos"]
noncomputable def w_number_end_1 : MS :=
 .wh (.cmp .In (.slc (.var 0) (some (.var 2)) (some (.bin .Add (.var 2) (.const (.int 1))))) (.glob "_DIGITS" (.tup [(.str [48]), (.str [49]), (.str [50]), (.str [51]), (.str [52]), (.str [53]), (.str [54]), (.str [55]), (.str [56]), (.str [57])]))) [.aug 2 .Add (.const (.int 1))] []
noncomputable def w_number_end_2 : MS :=
 .wh (.cmp .In (.slc (.var 0) (some (.var 2)) (some (.bin .Add (.var 2) (.const (.int 1))))) (.glob "_DIGITS" (.tup [(.str [48]), (.str [49]), (.str [50]), (.str [51]), (.str [52]), (.str [53]), (.str [54]), (.str [55]), (.str [56]), (.str [57])]))) [.aug 2 .Add (.const (.int 1))] []
noncomputable def w_number_end_3 : MS :=
 .wh (.cmp .In (.slc (.var 0) (some (.var 2)) (some (.bin .Add (.var 2) (.const (.int 1))))) (.glob "_DIGITS" (.tup [(.str [48]), (.str [49]), (.str [50]), (.str [51]), (.str [52]), (.str [53]), (.str [54]), (.str [55]), (.str [56]), (.str [57])]))) [.aug 2 .Add (.const (.int 1))] []
noncomputable def r_number_end_1 : List MS :=
 [.ite (.cmp .In (.slc (.var 0) (some (.var 5)) (some (.bin .Add (.var 5) (.const (.int 1))))) (.glob "_DIGITS" (.tup [(.str [48]), (.str [49]), (.str [50]), (.str [51]), (.str [52]), (.str [53]), (.str [54]), (.str [55]), (.str [56]), (.str [57])]))) [.asg 4 (.const (.bool false)),
 .asg 2 (.var 5),
 w_number_end_3] []]
noncomputable def r_number_end_2 : List MS :=
 [.ret (.tup [(.var 2), (.var 4)])]
noncomputable def r_number_end_3 : List MS :=
 (.ite (.cmp .In (.slc (.var 0) (some (.var 2)) (some (.bin .Add (.var 2) (.const (.int 1))))) (.tup [(.const (.str [101])), (.const (.str [69]))])) (.asg 5 (.bin .Add (.var 2) (.const (.int 1))) :: .ite (.cmp .In (.slc (.var 0) (some (.var 5)) (some (.bin .Add (.var 5) (.const (.int 1))))) (.tup [(.const (.str [45])), (.const (.str [43]))])) [.aug 5 .Add (.const (.int 1))] [] :: r_number_end_1) [] :: r_number_end_2)
noncomputable def r_number_end_4 : List MS :=
 (.asg 4 (.const (.bool true)) :: .ite (.bop .And [(.cmp .Eq (.slc (.var 0) (some (.var 2)) (some (.bin .Add (.var 2) (.const (.int 1))))) (.const (.str [46]))), (.cmp .In (.slc (.var 0) (some (.bin .Add (.var 2) (.const (.int 1)))) (some (.bin .Add (.var 2) (.const (.int 2))))) (.glob "_DIGITS" (.tup [(.str [48]), (.str [49]), (.str [50]), (.str [51]), (.str [52]), (.str [53]), (.str [54]), (.str [55]), (.str [56]), (.str [57])])))]) [.asg 4 (.const (.bool false)),
 .aug 2 .Add (.const (.int 2)),
 w_number_end_2] [.ite (.cmp .Eq (.var 2) (.var 3)) [.ret (.tup [(.const .none), (.const (.bool false))])] []] :: r_number_end_3)
noncomputable def r_number_end_5 : List MS :=
 (.asg 3 (.var 2) :: w_number_end_1 :: r_number_end_4)
noncomputable def m_number_end : List MS :=
 (.asg 2 (.var 1) :: .ite (.cmp .In (.slc (.var 0) (some (.var 2)) (some (.bin .Add (.var 2) (.const (.int 1))))) (.tup [(.const (.str [45])), (.const (.str [43]))])) [.aug 2 .Add (.const (.int 1))] [] :: r_number_end_5)
noncomputable def v_hex_end : List Str := ["css", "pos", "end"]
noncomputable def p_hex_end : List Str := ["css", "pos"]
noncomputable def w_hex_end_1 : MS :=
 .wh (.bop .And [(.cmp .Lt (.var 2) (.bin .Add (.var 1) (.const (.int 6)))), (.cmp .NotEq (.slc (.var 0) (some (.var 2)) (some (.bin .Add (.var 2) (.const (.int 1))))) (.const (.str []))), (.cmp .In (.idx (.var 0) (.var 2)) (.const (.str [48, 49, 50, 51, 52, 53, 54, 55, 56, 57, 97, 98, 99, 100, 101, 102, 65, 66, 67, 68, 69, 70])))]) [.aug 2 .Add (.const (.int 1))] []
noncomputable def r_hex_end_1 : List MS :=
 [.ret (.var 2)]
noncomputable def m_hex_end : List MS :=
 (.asg 2 (.var 1) :: w_hex_end_1 :: r_hex_end_1)
noncomputable def v_parse : List Str := ["css", "skip_comments", "length", "token_start_pos", "pos", "line", "last_newline", "root", "tokens", "end_char", "stack", "newline", "column", "c", "value", "start", "end", "is_url", "url_pos", "error", "repr", "error_key", "arguments", "plain", "repr_", "int_value", "unit", "is_identifier", "content"]
noncomputable def p_parse : List Str := ["css", "skip_comments"]
noncomputable def b_parse_1 : List MS :=
 [.aug 5 .Add (.bin .Add (.const (.int 1)) (.meth .count (.var 0) [(.const (.str [10])), (.var 3), (.var 11)])),
 .asg 6 (.var 11)]
noncomputable def w_parse_1 : MS :=
 .wh (.meth .startswith (.var 0) [(.tup [(.const (.str [32])), (.const (.str [10])), (.const (.str [9]))]), (.var 4)]) [.aug 4 .Add (.const (.int 1))] []
noncomputable def r_parse_1 : List MS :=
 [.asg 14 (.slc (.var 0) (some (.var 3)) (some (.var 4))),
 .expr (.app (.var 8) (.call "WhitespaceToken" [(.var 5), (.var 12), (.var 14)])),
 .cont]
noncomputable def b_parse_2 : List MS :=
 (.aug 4 .Add (.const (.int 1)) :: w_parse_1 :: r_parse_1)
noncomputable def b_parse_3 : List MS :=
 [.expr (.app (.var 8) (.call "LiteralToken" [(.var 5), (.var 12), (.const (.str [45, 45, 62]))])),
 .aug 4 .Add (.const (.int 3)),
 .cont]
noncomputable def b_parse_4 : List MS :=
 [.expr (.app (.var 8) (.call "IdentToken" [(.var 5), (.var 12), (.var 14)])),
 .cont]
noncomputable def w_parse_2 : MS :=
 .wh (.meth .startswith (.var 0) [(.tup [(.const (.str [32])), (.const (.str [10])), (.const (.str [9]))]), (.var 18)]) [.aug 18 .Add (.const (.int 1))] []
noncomputable def b_parse_5 : List MS :=
 [.asg 20 (.slc (.var 20) none (some (.neg (.const (.int 2)))))]
noncomputable def b_parse_6 : List MS :=
 [.asrt (.cmp .Eq (.var 21) (.const (.str [101, 111, 102, 45, 105, 110, 45, 117, 114, 108]))),
 .asg 20 (.slc (.var 20) none (some (.neg (.const (.int 1)))))]
noncomputable def b_parse_7 : List MS :=
 [.asg 21 (.idx (.var 19) (.const (.int 0))),
 .ite (.cmp .Eq (.var 21) (.const (.str [101, 111, 102, 45, 105, 110, 45, 115, 116, 114, 105, 110, 103]))) b_parse_5 b_parse_6]
noncomputable def r_parse_2 : List MS :=
 [.expr (.app (.var 8) (.call "URLToken" [(.var 5), (.var 12), (.var 14), (.var 20)]))]
noncomputable def b_parse_8 : List MS :=
 (.asg 20 (.fstr [(some [117, 114, 108, 40], none), (none, some (.call "serialize_url" [(.var 14)])), (some [41], none)]) :: .ite (.cmp .IsNot (.var 19) (.const .none)) b_parse_7 [] :: r_parse_2)
noncomputable def b_parse_9 : List MS :=
 [.expr (.app (.var 8) (.call "ParseError" [(.var 5), (.var 12), (.idx (.var 19) (.const (.int 0))), (.idx (.var 19) (.const (.int 1)))]))]
noncomputable def r_parse_3 : List MS :=
 [.cont]
noncomputable def r_parse_4 : List MS :=
 (.ite (.cmp .IsNot (.var 19) (.const .none)) b_parse_9 [] :: r_parse_3)
noncomputable def b_parse_10 : List MS :=
 (.unp [14, 4, 19] (.call "_consume_url" [(.var 0), (.var 4)]) :: .ite (.cmp .IsNot (.var 14) (.const .none)) b_parse_8 [] :: r_parse_4)
noncomputable def r_parse_5 : List MS :=
 [.ite (.bop .Or [(.cmp .GtE (.var 18) (.var 2)), (.cmp .NotIn (.idx (.var 0) (.var 18)) (.tup [(.const (.str [34])), (.const (.str [39]))]))]) b_parse_10 []]
noncomputable def b_parse_11 : List MS :=
 (.asg 18 (.var 4) :: w_parse_2 :: r_parse_5)
noncomputable def r_parse_6 : List MS :=
 [.asg 22 (.mlst []),
 .expr (.app (.var 8) (.call "FunctionBlock" [(.var 5), (.var 12), (.var 14), (.var 22)])),
 .expr (.app (.var 10) (.tup [(.var 8), (.var 9)])),
 .asg 9 (.const (.str [41])),
 .asg 8 (.var 22),
 .cont]
noncomputable def r_parse_7 : List MS :=
 (.ite (.var 17) b_parse_11 [] :: r_parse_6)
noncomputable def r_parse_8 : List MS :=
 (.aug 4 .Add (.const (.int 1)) :: .try1 [.asg 17 (.cmp .Eq (.call "ascii_lower" [(.var 14)]) (.const (.str [117, 114, 108])))] :: r_parse_7)
noncomputable def b_parse_12 : List MS :=
 (.unp [14, 4] (.call "_consume_ident" [(.var 0), (.var 4)]) :: .ite (.nt (.meth .startswith (.var 0) [(.const (.str [40])), (.var 4)])) b_parse_4 [] :: r_parse_8)
noncomputable def b_parse_13 : List MS :=
 [.ite (.call "_is_ident_start" [(.var 0), (.var 4)]) b_parse_12 []]
noncomputable def b_parse_14 : List MS :=
 [.ite (.meth .startswith (.var 0) [(.const (.str [45, 45, 62])), (.var 4)]) b_parse_3 b_parse_13]
noncomputable def b_parse_15 : List MS :=
 [.ite (.bop .And [(.cmp .In (.var 13) (.const (.str [85, 117]))), (.cmp .Lt (.bin .Add (.var 4) (.const (.int 2))) (.var 2)), (.cmp .Eq (.idx (.var 0) (.bin .Add (.var 4) (.const (.int 1)))) (.const (.str [43]))), (.cmp .In (.idx (.var 0) (.bin .Add (.var 4) (.const (.int 2)))) (.const (.str [48, 49, 50, 51, 52, 53, 54, 55, 56, 57, 97, 98, 99, 100, 101, 102, 65, 66, 67, 68, 69, 70, 63])))]) [.bad,
 .bad,
 .bad] b_parse_14]
noncomputable def b_parse_16 : List MS :=
 [.unp [26, 4] (.call "_consume_ident" [(.var 0), (.var 4)]),
 .expr (.app (.var 8) (.call "DimensionToken" [(.var 5), (.var 12), (.var 14), (.var 25), (.var 24), (.var 26)]))]
noncomputable def b_parse_17 : List MS :=
 [.aug 4 .Add (.const (.int 1)),
 .expr (.app (.var 8) (.call "PercentageToken" [(.var 5), (.var 12), (.var 14), (.var 25), (.var 24)]))]
noncomputable def b_parse_18 : List MS :=
 [.expr (.app (.var 8) (.call "NumberToken" [(.var 5), (.var 12), (.var 14), (.var 25), (.var 24)]))]
noncomputable def b_parse_19 : List MS :=
 [.ite (.meth .startswith (.var 0) [(.const (.str [37])), (.var 4)]) b_parse_17 b_parse_18]
noncomputable def b_parse_20 : List MS :=
 [.asg 4 (.var 16),
 .asg 24 (.slc (.var 0) (some (.var 3)) (some (.var 4))),
 .asg 14 (.var 24),
 .asg 25 (.ife (.var 23) (.bi .int [(.var 24)]) (.const .none)),
 .ite (.bop .And [(.cmp .Lt (.var 4) (.var 2)), (.call "_is_ident_start" [(.var 0), (.var 4)])]) b_parse_16 b_parse_19]
noncomputable def b_parse_21 : List MS :=
 [.unp [14, 4] (.call "_consume_ident" [(.var 0), (.var 4)]),
 .expr (.app (.var 8) (.call "AtKeywordToken" [(.var 5), (.var 12), (.var 14)]))]
noncomputable def b_parse_22 : List MS :=
 [.expr (.app (.var 8) (.call "LiteralToken" [(.var 5), (.var 12), (.const (.str [64]))]))]
noncomputable def b_parse_23 : List MS :=
 [.aug 4 .Add (.const (.int 1)),
 .ite (.bop .And [(.cmp .Lt (.var 4) (.var 2)), (.call "_is_ident_start" [(.var 0), (.var 4)])]) b_parse_21 b_parse_22]
noncomputable def b_parse_24 : List MS :=
 [.asg 27 (.call "_is_ident_start" [(.var 0), (.var 4)]),
 .unp [14, 4] (.call "_consume_ident" [(.var 0), (.var 4)]),
 .expr (.app (.var 8) (.call "HashToken" [(.var 5), (.var 12), (.var 14), (.var 27)]))]
noncomputable def b_parse_25 : List MS :=
 [.expr (.app (.var 8) (.call "LiteralToken" [(.var 5), (.var 12), (.const (.str [35]))]))]
noncomputable def b_parse_26 : List MS :=
 [.aug 4 .Add (.const (.int 1)),
 .ite (.bop .And [(.cmp .Lt (.var 4) (.var 2)), (.bop .Or [(.cmp .In (.idx (.var 0) (.var 4)) (.const (.str [48, 49, 50, 51, 52, 53, 54, 55, 56, 57, 97, 98, 99, 100, 101, 102, 103, 104, 105, 106, 107, 108, 109, 110, 111, 112, 113, 114, 115, 116, 117, 118, 119, 120, 121, 122, 45, 95, 65, 66, 67, 68, 69, 70, 71, 72, 73, 74, 75, 76, 77, 78, 79, 80, 81, 82, 83, 84, 85, 86, 87, 88, 89, 90]))), (.cmp .Gt (.bi .ord [(.idx (.var 0) (.var 4))]) (.const (.int 127))), (.bop .And [(.cmp .Eq (.idx (.var 0) (.var 4)) (.const (.str [92]))), (.nt (.meth .startswith (.var 0) [(.const (.str [92, 10])), (.var 4)]))])])]) b_parse_24 b_parse_25]
noncomputable def b_parse_27 : List MS :=
 [.asg 28 (.mlst []),
 .expr (.app (.var 8) (.call "CurlyBracketsBlock" [(.var 5), (.var 12), (.var 28)])),
 .expr (.app (.var 10) (.tup [(.var 8), (.var 9)])),
 .asg 9 (.const (.str [125])),
 .asg 8 (.var 28),
 .aug 4 .Add (.const (.int 1))]
noncomputable def b_parse_28 : List MS :=
 [.asg 28 (.mlst []),
 .expr (.app (.var 8) (.call "SquareBracketsBlock" [(.var 5), (.var 12), (.var 28)])),
 .expr (.app (.var 10) (.tup [(.var 8), (.var 9)])),
 .asg 9 (.const (.str [93])),
 .asg 8 (.var 28),
 .aug 4 .Add (.const (.int 1))]
noncomputable def b_parse_29 : List MS :=
 [.asg 28 (.mlst []),
 .expr (.app (.var 8) (.call "ParenthesesBlock" [(.var 5), (.var 12), (.var 28)])),
 .expr (.app (.var 10) (.tup [(.var 8), (.var 9)])),
 .asg 9 (.const (.str [41])),
 .asg 8 (.var 28),
 .aug 4 .Add (.const (.int 1))]
noncomputable def b_parse_30 : List MS :=
 [.unp [8, 9] (.popf (.var 10)),
 .aug 4 .Add (.const (.int 1))]
noncomputable def b_parse_31 : List MS :=
 [.expr (.app (.var 8) (.call "ParseError" [(.var 5), (.var 12), (.var 13), (.bin .Add (.const (.str [85, 110, 109, 97, 116, 99, 104, 101, 100, 32])) (.var 13))])),
 .aug 4 .Add (.const (.int 1))]
noncomputable def b_parse_32 : List MS :=
 [.asg 20 (.slc (.var 20) none (some (.neg (.const (.int 1)))))]
noncomputable def r_parse_9 : List MS :=
 [.expr (.app (.var 8) (.call "StringToken" [(.var 5), (.var 12), (.var 14), (.var 20)]))]
noncomputable def b_parse_33 : List MS :=
 (.asg 20 (.fstr [(some [34], none), (none, some (.call "serialize_string_value" [(.var 14)])), (some [34], none)]) :: .ite (.cmp .IsNot (.var 19) (.const .none)) b_parse_32 [] :: r_parse_9)
noncomputable def b_parse_34 : List MS :=
 [.expr (.app (.var 8) (.call "ParseError" [(.var 5), (.var 12), (.idx (.var 19) (.const (.int 0))), (.idx (.var 19) (.const (.int 1)))]))]
noncomputable def r_parse_10 : List MS :=
 [.ite (.cmp .IsNot (.var 19) (.const .none)) b_parse_34 []]
noncomputable def b_parse_35 : List MS :=
 (.unp [14, 4, 19] (.call "_consume_quoted_string" [(.var 0), (.var 4)]) :: .ite (.cmp .IsNot (.var 14) (.const .none)) b_parse_33 [] :: r_parse_10)
noncomputable def b_parse_36 : List MS :=
 [.expr (.app (.var 8) (.call "LiteralToken" [(.var 5), (.var 12), (.const (.str [60, 33, 45, 45]))])),
 .aug 4 .Add (.const (.int 4))]
noncomputable def b_parse_37 : List MS :=
 [.expr (.app (.var 8) (.call "LiteralToken" [(.var 5), (.var 12), (.const (.str [124, 124]))])),
 .aug 4 .Add (.const (.int 2))]
noncomputable def b_parse_38 : List MS :=
 [.aug 4 .Add (.const (.int 1)),
 .expr (.app (.var 8) (.call "LiteralToken" [(.var 5), (.var 12), (.bin .Add (.var 13) (.const (.str [61])))]))]
noncomputable def b_parse_39 : List MS :=
 [.expr (.app (.var 8) (.call "LiteralToken" [(.var 5), (.var 12), (.var 13)]))]
noncomputable def b_parse_40 : List MS :=
 [.aug 4 .Add (.const (.int 1)),
 .ite (.meth .startswith (.var 0) [(.const (.str [61])), (.var 4)]) b_parse_38 b_parse_39]
noncomputable def b_parse_41 : List MS :=
 [.expr (.app (.var 8) (.call "LiteralToken" [(.var 5), (.var 12), (.var 13)])),
 .aug 4 .Add (.const (.int 1))]
noncomputable def b_parse_42 : List MS :=
 [.ite (.cmp .In (.var 13) (.const (.str [126, 124, 94, 36, 42]))) b_parse_40 b_parse_41]
noncomputable def b_parse_43 : List MS :=
 [.ite (.meth .startswith (.var 0) [(.const (.str [124, 124])), (.var 4)]) b_parse_37 b_parse_42]
noncomputable def b_parse_44 : List MS :=
 [.ite (.meth .startswith (.var 0) [(.const (.str [60, 33, 45, 45])), (.var 4)]) b_parse_36 b_parse_43]
noncomputable def b_parse_45 : List MS :=
 [.ite (.meth .startswith (.var 0) [(.const (.str [47, 42])), (.var 4)]) [.bad,
 .bad,
 .bad,
 .bad] b_parse_44]
noncomputable def b_parse_46 : List MS :=
 [.ite (.cmp .In (.var 13) (.tup [(.const (.str [34])), (.const (.str [39]))])) b_parse_35 b_parse_45]
noncomputable def b_parse_47 : List MS :=
 [.ite (.cmp .In (.var 13) (.const (.str [125, 93, 41]))) b_parse_31 b_parse_46]
noncomputable def b_parse_48 : List MS :=
 [.ite (.cmp .Eq (.var 13) (.var 9)) b_parse_30 b_parse_47]
noncomputable def b_parse_49 : List MS :=
 [.ite (.cmp .Eq (.var 13) (.const (.str [40]))) b_parse_29 b_parse_48]
noncomputable def b_parse_50 : List MS :=
 [.ite (.cmp .Eq (.var 13) (.const (.str [91]))) b_parse_28 b_parse_49]
noncomputable def b_parse_51 : List MS :=
 [.ite (.cmp .Eq (.var 13) (.const (.str [123]))) b_parse_27 b_parse_50]
noncomputable def b_parse_52 : List MS :=
 [.ite (.cmp .Eq (.var 13) (.const (.str [35]))) b_parse_26 b_parse_51]
noncomputable def b_parse_53 : List MS :=
 [.ite (.cmp .Eq (.var 13) (.const (.str [64]))) b_parse_23 b_parse_52]
noncomputable def r_parse_11 : List MS :=
 [.unp [16, 23] (.call "_number_end" [(.var 0), (.var 4)]),
 .ite (.cmp .IsNot (.var 16) (.const .none)) b_parse_20 b_parse_53]
noncomputable def r_parse_12 : List MS :=
 (.asg 12 (.bin .Sub (.var 4) (.var 6)) :: .asg 3 (.var 4) :: .asg 13 (.idx (.var 0) (.var 4)) :: .ite (.cmp .In (.var 13) (.const (.str [32, 10, 9]))) b_parse_2 b_parse_15 :: r_parse_11)
noncomputable def w_parse_3 : MS :=
 .wh (.cmp .Lt (.var 4) (.var 2)) (.asg 11 (.meth .rfind (.var 0) [(.const (.str [10])), (.var 3), (.var 4)]) :: .ite (.cmp .NotEq (.var 11) (.neg (.const (.int 1)))) b_parse_1 [] :: r_parse_12) []
noncomputable def r_parse_13 : List MS :=
 [.ret (.frzS (.var 7))]
noncomputable def m_parse : List MS :=
 (.asg 0 (.repl (.repl (.repl (.repl (.var 0) [0] 65533) [13, 10] 10) [13] 10) [12] 10) :: .asg 2 (.bi .len [(.var 0)]) :: .asg2 3 4 (.const (.int 0)) :: .asg 5 (.const (.int 1)) :: .asg 6 (.neg (.const (.int 1))) :: .asg2 7 8 (.mlst []) :: .asg 9 (.const .none) :: .asg 10 (.mlst []) :: w_parse_3 :: r_parse_13)
noncomputable def v_is_name_start : List Str := ["css", "pos", "c"]
noncomputable def p_is_name_start : List Str := ["css", "pos"]
noncomputable def m_is_name_start : List MS :=
 [.asg 2 (.idx (.var 0) (.var 1)),
 .ret (.bop .Or [(.cmp .In (.var 2) (.const (.str [97, 98, 99, 100, 101, 102, 103, 104, 105, 106, 107, 108, 109, 110, 111, 112, 113, 114, 115, 116, 117, 118, 119, 120, 121, 122, 65, 66, 67, 68, 69, 70, 71, 72, 73, 74, 75, 76, 77, 78, 79, 80, 81, 82, 83, 84, 85, 86, 87, 88, 89, 90, 95]))), (.cmp .Gt (.bi .ord [(.var 2)]) (.const (.int 127)))])]
noncomputable def v_is_ident_start : List Str := ["css", "pos"]
noncomputable def p_is_ident_start : List Str := ["css", "pos"]
noncomputable def r_is_ident_start_1 : List MS :=
 [.ret (.const (.bool false))]
noncomputable def m_is_ident_start : List MS :=
 (.ite (.call "_is_name_start" [(.var 0), (.var 1)]) [.ret (.const (.bool true))] [.ite (.cmp .Eq (.idx (.var 0) (.var 1)) (.const (.str [45]))) [.aug 1 .Add (.const (.int 1)),
 .ret (.bop .Or [(.bop .And [(.cmp .Lt (.var 1) (.bi .len [(.var 0)])), (.bop .Or [(.call "_is_name_start" [(.var 0), (.var 1)]), (.cmp .Eq (.idx (.var 0) (.var 1)) (.const (.str [45])))])]), (.bop .And [(.meth .startswith (.var 0) [(.const (.str [92])), (.var 1)]), (.nt (.meth .startswith (.var 0) [(.const (.str [92, 10])), (.var 1)]))])])] [.ite (.cmp .Eq (.idx (.var 0) (.var 1)) (.const (.str [92]))) [.ret (.nt (.meth .startswith (.var 0) [(.const (.str [92, 10])), (.var 1)]))] []]] :: r_is_ident_start_1)
noncomputable def v_consume_ident : List Str := ["css", "pos", "chunks", "length", "start_pos", "c"]
noncomputable def p_consume_ident : List Str := ["css", "pos"]
noncomputable def w_consume_ident_1 : MS :=
 .wh (.cmp .Lt (.var 1) (.var 3)) [.asg 5 (.idx (.var 0) (.var 1)),
 .ite (.bop .Or [(.cmp .In (.var 5) (.const (.str [97, 98, 99, 100, 101, 102, 103, 104, 105, 106, 107, 108, 109, 110, 111, 112, 113, 114, 115, 116, 117, 118, 119, 120, 121, 122, 45, 95, 48, 49, 50, 51, 52, 53, 54, 55, 56, 57, 65, 66, 67, 68, 69, 70, 71, 72, 73, 74, 75, 76, 77, 78, 79, 80, 81, 82, 83, 84, 85, 86, 87, 88, 89, 90]))), (.cmp .Gt (.bi .ord [(.var 5)]) (.const (.int 127)))]) [.aug 1 .Add (.const (.int 1))] [.ite (.bop .And [(.cmp .Eq (.var 5) (.const (.str [92]))), (.nt (.meth .startswith (.var 0) [(.const (.str [92, 10])), (.var 1)]))]) [.expr (.app (.var 2) (.slc (.var 0) (some (.var 4)) (some (.var 1)))),
 .unp [5, 1] (.call "_consume_escape" [(.var 0), (.bin .Add (.var 1) (.const (.int 1)))]),
 .expr (.app (.var 2) (.var 5)),
 .asg 4 (.var 1)] [.brk]]] []
noncomputable def r_consume_ident_1 : List MS :=
 [.expr (.app (.var 2) (.slc (.var 0) (some (.var 4)) (some (.var 1)))),
 .ret (.tup [(.meth .join (.const (.str [])) [(.frz (.var 2))]), (.var 1)])]
noncomputable def m_consume_ident : List MS :=
 (.asg 2 (.mlst []) :: .asg 3 (.bi .len [(.var 0)]) :: .asg 4 (.var 1) :: w_consume_ident_1 :: r_consume_ident_1)
noncomputable def v_consume_quoted_string : List Str := ["css", "pos", "error", "quote", "chunks", "length", "start_pos", "c"]
noncomputable def p_consume_quoted_string : List Str := ["css", "pos"]
noncomputable def r_consume_quoted_string_1 : List MS :=
 [.asg 6 (.var 1)]
noncomputable def w_consume_quoted_string_1 : MS :=
 .wh (.cmp .Lt (.var 1) (.var 5)) [.asg 7 (.idx (.var 0) (.var 1)),
 .ite (.cmp .Eq (.var 7) (.var 3)) [.expr (.app (.var 4) (.slc (.var 0) (some (.var 6)) (some (.var 1)))),
 .aug 1 .Add (.const (.int 1)),
 .brk] [.ite (.cmp .Eq (.var 7) (.const (.str [92]))) (.expr (.app (.var 4) (.slc (.var 0) (some (.var 6)) (some (.var 1)))) :: .aug 1 .Add (.const (.int 1)) :: .ite (.cmp .Lt (.var 1) (.var 5)) [.ite (.cmp .Eq (.idx (.var 0) (.var 1)) (.const (.str [10]))) [.aug 1 .Add (.const (.int 1))] [.unp [7, 1] (.call "_consume_escape" [(.var 0), (.var 1)]),
 .expr (.app (.var 4) (.var 7))]] [] :: r_consume_quoted_string_1) [.ite (.cmp .Eq (.var 7) (.const (.str [10]))) [.ret (.tup [(.const .none), (.var 1), (.tup [(.const (.str [98, 97, 100, 45, 115, 116, 114, 105, 110, 103])), (.const (.str [66, 97, 100, 32, 115, 116, 114, 105, 110, 103, 32, 116, 111, 107, 101, 110]))])])] [.aug 1 .Add (.const (.int 1))]]]] [.asg 2 (.tup [(.const (.str [101, 111, 102, 45, 105, 110, 45, 115, 116, 114, 105, 110, 103])), (.const (.str [69, 79, 70, 32, 105, 110, 32, 115, 116, 114, 105, 110, 103]))]),
 .expr (.app (.var 4) (.slc (.var 0) (some (.var 6)) (some (.var 1))))]
noncomputable def r_consume_quoted_string_2 : List MS :=
 [.ret (.tup [(.meth .join (.const (.str [])) [(.frz (.var 4))]), (.var 1), (.var 2)])]
noncomputable def m_consume_quoted_string : List MS :=
 (.asg 2 (.const .none) :: .asg 3 (.idx (.var 0) (.var 1)) :: .asrt (.cmp .In (.var 3) (.tup [(.const (.str [34])), (.const (.str [39]))])) :: .aug 1 .Add (.const (.int 1)) :: .asg 4 (.mlst []) :: .asg 5 (.bi .len [(.var 0)]) :: .asg 6 (.var 1) :: w_consume_quoted_string_1 :: r_consume_quoted_string_2)
noncomputable def v_consume_escape : List Str := ["css", "pos", "end", "codepoint"]
noncomputable def p_consume_escape : List Str := ["css", "pos"]
noncomputable def m_consume_escape : List MS :=
 [.asg 2 (.call "_hex_end" [(.var 0), (.var 1)]),
 .ite (.cmp .Gt (.var 2) (.var 1)) [.asg 3 (.bi .int [(.slc (.var 0) (some (.var 1)) (some (.var 2))), (.const (.int 16))]),
 .ret (.tup [(.ife (.cmp2 .Lt .LtE (.const (.int 0)) (.var 3) (.const (.int 1114111))) (.bi .chr [(.var 3)]) (.const (.str [65533]))), (.ife (.cmp .In (.slc (.var 0) (some (.var 2)) (some (.bin .Add (.var 2) (.const (.int 1))))) (.tup [(.const (.str [32])), (.const (.str [10])), (.const (.str [9]))])) (.bin .Add (.var 2) (.const (.int 1))) (.var 2))])] [.ite (.cmp .Lt (.var 1) (.bi .len [(.var 0)])) [.ret (.tup [(.idx (.var 0) (.var 1)), (.bin .Add (.var 1) (.const (.int 1)))])] [.ret (.tup [(.const (.str [65533])), (.var 1)])]]]
noncomputable def v_consume_url : List Str := ["css", "pos", "error", "length", "c", "value", "chunks", "start_pos"]
noncomputable def p_consume_url : List Str := ["css", "pos"]
noncomputable def w_consume_url_1 : MS :=
 .wh (.meth .startswith (.var 0) [(.tup [(.const (.str [32])), (.const (.str [10])), (.const (.str [9]))]), (.var 1)]) [.aug 1 .Add (.const (.int 1))] []
noncomputable def b_consume_url_1 : List MS :=
 [.ret (.tup [(.const (.str [])), (.var 1), (.tup [(.const (.str [101, 111, 102, 45, 105, 110, 45, 117, 114, 108])), (.const (.str [69, 79, 70, 32, 105, 110, 32, 85, 82, 76]))])])]
noncomputable def b_consume_url_2 : List MS :=
 [.unp [5, 1, 2] (.call "_consume_quoted_string" [(.var 0), (.var 1)])]
noncomputable def b_consume_url_3 : List MS :=
 [.ret (.tup [(.const (.str [])), (.bin .Add (.var 1) (.const (.int 1))), (.var 2)])]
noncomputable def b_consume_url_4 : List MS :=
 [.expr (.app (.var 6) (.slc (.var 0) (some (.var 7)) (some (.var 1)))),
 .ret (.tup [(.meth .join (.const (.str [])) [(.frz (.var 6))]), (.var 1), (.tup [(.const (.str [101, 111, 102, 45, 105, 110, 45, 117, 114, 108])), (.const (.str [69, 79, 70, 32, 105, 110, 32, 85, 82, 76]))])])]
noncomputable def b_consume_url_5 : List MS :=
 [.expr (.app (.var 6) (.slc (.var 0) (some (.var 7)) (some (.var 1)))),
 .aug 1 .Add (.const (.int 1)),
 .ret (.tup [(.meth .join (.const (.str [])) [(.frz (.var 6))]), (.var 1), (.var 2)])]
noncomputable def b_consume_url_6 : List MS :=
 [.expr (.app (.var 6) (.slc (.var 0) (some (.var 7)) (some (.var 1)))),
 .asg 5 (.meth .join (.const (.str [])) [(.frz (.var 6))]),
 .aug 1 .Add (.const (.int 1)),
 .brk]
noncomputable def b_consume_url_7 : List MS :=
 [.expr (.app (.var 6) (.slc (.var 0) (some (.var 7)) (some (.var 1)))),
 .unp [4, 1] (.call "_consume_escape" [(.var 0), (.bin .Add (.var 1) (.const (.int 1)))]),
 .expr (.app (.var 6) (.var 4)),
 .asg 7 (.var 1)]
noncomputable def b_consume_url_8 : List MS :=
 [.asg 5 (.const .none),
 .aug 1 .Add (.const (.int 1)),
 .brk]
noncomputable def b_consume_url_9 : List MS :=
 [.aug 1 .Add (.const (.int 1))]
noncomputable def b_consume_url_10 : List MS :=
 [.ite (.cmp .In (.var 4) (.const (.str [34, 39, 40, 0, 1, 2, 3, 4, 5, 6, 7, 8, 11, 14, 15, 16, 17, 18, 19, 20, 21, 22, 23, 24, 25, 26, 27, 28, 29, 30, 31, 127]))) b_consume_url_8 b_consume_url_9]
noncomputable def b_consume_url_11 : List MS :=
 [.ite (.bop .And [(.cmp .Eq (.var 4) (.const (.str [92]))), (.nt (.meth .startswith (.var 0) [(.const (.str [92, 10])), (.var 1)]))]) b_consume_url_7 b_consume_url_10]
noncomputable def b_consume_url_12 : List MS :=
 [.ite (.cmp .In (.var 4) (.const (.str [32, 10, 9]))) b_consume_url_6 b_consume_url_11]
noncomputable def r_consume_url_1 : List MS :=
 [.asg 4 (.idx (.var 0) (.var 1)),
 .ite (.cmp .Eq (.var 4) (.const (.str [41]))) b_consume_url_5 b_consume_url_12]
noncomputable def w_consume_url_2 : MS :=
 .wh (.const (.int 1)) (.ite (.cmp .GtE (.var 1) (.var 3)) b_consume_url_4 [] :: r_consume_url_1) []
noncomputable def b_consume_url_13 : List MS :=
 [.asg 6 (.mlst []),
 .asg 7 (.var 1),
 w_consume_url_2]
noncomputable def b_consume_url_14 : List MS :=
 [.ite (.cmp .Eq (.var 4) (.const (.str [41]))) b_consume_url_3 b_consume_url_13]
noncomputable def w_consume_url_3 : MS :=
 .wh (.meth .startswith (.var 0) [(.tup [(.const (.str [32])), (.const (.str [10])), (.const (.str [9]))]), (.var 1)]) [.aug 1 .Add (.const (.int 1))] []
noncomputable def b_consume_url_15 : List MS :=
 [.ret (.tup [(.var 5), (.bin .Add (.var 1) (.const (.int 1))), (.var 2)])]
noncomputable def b_consume_url_16 : List MS :=
 [.ite (.cmp .Eq (.idx (.var 0) (.var 1)) (.const (.str [41]))) b_consume_url_15 []]
noncomputable def b_consume_url_17 : List MS :=
 [.asg 2 (.tup [(.const (.str [101, 111, 102, 45, 105, 110, 45, 117, 114, 108])), (.const (.str [69, 79, 70, 32, 105, 110, 32, 85, 82, 76]))])]
noncomputable def r_consume_url_2 : List MS :=
 [.ret (.tup [(.var 5), (.var 1), (.var 2)])]
noncomputable def b_consume_url_18 : List MS :=
 (.ite (.cmp .Is (.var 2) (.const .none)) b_consume_url_17 [] :: r_consume_url_2)
noncomputable def r_consume_url_3 : List MS :=
 [.ite (.cmp .Lt (.var 1) (.var 3)) b_consume_url_16 b_consume_url_18]
noncomputable def b_consume_url_19 : List MS :=
 (w_consume_url_3 :: r_consume_url_3)
noncomputable def b_consume_url_20 : List MS :=
 [.aug 1 .Add (.const (.int 2))]
noncomputable def b_consume_url_21 : List MS :=
 [.aug 1 .Add (.const (.int 1)),
 .brk]
noncomputable def b_consume_url_22 : List MS :=
 [.aug 1 .Add (.const (.int 1))]
noncomputable def b_consume_url_23 : List MS :=
 [.ite (.cmp .Eq (.idx (.var 0) (.var 1)) (.const (.str [41]))) b_consume_url_21 b_consume_url_22]
noncomputable def w_consume_url_4 : MS :=
 .wh (.cmp .Lt (.var 1) (.var 3)) [.ite (.meth .startswith (.var 0) [(.const (.str [92, 41])), (.var 1)]) b_consume_url_20 b_consume_url_23] []
noncomputable def r_consume_url_4 : List MS :=
 [.ret (.tup [(.const .none), (.var 1), (.tup [(.const (.str [98, 97, 100, 45, 117, 114, 108])), (.const (.str [98, 97, 100, 32, 85, 82, 76, 32, 116, 111, 107, 101, 110]))])])]
noncomputable def r_consume_url_5 : List MS :=
 (w_consume_url_4 :: r_consume_url_4)
noncomputable def r_consume_url_6 : List MS :=
 (.ite (.cmp .IsNot (.var 5) (.const .none)) b_consume_url_19 [] :: r_consume_url_5)
noncomputable def r_consume_url_7 : List MS :=
 (.asg 4 (.idx (.var 0) (.var 1)) :: .ite (.cmp .In (.var 4) (.tup [(.const (.str [34])), (.const (.str [39]))])) b_consume_url_2 b_consume_url_14 :: r_consume_url_6)
noncomputable def r_consume_url_8 : List MS :=
 (.ite (.cmp .GtE (.var 1) (.var 3)) b_consume_url_1 [] :: r_consume_url_7)
noncomputable def m_consume_url : List MS :=
 (.asg 2 (.const .none) :: .asg 3 (.bi .len [(.var 0)]) :: w_consume_url_1 :: r_consume_url_8)
noncomputable def v_Node_init : List Str := ["self", "source_line", "source_column"]
noncomputable def p_Node_init : List Str := ["self", "source_line", "source_column"]
noncomputable def m_Node_init : List MS :=
 [.setattr (.var 0) "source_line" (.var 1),
 .setattr (.var 0) "source_column" (.var 2)]
noncomputable def v_ParseError_init : List Str := ["self", "line", "column", "kind", "message"]
noncomputable def p_ParseError_init : List Str := ["self", "line", "column", "kind", "message"]
noncomputable def m_ParseError_init : List MS :=
 [.expr (.scall "Node" "__init__" [(.var 0), (.var 1), (.var 2)]),
 .setattr (.var 0) "kind" (.var 3),
 .setattr (.var 0) "message" (.var 4)]
noncomputable def v_WhitespaceToken_init : List Str := ["self", "line", "column", "value"]
noncomputable def p_WhitespaceToken_init : List Str := ["self", "line", "column", "value"]
noncomputable def m_WhitespaceToken_init : List MS :=
 [.expr (.scall "Node" "__init__" [(.var 0), (.var 1), (.var 2)]),
 .setattr (.var 0) "value" (.var 3)]
noncomputable def v_IdentToken_init : List Str := ["self", "line", "column", "value"]
noncomputable def p_IdentToken_init : List Str := ["self", "line", "column", "value"]
noncomputable def m_IdentToken_init : List MS :=
 [.expr (.scall "Node" "__init__" [(.var 0), (.var 1), (.var 2)]),
 .setattr (.var 0) "value" (.var 3),
 .try1 [.setattr (.var 0) "lower_value" (.call "ascii_lower" [(.var 3)])]]
noncomputable def v_HashToken_init : List Str := ["self", "line", "column", "value", "is_identifier"]
noncomputable def p_HashToken_init : List Str := ["self", "line", "column", "value", "is_identifier"]
noncomputable def m_HashToken_init : List MS :=
 [.expr (.scall "Node" "__init__" [(.var 0), (.var 1), (.var 2)]),
 .setattr (.var 0) "value" (.var 3),
 .setattr (.var 0) "is_identifier" (.var 4)]
noncomputable def v_StringToken_init : List Str := ["self", "line", "column", "value", "representation"]
noncomputable def p_StringToken_init : List Str := ["self", "line", "column", "value", "representation"]
noncomputable def m_StringToken_init : List MS :=
 [.expr (.scall "Node" "__init__" [(.var 0), (.var 1), (.var 2)]),
 .setattr (.var 0) "value" (.var 3),
 .setattr (.var 0) "representation" (.var 4)]
noncomputable def v_NumberToken_init : List Str := ["self", "line", "column", "value", "int_value", "representation"]
noncomputable def p_NumberToken_init : List Str := ["self", "line", "column", "value", "int_value", "representation"]
noncomputable def m_NumberToken_init : List MS :=
 [.expr (.scall "Node" "__init__" [(.var 0), (.var 1), (.var 2)]),
 .setattr (.var 0) "value" (.var 3),
 .setattr (.var 0) "int_value" (.var 4),
 .setattr (.var 0) "is_integer" (.cmp .IsNot (.var 4) (.const .none)),
 .setattr (.var 0) "representation" (.var 5)]
noncomputable def v_DimensionToken_init : List Str := ["self", "line", "column", "value", "int_value", "representation", "unit"]
noncomputable def p_DimensionToken_init : List Str := ["self", "line", "column", "value", "int_value", "representation", "unit"]
noncomputable def m_DimensionToken_init : List MS :=
 [.expr (.scall "Node" "__init__" [(.var 0), (.var 1), (.var 2)]),
 .setattr (.var 0) "value" (.var 3),
 .setattr (.var 0) "int_value" (.var 4),
 .setattr (.var 0) "is_integer" (.cmp .IsNot (.var 4) (.const .none)),
 .setattr (.var 0) "representation" (.var 5),
 .setattr (.var 0) "unit" (.var 6),
 .try1 [.setattr (.var 0) "lower_unit" (.call "ascii_lower" [(.var 6)])]]
noncomputable def v_ParenthesesBlock_init : List Str := ["self", "line", "column", "content"]
noncomputable def p_ParenthesesBlock_init : List Str := ["self", "line", "column", "content"]
noncomputable def m_ParenthesesBlock_init : List MS :=
 [.expr (.scall "Node" "__init__" [(.var 0), (.var 1), (.var 2)]),
 .setattr (.var 0) "content" (.var 3)]
noncomputable def v_FunctionBlock_init : List Str := ["self", "line", "column", "name", "arguments"]
noncomputable def p_FunctionBlock_init : List Str := ["self", "line", "column", "name", "arguments"]
noncomputable def r_FunctionBlock_init_1 : List MS :=
 [.setattr (.var 0) "arguments" (.var 4)]
noncomputable def m_FunctionBlock_init : List MS :=
 (.expr (.scall "Node" "__init__" [(.var 0), (.var 1), (.var 2)]) :: .setattr (.var 0) "name" (.var 3) :: .try1 [.setattr (.var 0) "lower_name" (.call "ascii_lower" [(.var 3)])] :: r_FunctionBlock_init_1)
noncomputable def v_law_WORTH : List Str := []
noncomputable def p_law_WORTH : List Str := []
noncomputable def m_law_WORTH : List MS :=
 [.ret (.dct [[48], [49], [50], [51], [52], [53], [54], [55], [56], [57], [97], [98], [99], [100], [101], [102], [65], [66], [67], [68], [69], [70]] [(.const (.int 0)), (.const (.int 1)), (.const (.int 2)), (.const (.int 3)), (.const (.int 4)), (.const (.int 5)), (.const (.int 6)), (.const (.int 7)), (.const (.int 8)), (.const (.int 9)), (.const (.int 10)), (.const (.int 11)), (.const (.int 12)), (.const (.int 13)), (.const (.int 14)), (.const (.int 15)), (.const (.int 10)), (.const (.int 11)), (.const (.int 12)), (.const (.int 13)), (.const (.int 14)), (.const (.int 15))])]
noncomputable def v_law_HEXED : List Str := []
noncomputable def p_law_HEXED : List Str := []
noncomputable def m_law_HEXED : List MS :=
 [.ret (.lst [(.const (.str [50, 57])), (.const (.str [50, 50])), (.const (.str [48])), (.const (.str [53, 99])), (.const (.str [48, 48, 48, 48, 52, 49])), (.const (.str [65])), (.const (.str [50, 56])), (.const (.str [49, 49, 48, 48, 48, 48])), (.const (.str [48, 49, 70, 54, 48, 48])), (.const (.str [55, 100])), (.const (.str [51, 49])), (.const (.str [50, 68])), (.const (.str [49, 48, 102, 102, 102, 102])), (.const (.str [48, 50, 55])), (.const (.str [49])), (.const (.str [70, 70, 70, 70, 70, 70]))])]
noncomputable def v_law_TAILS : List Str := []
noncomputable def p_law_TAILS : List Str := []
noncomputable def m_law_TAILS : List MS :=
 [.ret (.lst [(.const (.str [])), (.const (.str [32])), (.const (.str [10])), (.const (.str [9])), (.const (.str [13, 10])), (.const (.str [12])), (.const (.str [32, 32])), (.const (.str []))])]
noncomputable def v_law_drawn : List Str := ["script", "text", "i", "n", "piece", "row"]
noncomputable def p_law_drawn : List Str := ["script"]
noncomputable def r_law_drawn_1 : List MS :=
 [.aug 1 .Add (.var 4)]
noncomputable def r_law_drawn_2 : List MS :=
 (.ite (.bop .And [(.cmp .Eq (.slc (.var 1) (some (.neg (.const (.int 1)))) none) (.const (.str [92]))), (.cmp .Eq (.idx (.var 4) (.const (.int 0))) (.const (.str [92])))]) [.aug 1 .Add (.const (.str [120]))] [] :: r_law_drawn_1)
noncomputable def w_law_drawn_1 : MS :=
 .efor 2 3 (.slc (.var 0) none (some (.const (.int 14)))) (.asg 3 (.bin .Mod (.bin .Add (.bin .Mult (.var 3) (.const (.int 101))) (.bin .Mult (.const (.int 7)) (.var 2))) (.const (.int 1000003))) :: .ite (.cmp .Eq (.bin .Mod (.var 3) (.const (.int 16))) (.const (.int 15))) [.asg 4 (.bin .Add (.bin .Add (.const (.str [92])) (.idx (.call "_law_HEXED" []) (.bin .Mod (.bin .FloorDiv (.var 3) (.const (.int 16))) (.const (.int 16))))) (.idx (.call "_law_TAILS" []) (.bin .Mod (.bin .FloorDiv (.var 3) (.const (.int 256))) (.const (.int 8)))))] [.asg 5 (.idx (.glob "_law_PIECES" (.lst [(.lst [(.str [117, 114, 108, 40]), (.str [85, 82, 76, 40]), (.str [92, 55, 53, 32, 114, 108, 40]), (.str [117, 92, 53, 50, 108, 40]), (.str [92, 48, 48, 53, 53, 92, 55, 50, 92, 54, 67, 40]), (.str [92, 117, 114, 108, 40]), (.str [117, 114, 92, 108, 40]), (.str [92, 117, 92, 114, 92, 108, 40, 32])]), (.lst [(.str [92])]), (.lst [(.str [10]), (.str [13, 10]), (.str [13]), (.str [12])]), (.lst [(.str [32]), (.str [9]), (.str [32, 32])]), (.lst [(.str [97]), (.str [70]), (.str [52]), (.str [48]), (.str [101]), (.str [49])]), (.lst [(.str [103]), (.str [95]), (.str [45]), (.str [233]), (.str [0]), (.str [117]), (.str [108]), (.str [120])]), (.lst [(.str [34]), (.str [39])]), (.lst [(.str [35]), (.str [64])]), (.lst [(.str [40]), (.str [102, 40]), (.str [91]), (.str [123])]), (.lst [(.str [41])]), (.lst [(.str [93]), (.str [125]), (.str [41])]), (.lst [(.str [45, 45, 62]), (.str [45, 45]), (.str [45])]), (.lst [(.str [49]), (.str [45, 50]), (.str [46, 53]), (.str [51, 101, 49]), (.str [52, 101]), (.str [55, 37])]), (.lst [(.str [92, 41]), (.str [92, 40]), (.str [92, 34]), (.str [92, 39]), (.str [92, 32]), (.str [92, 92, 120]), (.str [92, 123]), (.str [92, 59])]), (.lst [(.str [44]), (.str [59]), (.str [126]), (.str [61]), (.str [124]), (.str [127]), (.str [1]), (.str [60, 33, 45, 45])])])) (.bin .Mod (.var 3) (.const (.int 16)))),
 .asg 4 (.idx (.var 5) (.bin .Mod (.bin .FloorDiv (.var 3) (.const (.int 16))) (.bi .len [(.var 5)])))] :: r_law_drawn_2)
noncomputable def r_law_drawn_3 : List MS :=
 [.ret (.var 1)]
noncomputable def m_law_drawn : List MS :=
 (.asg 1 (.const (.str [])) :: w_law_drawn_1 :: r_law_drawn_3)
noncomputable def v_law_mended : List Str := ["text", "signs", "before", "c"]
noncomputable def p_law_mended : List Str := ["text"]
noncomputable def r_law_mended_1 : List MS :=
 [.asg 2 (.var 3)]
noncomputable def w_law_mended_1 : MS :=
 .for1 3 (.var 0) (.ite (.bop .Or [(.cmp .Eq (.var 3) (.const (.str [13]))), (.cmp .Eq (.var 3) (.const (.str [12]))), (.bop .And [(.cmp .Eq (.var 3) (.const (.str [10]))), (.cmp .NotEq (.var 2) (.const (.str [13])))])]) [.expr (.app (.var 1) (.const (.str [10])))] [.ite (.cmp .NotEq (.var 3) (.const (.str [10]))) [.expr (.app (.var 1) (.ife (.cmp .Eq (.var 3) (.const (.str [0]))) (.const (.str [65533])) (.var 3)))] []] :: r_law_mended_1)
noncomputable def r_law_mended_2 : List MS :=
 [.ret (.frz (.var 1))]
noncomputable def m_law_mended : List MS :=
 (.asg 1 (.mlst []) :: .asg 2 (.const (.str [])) :: w_law_mended_1 :: r_law_mended_2)
noncomputable def v_law_places : List Str := ["signs", "places", "line", "column", "c"]
noncomputable def p_law_places : List Str := ["signs"]
noncomputable def w_law_places_1 : MS :=
 .for1 4 (.var 0) [.expr (.app (.var 1) (.tup [(.var 2), (.var 3)])),
 .aug 3 .Add (.const (.int 1)),
 .ite (.cmp .Eq (.var 4) (.const (.str [10]))) [.aug 2 .Add (.const (.int 1)),
 .asg 3 (.const (.int 1))] []]
noncomputable def r_law_places_1 : List MS :=
 [.ret (.frz (.var 1))]
noncomputable def m_law_places : List MS :=
 (.asg 1 (.mlst []) :: .asg 2 (.const (.int 1)) :: .asg 3 (.const (.int 1)) :: w_law_places_1 :: r_law_places_1)
noncomputable def v_law_escape : List Str := ["signs", "at", "number", "begin"]
noncomputable def p_law_escape : List Str := ["signs", "at"]
noncomputable def w_law_escape_1 : MS :=
 .wh (.bop .And [(.cmp .Lt (.var 1) (.bin .Add (.var 3) (.const (.int 6)))), (.cmp .Lt (.var 1) (.bi .len [(.var 0)])), (.cmp .In (.idx (.var 0) (.var 1)) (.call "_law_WORTH" []))]) [.asg 2 (.bin .Add (.bin .Mult (.const (.int 16)) (.var 2)) (.idx (.call "_law_WORTH" []) (.idx (.var 0) (.var 1)))),
 .aug 1 .Add (.const (.int 1))] []
noncomputable def r_law_escape_1 : List MS :=
 [.ret (.tup [(.ife (.cmp2 .Lt .Lt (.const (.int 0)) (.var 2) (.const (.int 1114112))) (.bi .chr [(.var 2)]) (.const (.str [65533]))), (.var 1)])]
noncomputable def r_law_escape_2 : List MS :=
 (.ite (.bop .And [(.cmp .Lt (.var 1) (.bi .len [(.var 0)])), (.cmp .In (.idx (.var 0) (.var 1)) (.lst [(.const (.str [32])), (.const (.str [9])), (.const (.str [10]))]))]) [.aug 1 .Add (.const (.int 1))] [] :: r_law_escape_1)
noncomputable def r_law_escape_3 : List MS :=
 (.ite (.cmp .Eq (.var 1) (.var 3)) [.ret (.tup [(.idx (.var 0) (.var 1)), (.bin .Add (.var 1) (.const (.int 1)))])] [] :: r_law_escape_2)
noncomputable def m_law_escape : List MS :=
 (.asg 2 (.const (.int 0)) :: .asg 3 (.var 1) :: w_law_escape_1 :: r_law_escape_3)
noncomputable def v_law_folded : List Str := ["signs", "folded", "origins", "meaning", "at", "sign", "letter"]
noncomputable def p_law_folded : List Str := ["signs"]
noncomputable def w_law_folded_1 : MS :=
 .wh (.cmp .Lt (.var 4) (.bi .len [(.var 0)])) [.expr (.app (.var 2) (.var 4)),
 .ite (.bop .Or [(.cmp .NotEq (.idx (.var 0) (.var 4)) (.const (.str [92]))), (.cmp .In (.slc (.var 0) (some (.bin .Add (.var 4) (.const (.int 1)))) (some (.bin .Add (.var 4) (.const (.int 2))))) (.lst [(.lst []), (.lst [(.const (.str [10]))])]))]) [.expr (.app (.var 1) (.idx (.var 0) (.var 4))),
 .aug 4 .Add (.const (.int 1))] [.unp [5, 4] (.call "_law_escape" [(.var 0), (.bin .Add (.var 4) (.const (.int 1)))]),
 .ite (.cmp .In (.var 5) (.lst [(.const (.str [117])), (.const (.str [85])), (.const (.str [114])), (.const (.str [82])), (.const (.str [108])), (.const (.str [76]))])) [.expr (.app (.var 1) (.var 5))] [.asg 6 (.bi .chr [(.bin .Add (.const (.int 57344)) (.lenO (.var 3)))]),
 .seti (.var 3) (.var 6) (.var 5),
 .expr (.app (.var 1) (.var 6))]]] []
noncomputable def r_law_folded_1 : List MS :=
 [.ret (.tup [(.frz (.var 1)), (.frz (.var 2)), (.frz (.var 3))])]
noncomputable def m_law_folded : List MS :=
 (.asg 1 (.mlst []) :: .asg 2 (.mlst []) :: .asg 3 (.edct false) :: .asg 4 (.const (.int 0)) :: w_law_folded_1 :: r_law_folded_1)
noncomputable def v_law_told : List Str := ["nodes", "places", "rows", "node", "kind", "place", "below", "flag", "value"]
noncomputable def b_law_told_1 : List MS :=
 [.asg 8 (.attr (.var 3) "name"),
 .asg 6 (.call "_law_told" [(.attr (.var 3) "arguments"), (.cel "meaning"), (.var 1)])]
noncomputable def b_law_told_2 : List MS :=
 [.asg 6 (.call "_law_told" [(.attr (.var 3) "content"), (.cel "meaning"), (.var 1)])]
noncomputable def b_law_told_3 : List MS :=
 [.asg 7 (.attr (.var 3) "kind")]
noncomputable def b_law_told_4 : List MS :=
 [.asg 8 (.attr (.var 3) "unit"),
 .asg 7 (.tup [(.attr (.var 3) "representation"), (.attr (.var 3) "int_value")])]
noncomputable def b_law_told_5 : List MS :=
 [.asg 7 (.tup [(.attr (.var 3) "representation"), (.attr (.var 3) "int_value")])]
noncomputable def b_law_told_6 : List MS :=
 [.asg 8 (.attr (.var 3) "value"),
 .asg 7 (.attr (.var 3) "is_identifier")]
noncomputable def b_law_told_7 : List MS :=
 [.asg 8 (.attr (.var 3) "value")]
noncomputable def b_law_told_8 : List MS :=
 [.ite (.cmp .In (.var 4) (.lst [(.const (.str [105, 100, 101, 110, 116])), (.const (.str [97, 116, 45, 107, 101, 121, 119, 111, 114, 100])), (.const (.str [115, 116, 114, 105, 110, 103])), (.const (.str [117, 114, 108])), (.const (.str [119, 104, 105, 116, 101, 115, 112, 97, 99, 101])), (.const (.str [108, 105, 116, 101, 114, 97, 108]))])) b_law_told_7 []]
noncomputable def b_law_told_9 : List MS :=
 [.ite (.cmp .Eq (.var 4) (.const (.str [104, 97, 115, 104]))) b_law_told_6 b_law_told_8]
noncomputable def b_law_told_10 : List MS :=
 [.ite (.bop .Or [(.cmp .Eq (.var 4) (.const (.str [110, 117, 109, 98, 101, 114]))), (.cmp .Eq (.var 4) (.const (.str [112, 101, 114, 99, 101, 110, 116, 97, 103, 101])))]) b_law_told_5 b_law_told_9]
noncomputable def b_law_told_11 : List MS :=
 [.ite (.cmp .Eq (.var 4) (.const (.str [100, 105, 109, 101, 110, 115, 105, 111, 110]))) b_law_told_4 b_law_told_10]
noncomputable def b_law_told_12 : List MS :=
 [.ite (.cmp .Eq (.var 4) (.const (.str [101, 114, 114, 111, 114]))) b_law_told_3 b_law_told_11]
noncomputable def b_law_told_13 : List MS :=
 [.ite (.cmp .In (.var 4) (.lst [(.const (.str [40, 41, 32, 98, 108, 111, 99, 107])), (.const (.str [91, 93, 32, 98, 108, 111, 99, 107])), (.const (.str [123, 125, 32, 98, 108, 111, 99, 107]))])) b_law_told_2 b_law_told_12]
noncomputable def r_law_told_1 : List MS :=
 [.asg 8 (.meth .join (.const (.str [])) [(.comp "c" (.meth .get (.cel "meaning") [(.var 0), (.var 0)]) (.var 8))]),
 .expr (.app (.var 2) (.tup [(.var 4), (.meth .get (.var 1) [(.var 5), (.var 5)]), (.var 8), (.var 7), (.var 6)]))]
noncomputable def w_law_told_1 : MS :=
 .for1 3 (.var 0) (.asg 4 (.attr (.var 3) "type") :: .asg 5 (.tup [(.attr (.var 3) "source_line"), (.attr (.var 3) "source_column")]) :: .asg 6 (.const .none) :: .asg 7 (.const .none) :: .asg 8 (.const (.str [])) :: .ite (.cmp .Eq (.var 4) (.const (.str [102, 117, 110, 99, 116, 105, 111, 110]))) b_law_told_1 b_law_told_13 :: r_law_told_1)
noncomputable def r_law_told_2 : List MS :=
 [.ret (.frz (.var 2))]
noncomputable def m_law_told : List MS :=
 (.asg 2 (.mlst []) :: w_law_told_1 :: r_law_told_2)
noncomputable def v_law : List Str := ["script", "text", "signs", "folded", "origins", "meaning", "spots", "places", "i", "place", "known"]
noncomputable def p_law : List Str := ["script"]
noncomputable def w_law_1 : MS :=
 .efor 8 9 (.call "_law_places" [(.var 3)]) [.seti (.var 7) (.var 9) (.idx (.var 6) (.idx (.var 4) (.var 8)))]
noncomputable def r_law_1 : List MS :=
 [.asg 10 (.call "_law_told" [(.call "parse_component_value_list" [(.meth .join (.const (.str [])) [(.var 3)])]), (.var 5), (.frz (.var 7))]),
 .ret (.cmp .Eq (.call "_law_told" [(.call "parse_component_value_list" [(.var 1)]), (.frz (.edct false)), (.frz (.edct true))]) (.var 10))]
noncomputable def m_law : List MS :=
 (.asg 1 (.call "_law_drawn" [(.var 0)]) :: .asg 2 (.call "_law_mended" [(.var 1)]) :: .unp [3, 4, 5] (.call "_law_folded" [(.var 2)]) :: .asg 6 (.call "_law_places" [(.var 2)]) :: .asg 7 (.edct true) :: w_law_1 :: r_law_1)
end Mine
end
section
set_option maxHeartbeats 0
namespace Mine
open PySem PySem.W
noncomputable def topRunT (tb : String → Option Builtin) (p : Program) (w : World) (n₀ : Nat) (ann : Option Value) : Nat → SharedT → Thread → Option SharedT
  | 0, _, _ => none
  | n + 1, s, t => match through t with
    | true => some s
    | false => match stepOk n₀ ann t with
      | false => none
      | true => match stepT (denote tb) p w s t with
        | some (s', t') => topRunT tb p w n₀ ann n s' t'
        | none => none
theorem topRunT_spec {tb : String → Option Builtin} {p : Program} {w : World} {n₀ : Nat} {ann : Option Value} : ∀ {n : Nat} {s s' : SharedT} {t : Thread}, topRunT tb p w n₀ ann n s t = some s' → topRun tb p w n₀ ann n s.abs t = some s'.abs
  | 0, _, _, _, h => by cases h
  | n + 1, s, s', t, h => by
    unfold topRunT at h
    unfold topRun
    cases ht : through t with
    | true => rw [ht] at h; cases h; rfl
    | false =>
      rw [ht] at h
      dsimp only at h ⊢
      cases hk : stepOk n₀ ann t with
      | false => rw [hk] at h; cases h
      | true =>
        rw [hk] at h
        dsimp only at h ⊢
        cases hs : stepT (denote tb) p w s t with
        | none => rw [hs] at h; cases h
        | some r => obtain ⟨s₂, t₂⟩ := r; rw [hs] at h; rw [stepT_spec hs]; exact topRunT_spec h
noncomputable def tree0 (P : Params) : BT := ((boot_heap P).objs.toList.foldl (fun (x : BT × Nat) o => (x.1.ins x.2 o, x.2 + 1)) (BT.nil, 0)).1
noncomputable def S0T (w : World) (os : OsState) : SharedT := ⟨tree0 w.params, 11, {}, Array.mk [], boot_drawn, boot_toks, os⟩
noncomputable def lawView (p : Program) : Program := { p with main := { p.main with body := p.main.body.drop 49 } }
noncomputable def lawLoose (p : Program) : List Str := p.boundNames.filter fun n => !(n == ("law" : Str))
noncomputable def looks (p : Program) (H₀ : Heap) (s : Shared) :=
  (staticsOk (importedModules p.main.body) H₀ s.heap && namesBound p s.heap && gensDone s && laidKept H₀ s.heap, openSeen (lawView p) (lawLoose p) (importedModules p.main.body) (fun s => xlAt (lawView p) [] s && recOk [] s) true s)
noncomputable def headR {α : Type} (chk : Shared → α) (p : Program) (S : SharedT) (H₀ : Heap) (w : World) :=
  (topRunT treeTable p w 11 (some (.ref 6)) 8000 S (topStub p)).map fun s => (looks p H₀ s.abs, chk s.abs)
theorem S0_abs (w : World) (os : OsState) : (S0T w os).abs = ⟨boot_heap w.params, Array.mk [], boot_drawn, boot_toks, os⟩ := by kernel_rfl
theorem boot_ns (P : Params) : ((boot_heap P).isNs mainGlobals, (boot_heap P).objs.size, (boot_heap P).nsMap mainGlobals "__annotations__") = (true, 11, some (.ref 6)) := by kernel_rfl
theorem left_ok {p : Program} {α : Type} {chk : Shared → α} {Ya : World → α} (hopen : opening p = plainProg p.main.scope.names) (hf : ∀ s, fenceModules? p s = some s)
    (h : ∀ (b : Bool) (w : World) (os : OsState), headR chk p (S0T (w.withFollow "special-get-raises" b) os) (boot_heap (w.withFollow "special-get-raises" b).params) (w.withFollow "special-get-raises" b) = some ((true, openGood (lawView p) (lawLoose p)), Ya (w.withFollow "special-get-raises" b))) :
    LeftO p (lawView p) (lawLoose p) (fun s => xlAt (lawView p) [] s && recOk [] s) chk Ya 8000 := by
  intro w
  have key : ∀ os, headR chk p (S0T w os) (boot_heap w.params) w = some ((true, openGood (lawView p) (lawLoose p)), Ya w) := by
    intro os
    have := h (w.params.followText "special-get-raises") w os
    rwa [World.withFollow_self] at this
  have ho := boot_open (p := p) (N := 8000) hopen rfl hf w
  unfold openEnds
  cases hfo : fencedOpening treeTable p w 8000 with
  | none => rw [hfo] at ho; cases ho
  | some s₀ =>
    rw [hfo] at ho
    obtain ⟨hp, gs, dr, tk, os⟩ := s₀
    simp only [Option.map_some, Option.some.injEq, Prod.mk.injEq] at ho
    obtain ⟨rfl, rfl, rfl, rfl⟩ := ho
    have k := key os
    unfold headR at k
    cases hr : topRunT treeTable p w 11 (some (.ref 6)) 8000 (S0T w os) (topStub p) with
    | none => rw [hr] at k; cases k
    | some sT =>
      rw [hr] at k
      have e := Option.some.inj k
      have k3 : chk sT.abs = Ya w := congrArg Prod.snd e
      have k12 : looks p (boot_heap w.params) sT.abs = _ := congrArg Prod.fst e
      have k1 : (staticsOk (importedModules p.main.body) (boot_heap w.params) sT.abs.heap && namesBound p sT.abs.heap && gensDone sT.abs && laidKept (boot_heap w.params) sT.abs.heap) = true := congrArg Prod.fst k12
      have k2 : openSeen (lawView p) (lawLoose p) (importedModules p.main.body) (fun s => xlAt (lawView p) [] s && recOk [] s) true sT.abs = openGood (lawView p) (lawLoose p) := congrArg Prod.snd k12
      have hs := topRunT_spec hr
      rw [S0_abs] at hs
      have hb := boot_ns w.params
      simp only [Prod.mk.injEq] at hb
      obtain ⟨b1, b2, b3⟩ := hb
      show ((topFrom treeTable p w 8000 ⟨boot_heap w.params, Array.mk [], boot_drawn, boot_toks, os⟩).map _) = _
      unfold topFrom
      dsimp only
      rw [b1, b2, b3]
      show (((topRun treeTable p w 11 (some (.ref 6)) 8000 _ (topStub p)).bind _).map _) = _
      rw [hs]
      rw [Option.bind_some, k1]
      simp only [Option.map_some, Option.some.injEq, Prod.mk.injEq]
      exact ⟨k2, k3⟩
end Mine
end
section
set_option maxHeartbeats 0
namespace Mine
open PySem PySem.W
noncomputable def runX (p : Program) (S : SharedT) (w : World) := topRunT treeTable p w 11 (some (.ref 6)) 8000 S (topStub p)
lay_quick runX
end Mine
end
section
namespace Mine
open PySem PySem.W PySem.Calls PyProof.Rows PySem.Builtin PySem.Builtin.Str PySem.NumText
noncomputable def plainPar (fd : FuncData) (ps : List Str) : Bool := fd.params.posonlyargs.isEmpty && fd.params.kwonlyargs.isEmpty && fd.params.vararg.isNone && fd.params.kwarg.isNone && fd.params.args.map (·.arg) == ps
noncomputable def gt (h : Heap) (ps : List Addr) (a : Addr) : Option Obj := if ps.contains a then none else h.get? a
noncomputable def cutH (h : Heap) (ps : List Addr) : Heap := { h with objs := h.objs.mapIdx fun a o => if ps.contains a then { o with data := .freed } else o }
noncomputable def frag (h : Heap) (ps as : List Addr) : Frag := as.filterMap fun a => (gt h ps a).map (a, ·)
noncomputable def rRef (v : Value) : Option { a : Addr // v = .ref a } := match v with
  | .ref a => some ⟨a, rfl⟩
  | _ => none
noncomputable def rStr (v : Value) : Option { q : Str × Tok // v = .str q.1 q.2 } := match v with
  | .str a b => some ⟨(a, b), rfl⟩
  | _ => none
noncomputable def rInt (v : Value) : Option { q : Int × Tok // v = .int q.1 q.2 } := match v with
  | .int a b => some ⟨(a, b), rfl⟩
  | _ => none
noncomputable def rBool (v : Value) : Option { b : Bool // v = .bool b } := match v with
  | .bool b => some ⟨b, rfl⟩
  | _ => none
noncomputable def dFun (d : Data) : Option { f : FuncData // d = .func f } := match d with
  | .func f => some ⟨f, rfl⟩
  | _ => none
noncomputable def dFields (d : Data) : Option { f : Array Value // d = .fields f } := match d with
  | .fields f => some ⟨f, rfl⟩
  | _ => none
noncomputable def dSeq (d : Data) : Option { q : Array Value × Nat // d = .seq q.1 q.2 } := match d with
  | .seq a b => some ⟨(a, b), rfl⟩
  | _ => none
noncomputable def dDict (d : Data) : Option { q : Array DictEntry × Nat // d = .dict q.1 q.2 } := match d with
  | .dict a b => some ⟨(a, b), rfl⟩
  | _ => none
noncomputable def dPlain (d : Data) : Option { _u : Unit // d = .plain } := match d with
  | .plain => some ⟨(), rfl⟩
  | _ => none
noncomputable def fVal (r : PySem.Builtin.ObjectAttr.Found) : Option { v : Value // r = .value v } := match r with
  | .value v => some ⟨v, rfl⟩
  | _ => none
noncomputable def fCls (r : CFound) : Option { v : Value // r = .val v } := match r with
  | .val v => some ⟨v, rfl⟩
  | _ => none
noncomputable def bStm (b : FuncBody) : Option { l : List Stmt // b = .stmts l } := match b with
  | .stmts l => some ⟨l, rfl⟩
  | _ => none
section
variable (K : Frag)
noncomputable def strVal (s : Str) : Option AttR := if (s.cps.toList.all (· < 1114112) && decide (s.cps.size ≤ 1000)) = true then some (.val (.str s.cps.toList)) else none
noncomputable def attSlot (C : Addr) (nm : Str) : Option AttR := (vS (findIn K (.ref C) nm)).bind fun f => (vS f.1).bind fun v => (rRef v.1).bind fun p =>
  if (specialIn K (.ref p.1) "__get__" == some (some (.builtin "member_descriptor.__get__")) && takesIn K (.ref p.1) == some true) = true then (slotIn K p.1 C).map .slot else none
noncomputable def attVal (C : Addr) (nm : Str) : Option AttR := (vS (findObj K C (some emptyDict) nm)).bind fun r => (fVal r.1).bind fun x => (rStr x.1).bind fun s => strVal s.1.1
noncomputable def attOf (C : Addr) (nm : Str) : Option AttR := if (plainGet K C nm && isClsIn K C) = true then (attSlot K C nm).or (attVal K C nm) else none
noncomputable def satOf (C : Addr) (nm : Str) : Option Nat :=
  if (findIn K (.ref C) "__setattr__" == some (some (.builtin "object.__setattr__")) && plainOver K C) = true then
    (vS (takerIn K C nm)).bind fun t => (vS t.1).bind fun v => (rRef v.1).bind fun p => if (typeIn K (.ref p.1) == some (.type "member_descriptor")) = true then (slotIn K p.1 C).bind fun i => if decide (i < 1000) = true then some i else none else none
  else none
noncomputable def statOf (h : Heap) (cls nm : Str) : Option Value := (vS (h.nsMap mainGlobals cls)).bind fun c => (rRef c.1).bind fun C =>
  if (specialIn K (.ref C.1) "__getattribute__" == some (some (.builtin "type.__getattribute__")) && readsIn K C.1 (.type "type")) = true then
    (vS (findCls K (.ref C.1) (.type "type") nm)).bind fun r => (fCls r.1).bind fun fv => if handedIn fv.1 = true then some fv.1 else none
  else none
end
noncomputable def funAt (g : Addr → Option Obj) (fv : Value) : Option FuncData := (rRef fv).bind fun a => (vS (g a.1)).bind fun o => (dFun o.1.data).map (·.1)
noncomputable def codeAt (g : Addr → Option Obj) (cd : Value) (q : Str) : Bool := (rRef cd).any fun c => (vS (g c.1)).any fun o => (dFields o.1.data).any fun vs => (vS (vs.1[1]? : Option Value)).any fun n => (rStr n.1).any fun m => m.1.1 == q
noncomputable def fdChk (g : Addr → Option Obj) (fd : FuncData) (ps vars : List Str) (ms : List MS) : Bool :=
  [codeAt g fd.code fd.qualname, !fd.scope.isCoroutine, !fd.scope.isGenerator, fd.scope.kind == .function, fd.globals == mainGlobals, fd.builtins == builtinsNs,
  fd.scope.names.all (fun x => !(x.2 == .cell)), vars.all (fun x => fd.scope.names.lookup x == some .local && !(x == ("__debug__" : Str))),
  plainPar fd ps, (bStm fd.body).any fun body => chkSs ms fd.scope vars body.1, decide vars.Nodup, ps.isPrefixOf vars].all fun x => x
noncomputable def fnChk (g : Addr → Option Obj) (fv : Value) (ps vars : List Str) (ms : List MS) : Bool := (vS (funAt g fv)).any fun fd => fdChk g fd.1 ps vars ms && fd.1.defaults == .none
noncomputable def fnChk1 (g : Addr → Option Obj) (fv : Value) (a b : Str) (vars : List Str) (ms : List MS) : Bool := (vS (funAt g fv)).any fun fd => fdChk g fd.1 [a, b] vars ms && !(a == b) &&
  (rRef fd.1.defaults).any fun t => (vS (g t.1)).any fun o => (dSeq o.1.data).any fun q => q.1.1 == #[.bool false]
noncomputable def cellChk (g : Addr → Option Obj) (fv : Value) (x cn y : Str) (vars : List Str) (ms : List MS) : Bool := (vS (funAt g fv)).any fun fd =>
  [codeAt g fd.1.code fd.1.qualname, !fd.1.scope.isCoroutine, !fd.1.scope.isGenerator, fd.1.scope.kind == .function, fd.1.globals == mainGlobals, fd.1.builtins == builtinsNs, fd.1.closure.isEmpty,
  fd.1.scope.names.all (fun k => !(k.2 == .cell) || k.1 == cn), fd.1.scope.names.lookup cn == some .cell, vars.all (fun k => fd.1.scope.names.lookup k == some .local && !(k == ("__debug__" : Str))),
  plainPar fd.1 [x, cn, y], fd.1.defaults == .none, (bStm fd.1.body).any fun body => chkSs ms fd.1.scope vars body.1, decide vars.Nodup, decide [x, cn, y].Nodup, [x, y].isPrefixOf vars].all fun x => x
noncomputable def clsChk (g : Addr → Option Obj) (K : Frag) (C : Addr) (ps vars : List Str) (ms : List MS) (own : List Str) : Bool :=
  makesIn K C && ((vS (findIn K (.ref C) "__init__")).any fun i => (vS i.1).any fun v => (rRef v.1).any fun f => typeIn K (.ref f.1) == some (.type "function") && fnChk g (.ref f.1) ps vars ms) &&
    ((own ++ [("source_column" : Str), ("source_line" : Str)]).zipIdx.all fun x => satOf K C x.1 == some x.2)
noncomputable def isSlot (i : Nat) : AttR → Bool
  | .slot j => j == i
  | _ => false
noncomputable def isTp (tp : List Nat) : AttR → Bool
  | .val (.str s) => s == tp
  | _ => false
noncomputable def tellChk (K : Frag) (C : Addr) (tp : List Nat) (fs : List Str) : Bool :=
  ((vS (attOf K C "type")).any fun r => isTp tp r.1) && fs.zipIdx.all fun x => (vS (attOf K C x.1)).any fun r => isSlot x.2 r.1
noncomputable def val (h : Heap) (nm : Str) : Value := (h.nsMap mainGlobals nm).getD .none
noncomputable def adr (h : Heap) (nm : Str) : Addr := ((h.nsMap mainGlobals nm).bind fun v => (rRef v).map (·.1)).getD 0
noncomputable def strIs (s : List Nat) (v : Value) : Bool := ((rStr v).any fun q => q.1.1 == sOf s) && s.all (· < 1114112) && decide (s.length ≤ 1000)
noncomputable def strsAre : List (List Nat) → List Value → Bool
  | [], vs => nil vs
  | s :: ss, vs => match vs with
    | [] => false
    | v :: vs => strIs s v && strsAre ss vs
noncomputable def seqChk (g : Addr → Option Obj) (k : String) (ss : List (List Nat)) (v : Value) : Bool := (rRef v).any fun a => (vS (g a.1)).any fun o => (dSeq o.1.data).any fun q =>
  (o.1.cls == .type k && o.1.dict.isNone && o.1.slots.isEmpty) && strsAre ss q.1.1.toList && decide (ss.length ≤ 1000)
noncomputable def rowsAre (g : Addr → Option Obj) : List (List (List Nat)) → List Value → Bool
  | [], vs => nil vs
  | s :: ss, vs => match vs with
    | [] => false
    | v :: vs => seqChk g "list" s v && rowsAre g ss vs
noncomputable def rowsChk (g : Addr → Option Obj) (ss : List (List (List Nat))) (v : Value) : Bool := (rRef v).any fun a => (vS (g a.1)).any fun o => (dSeq o.1.data).any fun q =>
  (o.1.cls == .type "list" && o.1.dict.isNone && o.1.slots.isEmpty) && rowsAre g ss q.1.1.toList && decide (ss.length ≤ 1000)
noncomputable def dictAt (g : Addr → Option Obj) (v : Value) : List DictEntry := (((rRef v).bind fun a => (vS (g a.1)).bind fun o => (dDict o.1.data).map fun q => q.1.1.toList)).getD []
noncomputable def dctChk (g : Addr → Option Obj) (ks vs : List (List Nat)) (v : Value) : Bool := (rRef v).any fun a => (vS (g a.1)).any fun o => (dDict o.1.data).any fun q =>
  !(a.1 == sysModules) && (o.1.cls == .type "dict" && o.1.dict.isNone && o.1.slots.isEmpty) && strsAre ks (q.1.1.toList.map (·.key)) && strsAre vs (q.1.1.toList.map (·.val)) && decide (ks.length ≤ 1000)
noncomputable def tripF : Nat → List Value → Bool
  | 0, _ => false
  | n + 1, l => match l with
    | [] => true
    | a :: r => (rInt a).isSome && (match r with
      | [] => false
      | b :: r => (rInt b).isSome && (match r with
        | [] => false
        | _ :: r => tripF n r))
noncomputable def tripB (l : List Value) : Bool := tripF (l.length + 1) l
noncomputable def tabP (h : Heap) (c p : Addr) : Option (Addr × Addr × Array Value) := (vS (h.get? p)).bind fun t => (dFields t.1.data).bind fun ps => if (t.1.cls == .none && t.1.dict.isNone && t.1.slots.isEmpty && tripB ps.1.toList) = true then some (c, p, ps.1) else none
noncomputable def tabC (h : Heap) (c : Addr) : Option (Addr × Addr × Array Value) := (vS (h.get? c)).bind fun o => (dFields o.1.data).bind fun vs => (vS (vs.1[11]? : Option Value)).bind fun v => (rRef v.1).bind fun p => tabP h c p.1
noncomputable def tabOf (h : Heap) (nm : Str) : Option (Addr × Addr × Array Value) := (funAt h.get? (val h nm)).bind fun fd => (rRef fd.code).bind fun c => tabC h c.1
noncomputable def codeHeadChk (g : Addr → Option Obj) (c p : Addr) : Bool := (vS (g c)).any fun o => (dFields o.1.data).any fun vs => (rStr (vs.1.getD 18 .none)).any fun a => (rInt (vs.1.getD 7 .none)).any fun b => (rBool (vs.1.getD 9 .none)).any fun d => (rInt (vs.1.getD 10 .none)).any fun e =>
  !(c == p) && o.1.cls == .type "code" && (vs.1[11]? : Option Value) == some (.ref p) && vs.1.getD 11 .none == .ref p
noncomputable def joinFnChk (g : Addr → Option Obj) (fv : Value) (ge : GE) (vn : Str) (c : Addr) : Bool := fnChk g fv [vn] [vn] [.ret .bad] && ((vS (funAt g fv)).any fun fd => fd.1.code == .ref c && (bStm fd.1.body).any fun b => joinChk ge vn b.1)
noncomputable def biAll : List Bi := [.len, .ord, .chr, .int]
noncomputable def goodMC (h : Heap) (ps : List Addr) : Bool := (vS (h.nsMap mainGlobals "__builtins__")).any fun v => (rRef v.1).any fun b => (vS (gt h ps b.1)).any fun o =>
  !(b.1 == builtinsNs) && o.1.cls == .type "module" && o.1.dict == some builtinsNs && (dPlain o.1.data).isSome
noncomputable def goodChk (h : Heap) (ps : List Addr) : Bool :=
  h.isNs mainGlobals && h.isNs builtinsNs && h.isNs cStatics && !ps.contains mainGlobals && !ps.contains builtinsNs && !ps.contains cStatics && h.nsMap cStatics "sys.recursionlimit" == none &&
  biAll.all (fun f => h.nsMap mainGlobals f.name == none && h.nsMap builtinsNs f.name == some f.val) && h.nsMap mainGlobals "enumerate" == none && h.nsMap builtinsNs "enumerate" == some (.type "enumerate") &&
  (gt h ps sysModules).isSome && goodMC h ps
noncomputable def base (prog : Program) (w : World) (os : OsState) (h : Heap) (ts : List (Addr × Addr × Array Value)) : Base := ⟨prog, w, cutH h (ts.map (·.2.1)), os, h.nsMap mainGlobals, h.nsMap builtinsNs, ts⟩
noncomputable def nmChk (h : Heap) (g : Addr → Option Obj) (nm : Str) (ps vars : List Str) (ms : List MS) : Bool := (h.nsMap mainGlobals nm).isSome && fnChk g (val h nm) ps vars ms
noncomputable def lookAt (h : Heap) (cs : List Str) : List Addr := cStatics :: cs.flatMap fun n => adr h n :: (match h.get? (adr h n) with
  | some ⟨_, _, .cls cd, _⟩ => cd.ns :: (match h.get? cd.ns with
      | some ⟨_, _, .dict es _, _⟩ => es.toList.filterMap fun e => (match e.val with | .ref a => some a | _ => none)
      | _ => [])
  | _ => [])
noncomputable def fns09 : List (Str × List Str × List Str × List MS) := [
  ("ascii_lower", p_ascii_lower, v_ascii_lower, m_ascii_lower),
  ("_number_end", p_number_end, v_number_end, m_number_end),
  ("_hex_end", p_hex_end, v_hex_end, m_hex_end),
  ("_is_name_start", p_is_name_start, v_is_name_start, m_is_name_start),
  ("_is_ident_start", p_is_ident_start, v_is_ident_start, m_is_ident_start),
  ("_consume_ident", p_consume_ident, v_consume_ident, m_consume_ident),
  ("_consume_quoted_string", p_consume_quoted_string, v_consume_quoted_string, m_consume_quoted_string),
  ("_consume_escape", p_consume_escape, v_consume_escape, m_consume_escape),
  ("_consume_url", p_consume_url, v_consume_url, m_consume_url),
  ("_law_WORTH", p_law_WORTH, v_law_WORTH, m_law_WORTH),
  ("_law_HEXED", p_law_HEXED, v_law_HEXED, m_law_HEXED),
  ("_law_TAILS", p_law_TAILS, v_law_TAILS, m_law_TAILS),
  ("_law_drawn", p_law_drawn, v_law_drawn, m_law_drawn),
  ("_law_mended", p_law_mended, v_law_mended, m_law_mended),
  ("_law_places", p_law_places, v_law_places, m_law_places),
  ("_law_escape", p_law_escape, v_law_escape, m_law_escape),
  ("_law_folded", p_law_folded, v_law_folded, m_law_folded),
  ("law", p_law, v_law, m_law)]
noncomputable def cls09 : List (Str × List Str × List Str × List MS × List Str) := [
  ("WhitespaceToken", p_WhitespaceToken_init, v_WhitespaceToken_init, m_WhitespaceToken_init, ["value"]),
  ("LiteralToken", p_WhitespaceToken_init, v_WhitespaceToken_init, m_WhitespaceToken_init, ["value"]),
  ("IdentToken", p_IdentToken_init, v_IdentToken_init, m_IdentToken_init, ["lower_value", "value"]),
  ("AtKeywordToken", p_IdentToken_init, v_IdentToken_init, m_IdentToken_init, ["lower_value", "value"]),
  ("HashToken", p_HashToken_init, v_HashToken_init, m_HashToken_init, ["is_identifier", "value"]),
  ("StringToken", p_StringToken_init, v_StringToken_init, m_StringToken_init, ["representation", "value"]),
  ("NumberToken", p_NumberToken_init, v_NumberToken_init, m_NumberToken_init, ["int_value", "is_integer", "representation", "value"]),
  ("PercentageToken", p_NumberToken_init, v_NumberToken_init, m_NumberToken_init, ["int_value", "is_integer", "representation", "value"]),
  ("DimensionToken", p_DimensionToken_init, v_DimensionToken_init, m_DimensionToken_init, ["int_value", "is_integer", "lower_unit", "representation", "unit", "value"]),
  ("ParseError", p_ParseError_init, v_ParseError_init, m_ParseError_init, ["kind", "message"]),
  ("URLToken", p_StringToken_init, v_StringToken_init, m_StringToken_init, ["representation", "value"]),
  ("ParenthesesBlock", p_ParenthesesBlock_init, v_ParenthesesBlock_init, m_ParenthesesBlock_init, ["content"]),
  ("SquareBracketsBlock", p_ParenthesesBlock_init, v_ParenthesesBlock_init, m_ParenthesesBlock_init, ["content"]),
  ("CurlyBracketsBlock", p_ParenthesesBlock_init, v_ParenthesesBlock_init, m_ParenthesesBlock_init, ["content"]),
  ("FunctionBlock", p_FunctionBlock_init, v_FunctionBlock_init, m_FunctionBlock_init, ["arguments", "lower_name", "name"])]
noncomputable def names09 : List Str := ["Node", "WhitespaceToken", "LiteralToken", "IdentToken", "AtKeywordToken", "HashToken", "StringToken", "NumberToken", "PercentageToken", "DimensionToken", "ParseError", "URLToken", "ParenthesesBlock", "SquareBracketsBlock", "CurlyBracketsBlock", "FunctionBlock"]
noncomputable def tell09 : List (Str × List Nat × List Str) := [
  ("WhitespaceToken", [119, 104, 105, 116, 101, 115, 112, 97, 99, 101], ["value", "source_column", "source_line"]),
  ("LiteralToken", [108, 105, 116, 101, 114, 97, 108], ["value", "source_column", "source_line"]),
  ("IdentToken", [105, 100, 101, 110, 116], ["lower_value", "value", "source_column", "source_line"]),
  ("AtKeywordToken", [97, 116, 45, 107, 101, 121, 119, 111, 114, 100], ["lower_value", "value", "source_column", "source_line"]),
  ("HashToken", [104, 97, 115, 104], ["is_identifier", "value", "source_column", "source_line"]),
  ("StringToken", [115, 116, 114, 105, 110, 103], ["representation", "value", "source_column", "source_line"]),
  ("NumberToken", [110, 117, 109, 98, 101, 114], ["int_value", "is_integer", "representation", "value", "source_column", "source_line"]),
  ("PercentageToken", [112, 101, 114, 99, 101, 110, 116, 97, 103, 101], ["int_value", "is_integer", "representation", "value", "source_column", "source_line"]),
  ("DimensionToken", [100, 105, 109, 101, 110, 115, 105, 111, 110], ["int_value", "is_integer", "lower_unit", "representation", "unit", "value", "source_column", "source_line"]),
  ("ParseError", [101, 114, 114, 111, 114], ["kind", "message", "source_column", "source_line"]),
  ("URLToken", [117, 114, 108], ["representation", "value", "source_column", "source_line"]),
  ("ParenthesesBlock", [40, 41, 32, 98, 108, 111, 99, 107], ["content", "source_column", "source_line"]),
  ("SquareBracketsBlock", [91, 93, 32, 98, 108, 111, 99, 107], ["content", "source_column", "source_line"]),
  ("CurlyBracketsBlock", [123, 125, 32, 98, 108, 111, 99, 107], ["content", "source_column", "source_line"]),
  ("FunctionBlock", [102, 117, 110, 99, 116, 105, 111, 110], ["arguments", "lower_name", "name", "source_column", "source_line"])]
noncomputable def ksS : List (List Nat) := [[34], [92], [10], [13], [12]]
noncomputable def vsS : List (List Nat) := [[92, 34], [92, 92], [92, 65, 32], [92, 68, 32], [92, 67, 32]]
noncomputable def gS : GE := .get "_replacement_string_value" ksS vsS
noncomputable def gU : GE := .ifeq [39] (.str [92, 39]) (.ifeq [34] (.str [92, 34]) (.ifeq [92] (.str [92, 92]) (.ifeq [32] (.str [92, 32]) (.ifeq [9] (.str [92, 57, 32]) (.ifeq [10] (.str [92, 65, 32]) (.ifeq [13] (.str [92, 68, 32]) (.ifeq [12] (.str [92, 67, 32]) (.ifeq [40] (.str [92, 40]) (.ifeq [41] (.str [92, 41]) .arg)))))))))
noncomputable def digsL : List (List Nat) := [[48], [49], [50], [51], [52], [53], [54], [55], [56], [57]]
noncomputable def L_pieces : List (List (List Nat)) := [[[117, 114, 108, 40], [85, 82, 76, 40], [92, 55, 53, 32, 114, 108, 40], [117, 92, 53, 50, 108, 40], [92, 48, 48, 53, 53, 92, 55, 50, 92, 54, 67, 40], [92, 117, 114, 108, 40], [117, 114, 92, 108, 40], [92, 117, 92, 114, 92, 108, 40, 32]],
  [[92]], [[10], [13, 10], [13], [12]], [[32], [9], [32, 32]], [[97], [70], [52], [48], [101], [49]], [[103], [95], [45], [233], [0], [117], [108], [120]], [[34], [39]], [[35], [64]], [[40], [102, 40], [91], [123]], [[41]], [[93], [125], [41]], [[45, 45, 62], [45, 45], [45]],
  [[49], [45, 50], [46, 53], [51, 101, 49], [52, 101], [55, 37]], [[92, 41], [92, 40], [92, 34], [92, 39], [92, 32], [92, 92, 120], [92, 123], [92, 59]], [[44], [59], [126], [61], [124], [127], [1], [60, 33, 45, 45]]]
noncomputable def part09 (h : Heap) (c1 p1 c2 p2 : Addr) (g : Addr → Option Obj) (K : Frag) : List Bool :=
  [goodChk h [p1, p2], fns09.all (fun x => nmChk h g x.1 x.2.1 x.2.2.1 x.2.2.2), (h.nsMap mainGlobals "parse_component_value_list").isSome && fnChk1 g (val h "parse_component_value_list") "css" "skip_comments" v_parse m_parse,
   cls09.all (fun x => h.nsMap mainGlobals x.1 == some (.ref (adr h x.1)) && clsChk g K (adr h x.1) x.2.1 x.2.2.1 x.2.2.2.1 x.2.2.2.2),
   tell09.all (fun x => tellChk K (adr h x.1) x.2.1 x.2.2), (match statOf K h "Node" "__init__" with | some fv => fnChk g fv p_Node_init v_Node_init m_Node_init | none => false),
   (h.nsMap mainGlobals "_DIGITS").isSome && seqChk g "tuple" digsL (val h "_DIGITS"), (h.nsMap mainGlobals "_law_PIECES").isSome && rowsChk g L_pieces (val h "_law_PIECES"),
   (h.nsMap mainGlobals "_replacement_string_value").isSome && dctChk g ksS vsS (val h "_replacement_string_value"), codeHeadChk g c1 p1,
   (h.nsMap mainGlobals "serialize_string_value").isSome && joinFnChk g (val h "serialize_string_value") gS "value" c1, codeHeadChk g c2 p2,
   (h.nsMap mainGlobals "serialize_url").isSome && joinFnChk g (val h "serialize_url") gU "value" c2, (h.nsMap mainGlobals "_law_told").isSome && cellChk g (val h "_law_told") "nodes" "meaning" "places" v_law_told m_law_told, !(p1 == p2)]
noncomputable def chk09 (h : Heap) : Bool := match tabOf h "serialize_string_value" with
  | some (c1, p1, _) => (match tabOf h "serialize_url" with
    | some (c2, p2, _) => (part09 h c1 p1 c2 p2 (gt h [p1, p2]) (frag h [p1, p2] (lookAt h names09))).all id
    | none => false)
  | none => false
noncomputable def hash09 (s : Shared) : List Int := (dictAt s.heap.get? (val s.heap "_replacement_string_value")).map (·.hash)
noncomputable def obs09 (s : Shared) : Bool × List Int := (chk09 s.heap, hash09 s)
end Mine
end
section
set_option maxHeartbeats 0
namespace Mine
open PySem PySem.W PySem.Calls PyProof.Rows
noncomputable def cutC (f : List Bool → List Bool) (h : Heap) : Bool := match tabOf h "serialize_string_value" with
  | some (c1, p1, _) => (match tabOf h "serialize_url" with
    | some (c2, p2, _) => (f (part09 h c1 p1 c2 p2 (gt h [p1, p2]) (frag h [p1, p2] (lookAt h names09)))).all id
    | none => false)
  | none => false
noncomputable def chkA (h : Heap) : Bool := cutC (List.take 3) h
noncomputable def chkB (h : Heap) : Bool := cutC (List.drop 3) h
theorem all_cut {l : List Bool} {n : Nat} (a : (l.take n).all id = true) (b : (l.drop n).all id = true) : l.all id = true := by
  have := List.all_append (xs := l.take n) (ys := l.drop n) (f := id)
  rw [List.take_append_drop, a, b] at this
  exact this
theorem chk_ab {h : Heap} (a : chkA h = true) (b : chkB h = true) : chk09 h = true := by
  unfold chkA cutC at a
  unfold chkB cutC at b
  unfold chk09
  cases e : tabOf h "serialize_string_value" with
  | none => rw [e] at a; cases a
  | some t =>
    rw [e] at a b
    dsimp only at a b ⊢
    cases e2 : tabOf h "serialize_url" with
    | none => rw [e2] at a; cases a
    | some t' => rw [e2] at a b; exact all_cut a b
noncomputable def obsB (s : Shared) : Bool × List Int := (chkB s.heap, hash09 s)
theorem run_join {p : Program} {S : SharedT} {H₀ : Heap} {w : World} {good : (Bool × _)} {hs : List Int} (e1 : headR obsB p S H₀ w = some (good, (true, hs)))
    (e2 : (topRunT treeTable p w 11 (some (.ref 6)) 8000 S (topStub p)).map (fun s => chkA s.abs.heap) = some true) : headR obs09 p S H₀ w = some (good, (true, hs)) := by
  unfold headR at *
  cases hr : topRunT treeTable p w 11 (some (.ref 6)) 8000 S (topStub p) with
  | none => rw [hr] at e2; cases e2
  | some s =>
    rw [hr] at e1 e2
    have e1 : (looks p H₀ s.abs, (chkB s.abs.heap, hash09 s.abs)) = (good, (true, hs)) := Option.some.inj e1
    have a : looks p H₀ s.abs = good := congrArg Prod.fst e1
    have b : chkB s.abs.heap = true := congrArg (fun x => x.2.1) e1
    have c : hash09 s.abs = hs := congrArg (fun x => x.2.2) e1
    show some (looks p H₀ s.abs, (chk09 s.abs.heap, hash09 s.abs)) = _
    rw [a, chk_ab (Option.some.inj e2) b, c]
theorem runA_t (w : World) (os : OsState) : (topRunT treeTable PySem.Challenge.pw_qv0004_09 (w.withFollow "special-get-raises" true) 11 (some (.ref 6)) 8000 (S0T (w.withFollow "special-get-raises" true) os) (topStub PySem.Challenge.pw_qv0004_09)).map (fun s => chkA s.abs.heap) = some true := by
  rw [Fast.te8941956224279638915]
  kernel_rfl
theorem runA_f (w : World) (os : OsState) : (topRunT treeTable PySem.Challenge.pw_qv0004_09 (w.withFollow "special-get-raises" false) 11 (some (.ref 6)) 8000 (S0T (w.withFollow "special-get-raises" false) os) (topStub PySem.Challenge.pw_qv0004_09)).map (fun s => chkA s.abs.heap) = some true := by
  rw [Fast.te8941956224279638915]
  kernel_rfl
theorem runB_t (w : World) (os : OsState) : headR obsB PySem.Challenge.pw_qv0004_09 (S0T (w.withFollow "special-get-raises" true) os) (boot_heap (w.withFollow "special-get-raises" true).params) (w.withFollow "special-get-raises" true) =
    some ((true, openGood (lawView PySem.Challenge.pw_qv0004_09) (lawLoose PySem.Challenge.pw_qv0004_09)), (true, ksS.map (fun k => hashStr (w.withFollow "special-get-raises" true) (sOf k)))) := by
  unfold headR
  rw [Fast.te8941956224279638915]
  kernel_rfl
theorem runB_f (w : World) (os : OsState) : headR obsB PySem.Challenge.pw_qv0004_09 (S0T (w.withFollow "special-get-raises" false) os) (boot_heap (w.withFollow "special-get-raises" false).params) (w.withFollow "special-get-raises" false) =
    some ((true, openGood (lawView PySem.Challenge.pw_qv0004_09) (lawLoose PySem.Challenge.pw_qv0004_09)), (true, ksS.map (fun k => hashStr (w.withFollow "special-get-raises" false) (sOf k)))) := by
  unfold headR
  rw [Fast.te8941956224279638915]
  kernel_rfl
theorem run_b (b : Bool) (w : World) (os : OsState) : headR obs09 PySem.Challenge.pw_qv0004_09 (S0T (w.withFollow "special-get-raises" b) os) (boot_heap (w.withFollow "special-get-raises" b).params) (w.withFollow "special-get-raises" b) =
    some ((true, openGood (lawView PySem.Challenge.pw_qv0004_09) (lawLoose PySem.Challenge.pw_qv0004_09)), (true, ksS.map (fun k => hashStr (w.withFollow "special-get-raises" b) (sOf k)))) := by
  cases b
  · exact run_join (runB_f w os) (runA_f w os)
  · exact run_join (runB_t w os) (runA_t w os)
end Mine
end
section
set_option maxHeartbeats 0
namespace Mine
open PySem PySem.W
theorem ws_row : PySem.Challenge.rw_qv0004_09.row.wellSaid = true := by
  unfold OpenRow.wellSaid OpenRow.partSaid looksOpen
  repeat' with_reducible refine look_both ?_ ?_
  all_goals kernel_rfl
theorem ws_law : PySem.Challenge.rw_qv0004_09.wellSaid = true := by
  unfold OpenLaw.wellSaid
  repeat' with_reducible refine look_both ?_ ?_
  · exact ws_row
  all_goals kernel_rfl
end Mine
end
section
namespace Mine
open PySem PySem.W PySem.Calls PyProof.Rows
theorem sOf_length (s : List Nat) : (sOf s).length = s.length := by simp [Str.length]
theorem sOf_append (a b : List Nat) : sOf a ++ sOf b = sOf (a ++ b) := by
  show Str.append _ _ = _
  simp [Str.append]
theorem sOf_inj {a b : List Nat} (h : sOf a = sOf b) : a = b := by
  have := congrArg (fun s : Str => s.cps.toList) h
  simpa using this
theorem sok_append {a b : List Nat} (ha : sok a) (hb : sok b) (h : a.length + b.length ≤ 16777216) : sok (a ++ b) :=
  ⟨fun c hc => (List.mem_append.mp hc).elim (ha.1 c) (hb.1 c), by simpa using h⟩
theorem sok_sub {a b : List Nat} (ha : sok a) (h : ∀ c ∈ b, c ∈ a) (hl : b.length ≤ a.length) : sok b := ⟨fun c hc => ha.1 c (h c hc), Nat.le_trans hl ha.2⟩
theorem sok_one {c : Nat} (h : c < 1114112) : sok [c] := ⟨fun x hx => by simp at hx; subst hx; exact h, by simp⟩
theorem dec_contains (c : Nat) (b : List Nat) : decide (c ∈ b) = b.contains c := by simp
theorem sizeLine_is : sizeLine = 16777216 := by decide
noncomputable def ZIn (z : PH) (s : Shared) : Prop := ∀ a o, z a = some o → s.heap.get? a = some o
noncomputable def Out (B : Base) (z : PH) (r : PV) (s : Shared) (Q : Value → Shared → Prop) : Prop := ∀ v t, s.toks ≤ t → Rep B z r v → Q v { s with toks := t }
section
variable {B : Base} {z : PH} {s : Shared} {A : Around} {Q : Value → Shared → Prop} {a b r : PV} {va vb : Value} {E : Value → Shared → Prop}
theorem Room.handled {d A} (R : Room d A) : A.handled = none := R.h
theorem Room.lt {d A} (R : Room d A) : A.depth < 1000 := by have := R.dep; lia
theorem Room.nx {d A} (R : Room (d + 1) A) : A.depth + 1 + 3 * d + 20 ≤ 1000 ∧ A.units + 3 + 20 * d + 1000 ≤ 9900 := ⟨by have := R.dep; lia, by have := R.un; lia⟩
theorem Room.units {d A} (R : Room d A) : A.units + 64 < cLine := by have := R.un; show A.units + 64 < 9900; lia
theorem Out.int {i : Int} (h : Out B z (.int i) s Q) {t : Nat} {u : Tok} (ht : s.toks ≤ t) : Q (.int i u) { s with toks := t } := h _ _ ht ⟨u, rfl⟩
theorem Out.bool {b : Bool} (h : Out B z (.bool b) s Q) {t : Nat} (ht : s.toks ≤ t) : Q (.bool b) { s with toks := t } := h _ _ ht rfl
theorem Out.str {x : List Nat} (h : Out B z (.str x) s Q) (hx : sok x) {t : Nat} {u : Tok} (ht : s.toks ≤ t) : Q (.str (sOf x) u) { s with toks := t } := h _ _ ht ⟨hx, u, rfl⟩
theorem small_mul {i j : Int} (h : (small i || small j) = true) : IntMulOk i j := by
  rcases Bool.or_eq_true_iff.mp h with h | h
  · refine IntMulOk.of_left (intBits_le_64 ?_ ?_) <;> simp [small] at h <;> lia
  · refine IntMulOk.of_right (intBits_le_64 ?_ ?_) <;> simp [small] at h <;> lia
theorem add_post {x y : List Nat} {t u : Tok} (sa : sok x) (sb : sok y) (q : x.length + y.length ≤ 16777216) (h : Out B z (.str (x ++ y)) s Q) :
    (if (sOf x).length == 0 then Made.val (.str (sOf y) u) else if (sOf y).length == 0 then Made.val (.str (sOf x) t) else Made.str (sOf x ++ sOf y)).post Q s := by
  rw [sOf_length, sOf_length, sOf_append]
  split
  · rename_i e
    have : x = [] := by simpa using e
    subst this
    exact (h.str sb (by first | exact Nat.le_refl _ | exact Nat.le_succ _ | lia))
  · split
    · rename_i e
      have : y = [] := by simpa using e
      subst this
      rw [List.append_nil] at h
      exact (h.str sa (by first | exact Nat.le_refl _ | exact Nat.le_succ _ | lia))
    · refine ⟨?_, (h.str (sok_append sa sb q) (by first | exact Nat.le_refl _ | exact Nat.le_succ _ | lia))⟩
      rw [sOf_length, sizeLine_is, List.length_append]; exact q
theorem addK_inv {K : PV → Prop} (h : addK a b K) : (∃ i j, a = .int i ∧ b = .int j ∧ K (.int (i + j))) ∨ ∃ x y, a = .str x ∧ b = .str y ∧ x.length + y.length ≤ 16777216 ∧ K (.str (x ++ y)) := by
  cases a with
  | int i => obtain ⟨j, rfl, k⟩ := onInt_inv h; exact .inl ⟨i, j, rfl, rfl, k⟩
  | str x => obtain ⟨y, rfl, k⟩ := onStr_inv h; exact .inr ⟨x, y, rfl, rfl, k⟩
  | _ => exact h.elim
theorem binK_ok {op : Operator} {K : PV → Prop} (hr : binK op a b K) (ra : Rep B z a va) (rb : Rep B z b vb) (h : ∀ r, K r → Out B z r s Q) :
    wpAny (model B.prog B.w) A (binaryOp op va vb) Q E s := by
  cases op with
  | Add =>
    rcases addK_inv hr with ⟨i, j, rfl, rfl, k⟩ | ⟨x, y, rfl, rfl, hl, k⟩
    · obtain ⟨t, rfl⟩ := ra; obtain ⟨u, rfl⟩ := rb
      exact P.add_int ((h _ k).int (by first | exact Nat.le_refl _ | exact Nat.le_succ _ | lia))
    · obtain ⟨sa, t, rfl⟩ := ra; obtain ⟨sb, u, rfl⟩ := rb
      exact P.add_str (add_post sa sb hl (h _ k))
  | Sub =>
    obtain ⟨i, rfl, hr⟩ := onInt_inv hr; obtain ⟨j, rfl, k⟩ := onInt_inv hr; obtain ⟨t, rfl⟩ := ra; obtain ⟨u, rfl⟩ := rb
    exact P.sub_int ((h _ k).int (by first | exact Nat.le_refl _ | exact Nat.le_succ _ | lia))
  | Mult =>
    obtain ⟨i, rfl, hr⟩ := onInt_inv hr; obtain ⟨j, rfl, q, k⟩ := onInt_inv hr; obtain ⟨t, rfl⟩ := ra; obtain ⟨u, rfl⟩ := rb
    exact P.mul_int ((h _ k).int (by first | exact Nat.le_refl _ | exact Nat.le_succ _ | lia)) (small_mul q)
  | FloorDiv =>
    obtain ⟨i, rfl, hr⟩ := onInt_inv hr; obtain ⟨j, rfl, q, k⟩ := onInt_inv hr; obtain ⟨t, rfl⟩ := ra; obtain ⟨u, rfl⟩ := rb
    rw [divI_is] at k
    exact floordiv_int q.2 ((h _ k).int (by first | exact Nat.le_refl _ | exact Nat.le_succ _ | lia)) (.inl (PyProof.noPylong_small q.1))
  | Mod =>
    obtain ⟨i, rfl, hr⟩ := onInt_inv hr; obtain ⟨j, rfl, q, k⟩ := onInt_inv hr; obtain ⟨t, rfl⟩ := ra; obtain ⟨u, rfl⟩ := rb
    rw [modI_is] at k
    exact mod_int' q ((h _ k).int (by first | exact Nat.le_refl _ | exact Nat.le_succ _ | lia))
  | _ => exact hr.elim
theorem aug_ok {K : PV → Prop} (hr : addK a b K) (ra : Rep B z a va) (rb : Rep B z b vb) (h : ∀ r, K r → Out B z r s Q) :
    wpAny (model B.prog B.w) A (inplaceOp .Add va vb) Q E s := by
  rcases addK_inv hr with ⟨i, j, rfl, rfl, k⟩ | ⟨x, y, rfl, rfl, hl, k⟩
  · obtain ⟨t, rfl⟩ := ra; obtain ⟨u, rfl⟩ := rb
    exact P.iadd_int ((h _ k).int (by first | exact Nat.le_refl _ | exact Nat.le_succ _ | lia))
  · obtain ⟨sa, t, rfl⟩ := ra; obtain ⟨sb, u, rfl⟩ := rb
    exact P.iadd_str (add_post sa sb hl (h _ k))
theorem neg_ok {i : Int} (ra : Rep B z (.int i) va) (h : Out B z (.int (-i)) s Q) : wpAny (model B.prog B.w) A (unaryOp .USub va) Q E s := by
  obtain ⟨t, rfl⟩ := ra
  exact P.neg_int (h.int (by first | exact Nat.le_refl _ | exact Nat.le_succ _ | lia))
theorem dec_B (b : Bool) : (dB b).dec = b := by cases b <;> rfl
theorem tr_ok {K : DP → Prop} (hr : tdK a K) (ra : Rep B z a va) {Q : Bool → Shared → Prop} (h : ∀ c : DP, K c → ∀ t, s.toks ≤ t → Q c.dec { s with toks := t }) : wpAny (model B.prog B.w) A (truthy va) Q E s := by
  cases a with
  | none => cases ra; exact fun xx xx xx => h dF hr s.toks (Nat.le_refl _)
  | bool b =>
    cases ra
    have := h _ hr s.toks (Nat.le_refl _)
    rw [dec_B] at this
    exact wpAny_truthy_bool this
  | int i =>
    obtain ⟨t, rfl⟩ := ra
    refine P.truthy_int ?_
    have := h _ hr s.toks (Nat.le_refl _)
    have e : (i != 0) = DP.dec ⟨i ≠ 0, inferInstance⟩ := by
      show _ = decide (i ≠ 0)
      by_cases q : i = 0 <;> simp [q]
    rw [e]; exact this
  | str x =>
    obtain ⟨sa, t, rfl⟩ := ra
    refine P.truthy_str (by rw [sOf_length]; have := sa.2; lia) ?_
    have e : (((sOf x).length : Int) != 0) = DP.dec ⟨x.isEmpty = false, inferInstance⟩ := by
      show _ = decide (x.isEmpty = false)
      rw [sOf_length]; cases x <;> simp
      lia
    rw [e]; exact h _ hr _ (by lia)
  | _ => exact hr.elim
mutual
theorem reads_of : ∀ {p : PV} {v : Value} {d : PyData}, Rep B z p v → toPD p = some d → ZIn z s → (∃ as, Reads s.heap v d as) ∧ d.canLay0 = true
  | .none, _, _, r, h, _ => by cases h; cases r; exact ⟨⟨_, Reads.none⟩, rfl⟩
  | .bool b, _, _, r, h, _ => by cases h; cases r; exact ⟨⟨_, Reads.bool b⟩, rfl⟩
  | .int i, _, _, r, h, _ => by cases h; obtain ⟨t, rfl⟩ := r; exact ⟨⟨_, Reads.int i t⟩, rfl⟩
  | .str x, _, _, r, h, _ => by
    cases h; obtain ⟨sx, t, rfl⟩ := r
    refine ⟨⟨_, Reads.str _ t⟩, ?_⟩
    show (sOf x).cps.all (· < 1114112) = true
    rw [← Array.all_toList]
    exact List.all_eq_true.mpr fun c hc => decide_eq_true (sx.1 c hc)
  | .tup vs, _, _, r, h, zi => by
    obtain ⟨a, n, xs, rfl, h2, h3, h4⟩ := r
    obtain ⟨ds, q, rfl⟩ := Option.map_eq_some_iff.mp h
    obtain ⟨⟨as, q1⟩, q2⟩ := readsL_of h3 q zi
    exact ⟨⟨_, reads_tuple_at (zi _ _ h2) rfl rfl q1⟩, q2⟩
  | .lst vs, _, _, r, h, zi => by
    obtain ⟨a, n, xs, rfl, h2, h3, h4⟩ := r
    obtain ⟨ds, q, rfl⟩ := Option.map_eq_some_iff.mp h
    obtain ⟨⟨as, q1⟩, q2⟩ := readsL_of h3 q zi
    exact ⟨⟨_, reads_list_at (zi _ _ h2) rfl rfl q1⟩, q2⟩
  | .node _ _, _, _, _, h, _ => by cases h
  | .dct _ _, _, _, _, h, _ => by cases h
  | .tdc _ _, _, _, _, h, _ => by cases h
  | .ref _, _, _, _, h, _ => by cases h
theorem readsL_of : ∀ {ps : List PV} {vs : List Value} {ds : List PyData}, RepL B z ps vs → toPDs ps = some ds → ZIn z s → (∃ as, ReadsAll s.heap vs ds as) ∧ PyData.canLayAll0 ds = true
  | [], _, _, r, h, _ => by cases h; cases r; exact ⟨⟨_, ReadsAll.nil⟩, rfl⟩
  | p :: ps, _, ds, r, h, zi => by
    obtain ⟨v, vs, rfl, h2, h3⟩ := r
    obtain ⟨x, hx, h⟩ := Option.bind_eq_some_iff.mp h
    obtain ⟨y, hy, h⟩ := Option.bind_eq_some_iff.mp h
    cases h
    obtain ⟨⟨as, q1⟩, q2⟩ := reads_of h2 hx zi
    obtain ⟨⟨bs, q3⟩, q4⟩ := readsL_of h3 hy zi
    exact ⟨⟨_, ReadsAll.cons q1 q3⟩, Bool.and_eq_true_iff.mpr ⟨q2, q4⟩⟩
end
theorem eqPD_ok {c : Bool} (hr : eqPD a b = some c) (ra : Rep B z a va) (rb : Rep B z b vb) (zi : ZIn z s) (hu : A.units + 64 < cLine) (h : Q (.bool c) s) :
    wpAny (model B.prog B.w) A (compareOp .Eq va vb) Q E s := by
  obtain ⟨x, hx, hr⟩ := Option.bind_eq_some_iff.mp hr
  obtain ⟨y, hy, hr⟩ := Option.bind_eq_some_iff.mp hr
  by_cases q : x.depth ≤ 60 ∧ y.depth ≤ 60
  · rw [if_pos q] at hr
    obtain ⟨⟨as, q1⟩, q2⟩ := reads_of ra hx zi
    obtain ⟨⟨bs, q3⟩, q4⟩ := reads_of rb hy zi
    cases hr
    exact eq_dataH q1 q3 (Bool.and_eq_true_iff.mpr ⟨q2, decide_eq_true (Nat.le_trans q.1 (by decide))⟩) (Bool.and_eq_true_iff.mpr ⟨q4, decide_eq_true (Nat.le_trans q.2 (by decide))⟩) hu h
  · rw [if_neg q] at hr; cases hr
theorem beq_dec {α : Type} [BEq α] [LawfulBEq α] [DecidableEq α] (x y : α) : (x == y) = DP.dec ⟨x = y, inferInstance⟩ := by
  show _ = decide (x = y)
  rw [Bool.eq_iff_iff]; simp
theorem eqK_ok {K : DP → Prop} (hr : eqK a b K) (ra : Rep B z a va) (rb : Rep B z b vb) (zi : ZIn z s) (hu : A.units + 64 < cLine) (h : ∀ c : DP, K c → Q (.bool c.dec) s) :
    wpAny (model B.prog B.w) A (compareOp .Eq va vb) Q E s := by
  cases a with
  | str x => cases b with
    | str y => obtain ⟨_, t, rfl⟩ := ra; obtain ⟨_, u, rfl⟩ := rb; exact P.eq_str (by show Q (.bool (x == y)) s; rw [beq_dec]; exact h _ hr)
    | none => obtain ⟨_, t, rfl⟩ := ra; cases rb; exact EqNone.eq_str_none (h dF hr)
    | _ => exact hr.elim
  | int x => cases b with
    | int y => obtain ⟨t, rfl⟩ := ra; obtain ⟨u, rfl⟩ := rb; exact P.eq_int (by rw [beq_dec]; exact h _ hr)
    | none => obtain ⟨t, rfl⟩ := ra; cases rb; exact EqNone.eq_int_none (h dF hr)
    | _ => exact hr.elim
  | bool x => cases b with
    | bool y => cases ra; cases rb; exact eq_bool (by rw [beq_dec]; exact h _ hr)
    | _ => exact hr.elim
  | none => cases b with
    | none => cases ra; cases rb; exact EqNone.eq_none_none (h dT hr)
    | str y => cases ra; obtain ⟨_, t, rfl⟩ := rb; exact EqNone.eq_none_str (h dF hr)
    | int y => cases ra; obtain ⟨t, rfl⟩ := rb; exact EqNone.eq_none_int (h dF hr)
    | _ => exact hr.elim
  | tup x => obtain ⟨c, e, k⟩ := hr; exact eqPD_ok e ra rb zi hu (by have := h _ k; rwa [dec_B] at this)
  | lst x => obtain ⟨c, e, k⟩ := hr; exact eqPD_ok e ra rb zi hu (by have := h _ k; rwa [dec_B] at this)
  | _ => exact hr.elim
theorem strsAre_of : ∀ {ps : List PV} {vs : List Value} {l : List (List Nat)}, RepL B z ps vs → allStr ps = some l → StrsAre vs (l.map sOf) ∧ ∀ x ∈ l, sok x
  | [], _, _, r, h => by cases h; cases r; exact ⟨.nil, fun xx h => nomatch h⟩
  | p :: ps, _, l, r, h => by
    obtain ⟨v, vs, rfl, h2, h3⟩ := r
    obtain ⟨s', q, h⟩ := Option.bind_eq_some_iff.mp h
    obtain ⟨l', q1, rfl⟩ := Option.map_eq_some_iff.mp h
    obtain ⟨q2, q3⟩ := strsAre_of h3 q1
    cases p with
    | str x =>
      cases q
      obtain ⟨sx, t, rfl⟩ := h2
      exact ⟨.cons _ _ q2, fun x hx => by rcases List.mem_cons.mp hx with rfl | hx; exact sx; exact q3 x hx⟩
    | _ => cases q
theorem any_sOf (l : List (List Nat)) (x : List Nat) : ((l.map sOf).any (· == sOf x)) = l.contains x := by
  rw [Bool.eq_iff_iff]
  simp only [List.any_map, List.any_eq_true, Function.comp, beq_iff_eq, List.contains_iff_mem]
  constructor
  · rintro ⟨y, hy, e⟩; rw [← sOf_inj e]; exact hy
  · intro h; exact ⟨x, h, rfl⟩
theorem PMapOf.heap {prog w z a f} {h : Heap} (m : PMapOf prog w z a f) (zi : ∀ a o, z a = some o → h.get? a = some o) : h.MapOf (strKind prog w) a f :=
by
  obtain ⟨o, es, ep, h1, h2, h3, h4, h5, _⟩ := m; exact ⟨o, es, ep, zi _ _ h1, h2, h3, h4, h5⟩
theorem assocL_isSome : ∀ {ks : List (List Nat)} {xs : List Value} {k : List Nat}, ks.length = xs.length → (assocL (sOf k) ks xs).isSome = ks.contains k
  | [], _, _, _ => rfl
  | c :: ks, [], _, h => nomatch h
  | c :: ks, v :: xs, k, h => by
    show (if sOf c = sOf k then some v else assocL (sOf k) ks xs).isSome = _
    by_cases hk : c = k
    · subst hk; simp
    · rw [if_neg (fun e => hk (sOf_inj e)), assocL_isSome (by simpa using h)]
      simp [List.contains_cons, Ne.symm hk]
theorem assocL_some : ∀ {ks : List (List Nat)} {ps : List PV} {xs : List Value} {k : List Nat} {p : PV}, RepL B z ps xs → assocP k ks ps = some p → ∃ v, assocL (sOf k) ks xs = some v ∧ Rep B z p v
  | [], ps, _, _, _, _, h => by cases ps <;> cases h
  | c :: ks, [], _, _, _, _, h => by cases h
  | c :: ks, q :: ps, _, k, p, r, h => by
    obtain ⟨v, vs, rfl, h2, h3⟩ := r
    replace h : (if c = k then some q else assocP k ks ps) = some p := h
    show ∃ w, (if sOf c = sOf k then some v else assocL (sOf k) ks vs) = some w ∧ _
    by_cases e : c = k
    · rw [if_pos e] at h; cases h; subst e; exact ⟨v, if_pos rfl, h2⟩
    · rw [if_neg e] at h; rw [if_neg (fun q => e (sOf_inj q))]; exact assocL_some h3 h
theorem assocL_none : ∀ {ks : List (List Nat)} {ps : List PV} {xs : List Value} {k : List Nat}, RepL B z ps xs → assocP k ks ps = none → assocL (sOf k) ks xs = none
  | [], ps, _, _, _, _ => rfl
  | c :: ks, [], _, _, r, h => by cases r; rfl
  | c :: ks, q :: ps, _, k, r, h => by
    obtain ⟨v, vs, rfl, h2, h3⟩ := r
    replace h : (if c = k then some q else assocP k ks ps) = none := h
    show (if sOf c = sOf k then some v else assocL (sOf k) ks vs) = none
    by_cases e : c = k
    · rw [if_pos e] at h; cases h
    · rw [if_neg e] at h; rw [if_neg (fun q => e (sOf_inj q))]; exact assocL_none h3 h
end
end Mine
end
section
namespace Mine
open PySem PySem.W PySem.Calls PyProof.Rows
section
variable {B : Base} {z : PH} {s : Shared} {A : Around} {Q : Value → Shared → Prop} {a b r : PV} {va vb : Value} {E : Value → Shared → Prop} {d : Nat}
theorem none_dec (ra : Rep B z a va) : (va == Value.none) = isN a := by
  cases a with
  | none => cases ra; rfl
  | bool b => cases ra; rfl
  | int i => obtain ⟨t, rfl⟩ := ra; rfl
  | str i => obtain ⟨_, t, rfl⟩ := ra; rfl
  | tup vs => obtain ⟨_, _, _, rfl, _⟩ := ra; rfl
  | lst vs => obtain ⟨_, _, _, rfl, _⟩ := ra; rfl
  | node c vs => obtain ⟨_, _, _, _, rfl, _⟩ := ra; rfl
  | dct c vs => obtain ⟨_, _, rfl, _⟩ := ra; rfl
  | tdc c vs => obtain ⟨_, _, rfl, _⟩ := ra; rfl
  | ref a => cases ra; rfl
theorem bne_dec {α : Type} [BEq α] [LawfulBEq α] [DecidableEq α] (x y : α) : (x != y) = DP.dec ⟨x ≠ y, inferInstance⟩ := by
  show _ = decide (x ≠ y)
  rw [Bool.eq_iff_iff]; simp
theorem cont_dec {α : Type} [BEq α] [LawfulBEq α] [DecidableEq α] (x : α) (l : List α) : l.contains x = DP.dec ⟨x ∈ l, inferInstance⟩ := by
  show _ = decide (x ∈ l)
  rw [Bool.eq_iff_iff]; simp
theorem not_dec (c : DP) : (!c.dec) = c.not.dec := by
  obtain ⟨p, i⟩ := c
  show (!decide p) = decide (¬ p)
  simp
theorem lt_chr (a b : Nat) : [a] < [b] ↔ a < b := by
  rw [List.cons_lt_cons_iff]; simp
theorem inS_ok {x : List Nat} {K : DP → Prop} (hr : inSK x b K) (ra : Rep B z (.str x) va) (rb : Rep B z b vb) (zi : ZIn z s) (h : ∀ c : DP, K c → ∀ t, s.toks ≤ t → Q (.bool c.dec) { s with toks := t }) :
    wpAny (model B.prog B.w) A (compareOp .In va vb) Q E s := by
  obtain ⟨_, t, rfl⟩ := ra
  cases b with
  | tup vs =>
    obtain ⟨y, n, xs, rfl, hz, hl, _⟩ := rb
    obtain ⟨l, q, hr⟩ := onStrs_inv hr
    refine in_tuple_strs ⟨_, zi _ _ hz, rfl, _, rfl⟩ (strsAre_of hl q).1 ?_
    rw [any_sOf, cont_dec]; exact h _ hr s.toks (Nat.le_refl _)
  | lst vs =>
    obtain ⟨y, n, xs, rfl, hz, hl, _⟩ := rb
    obtain ⟨l, q, hr⟩ := onStrs_inv hr
    refine in_list_strs (vs := xs.toList) ⟨_, zi _ _ hz, rfl, _, rfl⟩ (strsAre_of hl q).1 ?_
    rw [any_sOf, cont_dec]; exact h _ hr s.toks (Nat.le_refl _)
  | dct ks vs =>
    obtain ⟨y, xs, rfl, hs, hlen, hl, hm⟩ := rb
    refine wpAny_in_of (strKind_is _ _ _ _) hs (hm.heap zi) ?_
    rw [assocL_isSome (by rw [hl.length]; exact hlen), cont_dec]
    exact h _ hr _ (by lia)
  | str b =>
    obtain ⟨_, u, rfl⟩ := rb
    cases x with
    | nil => exact hr.elim
    | cons c r => cases r with
      | cons _ _ => exact hr.elim
      | nil =>
        refine in_str ?_
        rw [StrLaws.found_one, dec_contains, cont_dec]
        exact h _ hr s.toks (Nat.le_refl _)
  | _ => exact hr.elim
theorem in_ok {K : DP → Prop} (hr : inK a b K) (ra : Rep B z a va) (rb : Rep B z b vb) (zi : ZIn z s) (R : Room d A) (h : ∀ c : DP, K c → ∀ t, s.toks ≤ t → Q (.bool c.dec) { s with toks := t }) :
    wpAny (model B.prog B.w) A (compareOp .In va vb) Q E s := by
  cases a with
  | str x => exact inS_ok hr ra rb zi h
  | lst x =>
    cases b with
    | lst y =>
      replace hr : inLK (.lst x) (.lst y) K := hr
      unfold inLK at hr
      obtain ⟨d', xs', q1, q2, q, k⟩ := hr
      obtain ⟨⟨as, e1⟩, e2⟩ := reads_of ra q1 zi
      obtain ⟨⟨bs, e3⟩, e4⟩ := reads_of (p := .lst y) (d := .list xs') rb (by show (toPDs y).map PyData.list = _; rw [q2]; rfl) zi
      have := h _ k s.toks (Nat.le_refl _)
      rw [dec_B] at this
      refine SeqAt.in_list_reads e3 e1 (by simpa [PyData.canLay0] using e4) e2 ?_ this
      have := Nat.min_le_right (PyData.depthAll xs') d'.depth
      have := R.units
      show _ < 9900
      have h9 : cLine = 9900 := rfl
      lia
    | _ => replace hr : inLK _ _ _ := hr; unfold inLK at hr; exact hr.elim
  | _ => exact hr.elim
theorem notin_ok {K : DP → Prop} (hr : cmpK .NotIn a b K) (ra : Rep B z a va) (rb : Rep B z b vb) (zi : ZIn z s) (h : ∀ c : DP, K c → ∀ t, s.toks ≤ t → Q (.bool c.dec) { s with toks := t }) :
    wpAny (model B.prog B.w) A (compareOp .NotIn va vb) Q E s := by
  cases b with
  | tup vs =>
    obtain ⟨x, rfl, hr⟩ := onStr_inv hr
    obtain ⟨_, t, rfl⟩ := ra
    obtain ⟨y, n, xs, rfl, hz, hl, _⟩ := rb
    obtain ⟨l, q, hr⟩ := onStrs_inv hr
    refine notin_tuple_strs ⟨_, zi _ _ hz, rfl, _, rfl⟩ (strsAre_of hl q).1 ?_
    rw [any_sOf, cont_dec, not_dec]; exact h _ hr s.toks (Nat.le_refl _)
  | str b =>
    obtain ⟨x, rfl, hr⟩ := onStr_inv hr
    obtain ⟨_, t, rfl⟩ := ra
    obtain ⟨_, u, rfl⟩ := rb
    cases x with
    | nil => exact hr.elim
    | cons c r => cases r with
      | cons _ _ => exact hr.elim
      | nil =>
        refine notIn_str ?_
        rw [StrLaws.found_one, dec_contains, cont_dec, not_dec]
        exact h _ hr s.toks (Nat.le_refl _)
  | _ => exact hr.elim
theorem cmpK_ok {op : CmpOp} {K : DP → Prop} (hr : cmpK op a b K) (ra : Rep B z a va) (rb : Rep B z b vb) (zi : ZIn z s) (R : Room d A) (h : ∀ c : DP, K c → ∀ t, s.toks ≤ t → Q (.bool c.dec) { s with toks := t }) :
    wpAny (model B.prog B.w) A (compareOp op va vb) Q E s := by
  cases op with
  | Eq => exact eqK_ok hr ra rb zi R.units fun c k => h c k s.toks (Nat.le_refl _)
  | NotEq =>
    cases a with
    | str x =>
      obtain ⟨y, rfl, k⟩ := onStr_inv hr; obtain ⟨_, t, rfl⟩ := ra; obtain ⟨_, u, rfl⟩ := rb
      refine P.ne_str ?_
      show Q (.bool (x != y)) s
      rw [bne_dec]; exact h _ k s.toks (Nat.le_refl _)
    | int x =>
      obtain ⟨y, rfl, k⟩ := onInt_inv hr; obtain ⟨t, rfl⟩ := ra; obtain ⟨u, rfl⟩ := rb
      refine P.ne_int ?_
      rw [bne_dec]; exact h _ k s.toks (Nat.le_refl _)
    | _ => exact hr.elim
  | Lt =>
    obtain ⟨x, rfl, hr⟩ := onInt_inv hr; obtain ⟨y, rfl, k⟩ := onInt_inv hr; obtain ⟨t, rfl⟩ := ra; obtain ⟨u, rfl⟩ := rb
    exact P.lt_int (h _ k s.toks (Nat.le_refl _))
  | Gt =>
    cases a with
    | int x =>
      obtain ⟨y, rfl, k⟩ := onInt_inv hr; obtain ⟨t, rfl⟩ := ra; obtain ⟨u, rfl⟩ := rb
      exact P.gt_int (h _ k s.toks (Nat.le_refl _))
    | str x =>
      cases x with
      | nil => exact hr.elim
      | cons x r => cases r with
        | cons _ _ => exact hr.elim
        | nil =>
          obtain ⟨y, rfl, k⟩ := onStr_inv hr
          cases y with
          | nil => exact k.elim
          | cons y r => cases r with
            | cons _ _ => exact k.elim
            | nil =>
              obtain ⟨_, t, rfl⟩ := ra; obtain ⟨_, u, rfl⟩ := rb
              refine P.gt_str ?_
              show Q (.bool (decide ([y] < [x]))) s
              have e : (decide ([y] < [x])) = DP.dec ⟨y < x, inferInstance⟩ := by
                show _ = decide (y < x)
                rw [Bool.eq_iff_iff, decide_eq_true_eq, decide_eq_true_eq, lt_chr]
              rw [e]; exact h _ k s.toks (Nat.le_refl _)
    | _ => exact hr.elim
  | GtE =>
    obtain ⟨x, rfl, hr⟩ := onInt_inv hr; obtain ⟨y, rfl, k⟩ := onInt_inv hr; obtain ⟨t, rfl⟩ := ra; obtain ⟨u, rfl⟩ := rb
    exact P.ge_int (h _ k s.toks (Nat.le_refl _))
  | LtE =>
    cases a with
    | int x =>
      obtain ⟨y, rfl, k⟩ := onInt_inv hr; obtain ⟨t, rfl⟩ := ra; obtain ⟨u, rfl⟩ := rb
      exact P.le_int (h _ k s.toks (Nat.le_refl _))
    | str x =>
      cases x with
      | nil => exact hr.elim
      | cons x r => cases r with
        | cons _ _ => exact hr.elim
        | nil =>
          obtain ⟨y, rfl, k⟩ := onStr_inv hr
          cases y with
          | nil => exact k.elim
          | cons y r => cases r with
            | cons _ _ => exact k.elim
            | nil =>
              obtain ⟨_, t, rfl⟩ := ra; obtain ⟨_, u, rfl⟩ := rb
              refine P.le_str ?_
              show Q (.bool (!decide ([y] < [x]))) s
              have e : (!decide ([y] < [x])) = DP.dec ⟨x ≤ y, inferInstance⟩ := by
                show _ = decide (x ≤ y)
                rw [Bool.eq_iff_iff]
                simp only [Bool.not_eq_true', decide_eq_false_iff_not, decide_eq_true_eq, lt_chr]
                lia
              rw [e]; exact h _ k s.toks (Nat.le_refl _)
    | _ => exact hr.elim
  | Is =>
    cases b with
    | none =>
      cases rb
      refine is_none ?_
      rw [none_dec ra, ← dec_B (isN a)]; exact h _ hr s.toks (Nat.le_refl _)
    | _ => exact hr.elim
  | IsNot =>
    cases b with
    | none =>
      cases rb
      refine isNot_none ?_
      have e : (!(va == Value.none)) = DP.dec ⟨isN a = false, inferInstance⟩ := by
        rw [none_dec ra]
        show _ = decide (isN a = false)
        cases isN a <;> rfl
      rw [e]; exact h _ hr s.toks (Nat.le_refl _)
    | _ => exact hr.elim
  | In => exact in_ok hr ra rb zi R h
  | NotIn => exact notin_ok hr ra rb zi h
end
end Mine
end
section
namespace Mine
open PySem PySem.W PySem.Calls PyProof.Rows PySem.Builtin PySem.Builtin.Str
section
variable {B : Base} {z : PH} {s : Shared} {A : Around} {Q : Value → Shared → Prop} {a b r : PV} {va vb : Value} {E : Value → Shared → Prop}
theorem seqIndex_nonneg {i : Int} {n : Nat} (h0 : 0 ≤ i) (h1 : i.toNat < n) : seqIndex? i n = some i.toNat := by
  unfold seqIndex?
  simp only []
  have h2 : ¬ i < 0 := by lia
  rw [if_neg h2]
  have h3 : (decide (0 ≤ i) && decide (i < (n : Int))) = true := by simp only [Bool.and_eq_true, decide_eq_true_eq]; lia
  rw [if_pos h3]
theorem idxK_ok {value slice : Expr} {K : PV → Prop} (hr : idxK a b K) (ra : Rep B z a va) (rb : Rep B z b vb) (zi : ZIn z s)
    (hs : subscripted slice false va vb = operate [va, vb] (getItem va vb)) (h : ∀ r, K r → Out B z r s Q) :
    wpAny (model B.prog B.w) A (subscriptTail value slice va vb) Q E s := by
  cases a with
  | str x =>
    obtain ⟨i, rfl, c, hc, k⟩ := onNat_inv hr
    obtain ⟨sx, t, rfl⟩ := ra; obtain ⟨u, rfl⟩ := rb
    have hlt : i < x.length := (List.getElem?_eq_some_iff.mp hc).1
    have hcm : c ∈ x := List.mem_of_getElem? hc
    refine tail_any (typeIs_str s _ _) slot_str_getitem.lookup (getItem_str (c := c) ?_ ?_ ((h _ k).str (x := [c]) (sok_one (sx.1 c hcm)) (by first | exact Nat.le_refl _ | exact Nat.le_succ _ | lia))) hs
    · have := sx.2
      simp only [Bool.or_eq_false_iff, decide_eq_false_iff_not]
      lia
    · rw [sOf_length, seqIndex_nonneg (Int.natCast_nonneg i) (by simpa using hlt)]
      simpa using hc
  | tup xs =>
    obtain ⟨i, rfl, p, hp, k⟩ := onNat_inv hr
    obtain ⟨x, n, vs, rfl, hz, hl, hsz⟩ := ra; obtain ⟨u, rfl⟩ := rb
    obtain ⟨v, hv, rv⟩ := hl.get hp
    have hlt : i < vs.size := by simpa using (List.getElem?_eq_some_iff.mp hv).1
    rw [sizeLine_is] at hsz
    exact tail_any ⟨_, zi _ _ hz, rfl⟩ slot_tuple_getitem.lookup (getItem_tuple ⟨_, zi _ _ hz, rfl, _, rfl⟩ (by lia) (by lia) (seqIndex_nonneg (Int.natCast_nonneg i) (by simpa using hlt)) (by simpa using hv) (h _ k _ _ (Nat.le_refl _) rv)) hs
  | lst xs =>
    obtain ⟨i, rfl, p, hp, k⟩ := onNat_inv hr
    obtain ⟨x, n, vs, rfl, hz, hl, hsz⟩ := ra; obtain ⟨u, rfl⟩ := rb
    obtain ⟨v, hv, rv⟩ := hl.get hp
    have hlt : i < vs.size := by simpa using (List.getElem?_eq_some_iff.mp hv).1
    rw [sizeLine_is] at hsz
    exact tail_any ⟨_, zi _ _ hz, rfl⟩ slot_list_getitem.lookup (wpAny_getItem_list ⟨_, zi _ _ hz, rfl, _, rfl⟩ (by lia) (by lia) (by simpa using hv) (h _ k _ _ (Nat.le_refl _) rv)) hs
  | dct ks ps =>
    obtain ⟨key, rfl, p, hp, k⟩ := onStr_inv hr
    obtain ⟨x, xs, rfl, hs', hlen, hl, hm⟩ := ra; obtain ⟨_, u, rfl⟩ := rb
    obtain ⟨v, hv, rv⟩ := assocL_some hl hp
    obtain ⟨o, es, ep, h1, h2, h3, h4⟩ := _root_.id hm
    exact tail_any ⟨_, zi _ _ h1, h2.1⟩ slot_dict_getitem.lookup (wpAny_getItem_of (strKind_is _ _ _ _) (hm.heap zi) hv (h _ k _ _ (Nat.le_succ _) rv)) hs
  | _ => exact hr.elim
theorem lo_inv {n : Nat} {l : PV} {vl : Value} {k : Nat → Prop} (h : loK n l k) (rl : Rep B z l vl) : ∃ (a : Nat) (o : Option (Int × Tok)), vl = partValue o ∧ kms_lo (o.map (·.1)) n = min a n ∧ k a := by
  cases l with
  | none => cases rl; exact ⟨0, none, rfl, by simp [kms_lo], h⟩
  | int i => cases i with
    | ofNat a =>
      obtain ⟨t, rfl⟩ := rl
      refine ⟨a, some (_, t), rfl, ?_, h⟩
      simp only [Option.map_some, kms_lo]
      rw [if_neg (by simp)]; simp
    | negSucc m =>
      obtain ⟨t, rfl⟩ := rl
      refine ⟨n - (m + 1), some (_, t), rfl, ?_, h⟩
      exact (if_pos (Int.negSucc_lt_zero m)).trans (Nat.min_eq_left (Nat.sub_le n (m + 1))).symm
  | _ => exact h.elim
theorem hi_inv {n : Nat} {l : PV} {vl : Value} {k : Nat → Prop} (h : hiK n l k) (rl : Rep B z l vl) : ∃ (a : Nat) (o : Option (Int × Tok)), vl = partValue o ∧ kms_hi (o.map (·.1)) n = min a n ∧ k a := by
  cases l with
  | none => cases rl; exact ⟨n, none, rfl, by simp [kms_hi], h⟩
  | int i => cases i with
    | ofNat a =>
      obtain ⟨t, rfl⟩ := rl
      refine ⟨a, some (_, t), rfl, ?_, h⟩
      simp only [Option.map_some, kms_hi]
      rw [if_neg (by simp)]; simp
    | negSucc m =>
      obtain ⟨t, rfl⟩ := rl
      refine ⟨n - (m + 1), some (_, t), rfl, ?_, h⟩
      exact (if_pos (Int.negSucc_lt_zero m)).trans (Nat.min_eq_left (Nat.sub_le n (m + 1))).symm
  | _ => exact h.elim
theorem cut_min {α : Type} (s : List α) (a b : Nat) : (s.drop (min a s.length)).take (min b s.length - min a s.length) = (s.drop a).take (b - a) := by
  rcases Nat.le_total a s.length with h | h
  · rw [Nat.min_eq_left h]
    rcases Nat.le_total b s.length with h' | h'
    · rw [Nat.min_eq_left h']
    · rw [Nat.min_eq_right h', List.take_of_length_le (by simp), List.take_of_length_le (by rw [List.length_drop]; exact Nat.sub_le_sub_right h' a)]
  · rw [Nat.min_eq_right h, List.drop_length, List.drop_eq_nil_of_le h]; simp
theorem part_of (o : Option (Int × Tok)) : IsPart (partValue o) (o.map (·.1)) := by
  cases o with
  | none => exact .none
  | some p => exact .int _ _
theorem strSlice_eq (l u : Option Int) (x : List Nat) : (strSliceIndices l u 1 x.length).filterMap ((sOf x).cps[·]?) = (x.drop (kms_lo l x.length)).take (kms_hi u x.length - kms_lo l x.length) := by
  have e : strSliceIndices l u 1 x.length = sliceRange (sliceBounds l u none x.length).1 (sliceBounds l u none x.length).2.1 1 := rfl
  rw [e, kms_bounds, sliceRange_one, pick_run]
theorem slcK_ok {value : Expr} {lo hi : Option Expr} {pos : Pos} {l u : PV} {vl vu : Value} {sl : Addr} {K : PV → Prop} (hr : slcK a l u K) (ra : Rep B z a va) (rl : Rep B z l vl) (ru : Rep B z u vu) (zi : ZIn z s)
    (hsl : s.heap.get? sl = some { cls := .type "slice", data := .fields #[vl, vu, .none] })
    (h1 : ∀ r, K r → Out B z r s Q)
    (h2 : ∀ r, K r → ∀ o, o.isFreed = false → Rep B (zadd z s.heap.objs.size o) r (.ref s.heap.objs.size) → Q (.ref s.heap.objs.size) { s with heap := s.heap.push o }) (hz : z s.heap.objs.size = none) :
    wpAny (model B.prog B.w) A (subscriptTail value (.Slice lo hi none pos) va (.ref sl)) Q E s := by
  cases a with
  | str x =>
    obtain ⟨sx, t, rfl⟩ := ra
    obtain ⟨ka, ol, rfl, el, hr⟩ := lo_inv (n := x.length) (k := fun a => hiK x.length u fun b => K (.str ((x.drop a).take (b - a)))) hr rl
    obtain ⟨kb, ou, rfl, eu, k⟩ := hi_inv hr ru
    refine tail_any (typeIs_str s _ _) slot_str_getitem.lookup (wpAny_getItem_str_slice (l := ol) (u := ou) (st := none) ⟨_, hsl, rfl, rfl⟩ rfl ?_) rfl
    have hsub : ∀ c ∈ (x.drop ka).take (kb - ka), c ∈ x := fun c hc => List.mem_of_mem_drop (List.mem_of_mem_take hc)
    have hlen : ((x.drop ka).take (kb - ka)).length ≤ x.length := ((List.take_sublist _ _).trans (List.drop_sublist _ _)).length_le
    have hp : (slicePicked (sOf x) ol ou none).filterMap ((sOf x).cps[·]?) = (x.drop ka).take (kb - ka) := by
      unfold slicePicked
      rw [sOf_length]
      show (strSliceIndices _ _ 1 _).filterMap _ = _
      rw [strSlice_eq, el, eu, cut_min]
    unfold sliceMade
    split
    · rename_i q
      have hq : (slicePicked (sOf x) ol ou none).length = x.length := by
        have := (Bool.and_eq_true_iff.mp q).2
        rw [sOf_length] at this
        simpa using this
      have : (x.drop ka).take (kb - ka) = x := by
        have e1 : (slicePicked (sOf x) ol ou none) = (List.range (min kb x.length - min ka x.length)).map (min ka x.length + ·) := by
          unfold slicePicked
          rw [sOf_length]
          show strSliceIndices _ _ 1 _ = _
          have e : strSliceIndices (ol.map (·.1)) (ou.map (·.1)) 1 x.length = sliceRange (sliceBounds (ol.map (·.1)) (ou.map (·.1)) none x.length).1 (sliceBounds (ol.map (·.1)) (ou.map (·.1)) none x.length).2.1 1 := rfl
          rw [e, kms_bounds, sliceRange_one, el, eu]
        rw [e1] at hq
        simp only [List.length_map, List.length_range] at hq
        rcases min_all hq with h0 | h0
        · subst h0
          rw [List.drop_zero]
          exact List.take_of_length_le (Nat.le_trans (Nat.le_of_eq hq.symm) (Nat.le_trans (Nat.sub_le _ _) (Nat.min_le_left _ _)))
        · have : x = [] := List.length_eq_zero_iff.mp h0
          subst this
          simp
      have h1 := h1 _ k
      rw [this] at h1
      exact h1.str sx (by first | exact Nat.le_refl _ | exact Nat.le_succ _ | lia)
    · rw [hp]
      refine ⟨?_, ((h1 _ k).str (sok_sub sx hsub hlen) (by first | exact Nat.le_refl _ | exact Nat.le_succ _ | lia))⟩
      show (sOf _).length ≤ _
      rw [sOf_length, sizeLine_is]
      exact Nat.le_trans hlen sx.2
  | lst xs =>
    obtain ⟨x, n, vs, rfl, hzx, hl, hsz⟩ := ra
    obtain ⟨ka, ol, rfl, el, hr⟩ := lo_inv (n := xs.length) (k := fun a => hiK xs.length u fun b => K (.lst ((xs.drop a).take (b - a)))) hr rl
    obtain ⟨kb, ou, rfl, eu, k⟩ := hi_inv hr ru
    have elen : vs.toList.length = xs.length := hl.length
    refine tail_any ⟨_, zi _ _ hzx, rfl⟩ slot_list_getitem.lookup (wpAny_getItem_list_slice ⟨_, zi _ _ hzx, rfl, _, rfl⟩ ⟨_, hsl, rfl, rfl⟩ (part_of ol) (part_of ou) .none (by simp) ?_ hsz) rfl
    rw [kms_pick_eq]
    unfold kms_pick
    rw [elen, el, eu, ← elen, cut_min]
    refine h2 _ k _ rfl ⟨_, 0, _, rfl, zadd_self _ _ _, ?_, ?_⟩
    · exact RepL.mono (zadd_le hz) ((hl.drop ka).take (kb - ka))
    · have : ((vs.toList.drop ka).take (kb - ka)).length ≤ vs.size := by
        exact Nat.le_trans ((List.take_sublist _ _).trans (List.drop_sublist _ _)).length_le (Nat.le_of_eq Array.length_toList)
      simpa using Nat.le_trans this hsz
  | _ => exact hr.elim
end
end Mine
end
section
namespace Mine
open PySem PySem.W PySem.Calls PyProof.Rows PySem.Builtin PySem.Builtin.Str PySem.NumText
namespace Hex
theorem blank_hex {c : Nat} (h : isHex c = true) : blank c = false := by
  refine blank_of ?_
  unfold isHex hexV at h
  split at h
  · lia
  · split at h
    · lia
    · split at h
      · lia
      · cases h
theorem hex_table : ((List.range 128).all fun c => !isHex c || decide (digit? c = some ((hexV c).getD 0) ∧ (hexV c).getD 0 < 16 ∧ c ≠ 95 ∧ c ≠ 0 ∧ c ≠ 45 ∧ c ≠ 43)) = true := by decide +kernel
theorem hex_low {c : Nat} (h : isHex c = true) : c < 128 := by
  refine Classical.byContradiction fun n => ?_
  unfold isHex hexV at h
  rw [if_neg fun k => n (Nat.lt_of_le_of_lt k.2 (by decide)), if_neg fun k => n (Nat.lt_of_le_of_lt k.2 (by decide)), if_neg fun k => n (Nat.lt_of_le_of_lt k.2 (by decide))] at h
  cases h
theorem digit_hex {c : Nat} (h : isHex c = true) : digit? c = some ((hexV c).getD 0) ∧ (hexV c).getD 0 < 16 ∧ c < 128 ∧ c ≠ 95 ∧ c ≠ 0 ∧ c ≠ 45 ∧ c ≠ 43 := by
  have hc := hex_low h
  have t := List.all_eq_true.mp hex_table c (List.mem_range.mpr hc)
  rw [h] at t
  obtain ⟨t1, t2, t3⟩ := of_decide_eq_true t
  exact ⟨t1, t2, hc, t3⟩
theorem step_hex {ds : Array Nat} {b : Bool} {c : Nat} (h : isHex c = true) : NumText.step 16 (ds, b) c = some (ds.push ((hexV c).getD 0), true) := by
  obtain ⟨h1, h2, h3, h4, h5, _⟩ := digit_hex h
  unfold NumText.step
  rw [if_neg (by rw [beq_iff_eq]; lia), h1]
  exact if_pos h2
theorem foldl_hex : ∀ (cs : List Nat) (ds : Array Nat), (∀ c ∈ cs, isHex c = true) → cs.foldlM (NumText.step 16) (ds, true) = some (cs.foldl (fun acc c => acc.push ((hexV c).getD 0)) ds, true)
  | [], _, _ => rfl
  | c :: cs, ds, h => by
    rw [List.foldlM_cons, step_hex (h c (.head _))]
    show cs.foldlM (NumText.step 16) (ds.push _, true) = _
    exact foldl_hex cs _ fun x hx => h x (.tail _ hx)
theorem digits_hex {cs : List Nat} (h : ∀ c ∈ cs, isHex c = true) (hne : cs ≠ []) : digits? 16 cs = some (cs.foldl (fun acc c => acc.push ((hexV c).getD 0)) #[]) := by
  cases cs with
  | nil => exact absurd rfl hne
  | cons c cs =>
    unfold digits?
    rw [List.foldlM_cons, step_hex (h c (.head _))]
    show (cs.foldlM (NumText.step 16) ((#[] : Array Nat).push _, true)).bind _ = _
    rw [foldl_hex cs _ fun x hx => h x (.tail _ hx)]
    rfl
theorem push_hex : ∀ (cs : List Nat) (ds : Array Nat), (cs.foldl (fun acc c => acc.push ((hexV c).getD 0)) ds).foldl (fun acc d => acc * 16 + d) 0 = cs.foldl (fun acc c => acc * 16 + (hexV c).getD 0) (ds.foldl (fun acc d => acc * 16 + d) 0)
  | [], _ => rfl
  | c :: cs, ds => by
    rw [List.foldl_cons, push_hex cs (ds.push _), List.foldl_cons]
    congr 1
    simp
theorem drop_hex {cs : List Nat} (h : ∀ c ∈ cs, isHex c = true) : cs.dropWhile blank = cs := by
  cases cs with
  | nil => rfl
  | cons c cs => rw [List.dropWhile_cons, blank_hex (h c (.head _))]; rfl
set_option tactic.hygienic true in
theorem based_hex {cs : List Nat} (h : ∀ c ∈ cs, isHex c = true) : based 16 cs = (16, false, cs) := by
  unfold based
  split
  · rename_i p hp
    have : p ≠ 16 := by
      unfold prefix? at hp
      split at hp
      · rename_i c r
        have hc := h c (.tail _ (.head _))
        have hc2 : c ≠ 120 ∧ c ≠ 88 := by
          constructor
          · rintro rfl; exact absurd hc (by decide)
          · rintro rfl; exact absurd hc (by decide)
        have e : ((c == 120) || (c == 88)) = false := by simp [hc2.1, hc2.2]
        rw [e] at hp
        simp only [Bool.false_eq_true, if_false] at hp
        split at hp
        · cases hp; decide
        · split at hp
          · cases hp; decide
          · cases hp
      · cases hp
    have e : ((16 : Nat) == 0 || (16 : Nat) == p) = false := by simp [Ne.symm this]
    rw [e]; rfl
  · rfl
theorem read_hex {cs : List Nat} (h : ∀ c ∈ cs, isHex c = true) (hne : cs ≠ []) : (int_private% "readNumeral") 0 16 cs = (int_private% "Numeral.value") (hexNum cs : Int) := by
  rw [readNumeral_eq, drop_hex h]
  have es : sign cs = (false, cs) := by
    cases cs with
    | nil => exact absurd rfl hne
    | cons c cs => exact sign_of (digit_hex (h c (.head _))).2.2.2.2.2.1 (digit_hex (h c (.head _))).2.2.2.2.2.2
  rw [es, based_hex h]
  dsimp only
  rw [drop_hex fun c hc => h c (List.mem_reverse.mp hc), List.reverse_reverse, digits_hex h hne]
  unfold judge
  simp only []
  rw [push_hex]
  rfl
theorem wp_text {M : Model} {A : Around} {E : Value → Shared → Prop} {s : Shared} {Q : Value → Shared → Prop} {v : Value} {text : List Nat} {n : Int}
    (hs : (text.takeWhile (· != 0)).length ≤ 640) (hr : (int_private% "readNumeral") 0 16 (text.takeWhile (· != 0)) = (int_private% "Numeral.value") n)
    (ha : ((text.takeWhile (· != 0)).length == text.length) = true) (h : Q (.int n s.toks) { s with toks := s.toks + 1 }) :
    wpAny M A ((int_private% "intFromText") v text 16) Q E s := by
  obtain ⟨hp, g, d, tk, os⟩ := s
  repeat (any_goals (first
    | assumption
    | (with_reducible refine wpAny_ite_true (decide_eq_true hs) ?_)
    | (with_reducible refine wpAny_ite_true (decide_eq_true ha) ?_)
    | wp_step))
  all_goals (try rw [hr])
  all_goals (try dsimp only)
  repeat (any_goals (first
    | assumption
    | (with_reducible refine wpAny_ite_true (decide_eq_true hs) ?_)
    | (with_reducible refine wpAny_ite_true (decide_eq_true ha) ?_)
    | wp_step))
theorem text_hex {x : List Nat} (h : ∀ c ∈ x, isHex c = true) : numTextOf (sOf x) = x ∧ numSeenOf (sOf x) = x := by
  have e1 : numTextOf (sOf x) = x := by
    refine if_pos ?_
    rw [← Array.all_toList, List.all_eq_true]
    intro c hc
    have := digit_hex (h c hc)
    exact decide_eq_true (by lia)
  refine ⟨e1, ?_⟩
  show (numTextOf (sOf x)).takeWhile _ = _
  rw [e1]
  exact takeWhile_all fun c hc => bne_iff_ne.mpr (digit_hex (h c hc)).2.2.2.2.1
set_option maxHeartbeats 4000000 in
theorem gives_hex {x : List Nat} {u u' : Tok} (h : ∀ c ∈ x, isHex c = true) (hne : x ≠ []) (hl : x.length ≤ 640) : Gives (Builtin.«int.__new__» ⟨[.type "int", .str (sOf x) u, .int 16 u'], []⟩) (.int (hexNum x)) :=
  .of_wp fun M A E s Q hQ => by
    obtain ⟨hp, g, d, tk, os⟩ := s
    have f1 := F.conv_sub_int
    have f2 := F.madeHere_int
    have f6 : typeOf (.str (sOf x) u) = pure (.type "str") := rfl
    obtain ⟨e1, e2⟩ := text_hex h
    have hs : (numSeenOf (sOf x)).length ≤ 640 := by rw [e2]; exact hl
    have hr : (int_private% "readNumeral") 0 16 (numSeenOf (sOf x)) = (int_private% "Numeral.value") (hexNum x : Int) := by rw [e2]; exact read_hex h hne
    have ha : ((numSeenOf (sOf x)).length == (numTextOf (sOf x)).length) = true := by rw [e1, e2]; exact beq_self_eq_true _
    have hk := KIN.Hid.mk (And.intro hs (And.intro hr ha))
    clear hs hr ha hl h hne e1 e2
    repeat (any_goals (first
      | assumption
      | ((with_reducible show wpAny _ _ ((int_private% "intFromText") _ _ _) _ _ _); refine wp_text hk.out.1 hk.out.2.1 hk.out.2.2 ?_)
      | wp_step))
    all_goals first | exact ⟨_, rfl, hQ⟩ | skip
theorem typeCall_int_2 (a b : Value) : checkTypeCall "int" ⟨[a, b], []⟩ = pure () := by kernel_rfl
theorem newCall_int_2 (a b : Value) : checkBuiltinCall "int.__new__" ⟨[.type "int", a, b], []⟩ = pure () := by kernel_rfl
end Hex
section
variable {B : Base} {z : PH} {s : Shared} {A : Around} {Q : Value → Shared → Prop} {r : PV} {E : Value → Shared → Prop}
theorem RepL.one_inv {z : PH} {p : PV} {vs : List Value} (h : RepL B z [p] vs) : ∃ v, vs = [v] ∧ Rep B z p v := by
  obtain ⟨v, vs', rfl, h1, h2⟩ := h
  cases h2
  exact ⟨v, rfl, h1⟩
theorem RepL.two_inv {z : PH} {p q : PV} {vs : List Value} (h : RepL B z [p, q] vs) : ∃ v u, vs = [v, u] ∧ Rep B z p v ∧ Rep B z q u := by
  obtain ⟨v, vs', rfl, h1, h2⟩ := h
  obtain ⟨u, rfl, h3⟩ := RepL.one_inv h2
  exact ⟨v, u, rfl, h1, h3⟩
theorem RepL.three_inv {z : PH} {p q o : PV} {vs : List Value} (h : RepL B z [p, q, o] vs) : ∃ v u y, vs = [v, u, y] ∧ Rep B z p v ∧ Rep B z q u ∧ Rep B z o y := by
  obtain ⟨v, vs', rfl, h1, h2⟩ := h
  obtain ⟨u, y, rfl, h3⟩ := RepL.two_inv h2
  exact ⟨v, u, y, rfl, h1, h3⟩
theorem biK_ok {f : Bi} {ps : List PV} {vs : List Value} {K : PV → Prop} (hr : biK f ps K) (ra : RepL B z ps vs) (zi : ZIn z s) (h : ∀ r, K r → Out B z r s Q) :
    wpAny (model B.prog B.w) A (call f.val vs) Q E s := by
  cases f with
  | len =>
    cases ps with
    | nil => exact hr.elim
    | cons x r => cases r with
      | cons _ _ => exact hr.elim
      | nil =>
        obtain ⟨v, rfl, rx⟩ := RepL.one_inv ra
        cases x with
        | str s' =>
          obtain ⟨sx, t, rfl⟩ := rx
          refine PyProof.Rows.len_str ?_ ?_
          · rw [sOf_length]; have := sx.2; lia
          · rw [sOf_length]; exact ((h _ hr).int (by first | exact Nat.le_refl _ | exact Nat.le_succ _ | lia))
        | lst s' =>
          obtain ⟨x, n, xs, rfl, hz, hl, hsz⟩ := rx
          rw [sizeLine_is] at hsz
          have e := hl.length
          rw [Array.length_toList] at e
          refine call_len_list ⟨_, zi _ _ hz, rfl, _, rfl⟩ (by lia) ?_
          rw [e]; exact ((h _ hr).int (by first | exact Nat.le_refl _ | exact Nat.le_succ _ | lia))
        | _ => exact hr.elim
  | ord =>
    cases ps with
    | nil => exact hr.elim
    | cons x r => cases r with
      | cons _ _ => exact hr.elim
      | nil =>
        obtain ⟨v, rfl, rx⟩ := RepL.one_inv ra
        obtain ⟨s', rfl, k⟩ := onStr_inv hr
        cases s' with
        | nil => exact k.elim
        | cons c r => cases r with
          | cons _ _ => exact k.elim
          | nil =>
            obtain ⟨sx, t, rfl⟩ := rx
            exact P.ord_of_char ((h _ k).int (by first | exact Nat.le_refl _ | exact Nat.le_succ _ | lia))
  | chr =>
    cases ps with
    | nil => exact hr.elim
    | cons x r => cases r with
      | cons _ _ => exact hr.elim
      | nil =>
        obtain ⟨v, rfl, rx⟩ := RepL.one_inv ra
        obtain ⟨i, rfl, q, k⟩ := onNat_inv hr
        obtain ⟨t, rfl⟩ := rx
        refine P.chr_of_int ?_ ((h _ k).str (x := [_]) (sok_one (by simpa using q)) (by first | exact Nat.le_refl _ | exact Nat.le_succ _ | lia))
        simp only [Bool.or_eq_false_iff, decide_eq_false_iff_not]; lia
  | int =>
    cases ps with
    | nil => exact hr.elim
    | cons x r => cases r with
      | nil =>
        obtain ⟨v, rfl, rx⟩ := RepL.one_inv ra
        obtain ⟨s', rfl, q, i, hn, k⟩ := onStr_inv hr
        obtain ⟨sx, t, rfl⟩ := rx
        exact KIN.call_text hn (by rw [sOf_length]; exact q) ((h _ k).int (by first | exact Nat.le_refl _ | exact Nat.le_succ _ | lia))
      | cons y r => cases r with
        | cons _ _ => exact hr.elim
        | nil =>
          obtain ⟨v, u, rfl, rx, ry⟩ := RepL.two_inv ra
          obtain ⟨s', rfl, hr⟩ := onStr_inv hr
          obtain ⟨i, rfl, ⟨q1, q2, q3, q4⟩, k⟩ := onInt_inv hr
          obtain ⟨sx, t, rfl⟩ := rx; obtain ⟨t', rfl⟩ := ry
          subst q3
          exact callType_new F.called_int F.newNe_int (Hex.typeCall_int_2 _ _) (Hex.newCall_int_2 _ _) (fun obj => F.args_object_init_3 obj _ _) F.entry_int_new
            (Hex.gives_hex (fun c hc => List.all_eq_true.mp q4 c hc) q2 q1).meets (show (Made.int _).post _ s from ⟨rfl, ((h _ k).int (by first | exact Nat.le_refl _ | exact Nat.le_succ _ | lia))⟩)
end
end Mine
end
section
namespace Mine
open PySem PySem.W PySem.Calls PyProof.Rows PySem.Builtin PySem.Builtin.Str PySem.NumText
section
variable {B : Base} {z : PH} {s : Shared} {A : Around} {Q : Value → Shared → Prop} {r o : PV} {E : Value → Shared → Prop}
theorem startsAt_eq (x p : List Nat) (i : Nat) : (decide (i + (sOf p).length ≤ (sOf x).length) && subAt (sOf x) (sOf p) i) = startsAt x p i := by
  rw [StrLaws.subAt_eq, sOf_length, sOf_length]
  unfold startsAt
  rw [Bool.and_comm]
theorem fromIndex_nonneg {i : Int} {n : Nat} (h : 0 ≤ i) : fromIndex n i = i.toNat := by
  unfold fromIndex
  rw [if_neg (by lia)]
  congr 1
  lia
set_option tactic.hygienic true in
theorem sw_tuple {x : Str} {t : Tok} {a : Addr} {i : Int} {u : Tok} {o : Obj} {xs : Array Value} {n : Nat} {ys : List Str} (h0 : 0 ≤ i) (ho : s.heap.get? a = some o) (hc : o.cls = .type "tuple") (hd : o.data = .seq xs n)
   (hx : StrsAre xs.toList ys) (hq : Q (.bool (ys.any fun p => decide (i.toNat + p.length ≤ x.length) && subAt x p i.toNat)) s) :
   wpAny (model B.prog B.w) A («str.startswith» ⟨[.str x t, .ref a, .int i u], []⟩) (fun fin s' => ∃ v, fin = .done (.ret v) ∧ Q v s') E s := by
  obtain ⟨hp, g, d, tk, os⟩ := s
  have hT : Shared.TypeIs ⟨hp, g, d, tk, os⟩ (.ref a) "tuple" := ⟨o, ho, hc⟩
  have hS : isSubtype o.cls (.type "tuple") = pure true := by rw [hc, isSubtype_type]; kernel_rfl
  have hI := F.slot_int_index.lookup
  unfold «str.startswith» affixEntry
  repeat wp_step
  rw [hd]
  repeat wp_step
  rw [hd]
  repeat wp_step
  have e1 : (Max.max 0 (if i < 0 then i + (x.length : Int) else i)).toNat = i.toNat := by
    rw [if_neg (by lia)]; lia
  have e2 : Min.min ((x.length : Int)).toNat x.length = x.length := by lia
  rw [e1, e2]
  refine wpAny_forIn_array' _ (fun rest b s' => s' = ⟨hp, g, d, tk, os⟩ ∧ ∃ zs, StrsAre rest zs ∧ b = (none, ()) ∧ Q (.bool (zs.any fun p => decide (i.toNat + p.length ≤ x.length) && subAt x p i.toNat)) ⟨hp, g, d, tk, os⟩) _ ?_ ?_ xs _ ⟨rfl, ys, hx, rfl, hq⟩
  · rintro v rest b s' ⟨rfl, zs, hz, rfl, hq'⟩
    cases hz with
    | cons y t' hz' =>
      rename_i ys'
      dsimp only [asStr?]
      refine wpAny_bind (wpAny_pure ?_)
      dsimp only
      by_cases hb : (decide (i.toNat + y.length ≤ x.length) && subAt x y i.toNat) = true
      · rw [if_pos hb]
        refine wpAny_bind (wpAny_pure (wpAny_pure ?_))
        dsimp only
        refine wpAny_pure ⟨_, rfl, ?_⟩
        rw [List.any_cons, hb, Bool.true_or] at hq'
        exact hq'
      · rw [if_neg hb]
        refine wpAny_pure ⟨rfl, ys', hz', rfl, ?_⟩
        rw [List.any_cons, Bool.eq_false_iff.mpr hb, Bool.false_or] at hq'
        exact hq'
  · rintro b s' ⟨rfl, zs, hz, rfl, hq'⟩
    cases hz
    dsimp only
    exact wpAny_pure ⟨_, rfl, hq'⟩
theorem any_starts (x : List Nat) (i : Nat) (l : List (List Nat)) : ((l.map sOf).any fun p => decide (i + p.length ≤ (sOf x).length) && subAt (sOf x) p i) = l.any fun p => startsAt x p i := by
  rw [List.any_map]
  congr 1
  funext p
  exact startsAt_eq x p i
theorem gives_rfind4 (x y : Str) (i j : Int) (t u v w : Tok) (hi : 0 ≤ i) (hj : 0 ≤ j) : Gives («str.rfind» ⟨[.str x t, .str y u, .int i v, .int j w], []⟩)
    (.int (match lastOccurrence x y i.toNat (min j.toNat x.length) with | some k => (k : Int) | none => -1)) := by
  show Gives (match lastOccurrence x y (fromIndex x.length i) (min (fromIndex x.length j) x.length) with | some k => retInt k | none => (do rule "str.rfind.not-found"; retInt (-1))) _
  rw [fromIndex_nonneg hi, fromIndex_nonneg hj]
  cases lastOccurrence x y i.toNat (min j.toNat x.length) with
  | none => exact .rule (.of_eq rfl)
  | some k => exact .of_eq rfl
theorem gives_count4 (x y : Str) (i j : Int) (t u v w : Tok) (hi : 0 ≤ i) (hj : 0 ≤ j) : Gives («str.count» ⟨[.str x t, .str y u, .int i v, .int j w], []⟩)
    (.int (occurrences x y i.toNat (min j.toNat x.length) (x.length + 1)).length) := by
  show Gives (retInt (occurrences x y (fromIndex x.length i) (min (fromIndex x.length j) x.length) (x.length + 1)).length) _
  rw [fromIndex_nonneg hi, fromIndex_nonneg hj]
  exact .of_eq rfl
theorem glued_empty (l : List (List Nat)) : glued (sOf []) (l.map sOf) = sOf l.flatten := by
  have key : ∀ (l : List (List Nat)) (acc : Array Nat), (l.map sOf).foldl (fun acc p => acc ++ (sOf []).cps ++ p.cps) acc = acc ++ l.flatten.toArray := by
    intro l
    induction l with
    | nil => intro acc; simp
    | cons a l ih =>
      intro acc
      have := ih (acc ++ a.toArray)
      simp at this
      simp [this]
  cases l with
  | nil => rfl
  | cons a l =>
    unfold glued
    simp only [List.map_cons, List.drop_succ_cons, List.drop_zero, List.headD_cons]
    rw [key]
    simp
theorem strPairs_of : ∀ {vs : List Value} {ys : List Str}, StrsAre vs ys → ∃ l : List (Str × Tok), vs = strValues l ∧ l.map (·.1) = ys
  | _, _, .nil => ⟨[], rfl, rfl⟩
  | _, _, .cons y t h => by obtain ⟨l, a, b⟩ := strPairs_of h; exact ⟨(y, t) :: l, by rw [a]; rfl, by rw [← b]; rfl⟩
theorem fold_len (l : List (List Nat)) : ∀ n, ((l.map sOf).toArray.foldl (fun a p => a + p.length + (sOf []).length) n) = n + l.flatten.length := by
  induction l with
  | nil => intro n; simp
  | cons a l ih =>
    intro n
    simp only [List.map_cons, List.foldl_toArray', List.foldl_cons, sOf_length, List.length_nil, Nat.add_zero, List.flatten_cons, List.length_append] at ih ⊢
    have := ih (n + a.length)
    simp at this
    simp [this]
    lia
noncomputable def Mt.id : Mt → String
  | .startswith => "str.startswith" | .rfind => "str.rfind" | .count => "str.count" | .join => "str.join" | .get => "dict.get"
noncomputable def Mt.ty : Mt → String
  | .get => "dict" | _ => "str"
theorem get_end {ks : List (List Nat)} {ps : List PV} {xs : List Value} {k : List Nat} {dv : PV} {u : Value} (hl : RepL B z ps xs) (hd : Rep B z dv u) (h : Out B z ((assocP k ks ps).getD dv) s Q) :
    Q ((assocL (sOf k) ks xs).getD u) { s with toks := s.toks + 1 } := by
  cases hk : assocP k ks ps with
  | none =>
    rw [assocL_none hl hk]
    rw [hk] at h
    exact h _ _ (Nat.le_succ _) hd
  | some p =>
    obtain ⟨x, e1, e2⟩ := assocL_some hl hk
    rw [e1]
    rw [hk] at h
    exact h _ _ (Nat.le_succ _) e2
theorem ints_items {l : List Int} : ∀ {vs : List Value}, RepL B z (l.map .int) vs → ItemsAre (intKind B.prog B.w) l vs := by
  induction l with
  | nil => intro vs r; cases r; exact .nil
  | cons i l ih =>
    intro vs r
    obtain ⟨v, ws, rfl, ⟨t, rfl⟩, h⟩ := r
    exact .cons (beq_self_eq_true _) (ih h)
theorem tkey_of {l : List Int} {v : Value} (r : Rep B z (.tup (l.map .int)) v) : ∃ a, v = .ref a ∧ TKey B.prog B.w z l a := by
  obtain ⟨a, n, xs, rfl, h1, h2, _⟩ := r
  exact ⟨a, rfl, _, _, _, h1, rfl, rfl, ints_items h2⟩
theorem TKey.at {l : List Int} {a : Addr} (k : TKey B.prog B.w z l a) (zi : ZIn z s) : (tupleKind (intKind B.prog B.w)).is s.heap l a := by
  obtain ⟨o, xs, n, h1, h2⟩ := k; exact ⟨o, xs, n, zi _ _ h1, h2⟩
theorem dictT_at {a : Addr} {o : Obj} {es : Array DictEntry} {ep : Nat} {ks : List (List Int)} {xs : List Value} (h1 : s.heap.get? a = some o) (h2 : o.ExactDict) (h3 : o.data = .dict es ep) (h4 : TEnt B.prog B.w z es ks xs) (zi : ZIn z s) :
    ∃ l, s.heap.DictOfH (tupleKind (intKind B.prog B.w)) a l ∧ l.map (·.1) = ks ∧ l.map (·.2.2) = xs ∧ l.length ≤ 1000 ∧ ks.Nodup ∧ (∀ x ∈ l, TKey B.prog B.w z x.1 x.2.1) := by
  obtain ⟨l, e1, e2, e3, e4, e5, e6⟩ := h4
  exact ⟨l, ⟨o, es, ep, h1, h2, h3, e1, fun x hx => (e2 x hx).at zi, by rw [e3]; exact e5⟩, e3, e4, e6, e5, e2⟩
theorem atKey_T {k : List Int} : ∀ {l : List (List Int × Addr × Value)} {ps : List PV}, RepL B z ps (l.map (·.2.2)) →
    (∃ p x, assocT k (l.map (·.1)) ps = some p ∧ (atKey l k).map (·.2) = some x ∧ Rep B z p x) ∨ (assocT k (l.map (·.1)) ps = none ∧ (atKey l k).map (·.2) = none)
  | [], ps, _ => .inr ⟨rfl, rfl⟩
  | (a, b, c) :: l, [], r => nomatch r
  | (a, b, c) :: l, p :: ps, r => by
    obtain ⟨v, vs, e, hv, hr⟩ := r
    obtain ⟨rfl, rfl⟩ := List.cons.inj e
    have ih := atKey_T (k := k) hr
    show (∃ p' x, (if a = k then some p else assocT k (l.map (·.1)) ps) = some p' ∧ _ ∧ _) ∨ ((if a = k then some p else assocT k (l.map (·.1)) ps) = none ∧ _)
    unfold atKey at ih ⊢
    by_cases e : a = k
    · have hf : List.find? (fun x => decide (x.1 = k)) ((a, b, c) :: l) = some (a, b, c) := List.find?_cons_of_pos (decide_eq_true e)
      rw [if_pos e, hf]
      exact .inl ⟨p, c, rfl, rfl, hv⟩
    · have hf : List.find? (fun x => decide (x.1 = k)) ((a, b, c) :: l) = List.find? (fun x => decide (x.1 = k)) l := List.find?_cons_of_neg (by simpa using e)
      rw [if_neg e, hf]
      exact ih
theorem tget_end {ks : List (List Int)} {ps : List PV} {l : List (List Int × Addr × Value)} {k : List Int} {dv : PV} {u : Value} {t : Nat} (hl : RepL B z ps (l.map (·.2.2))) (hk : l.map (·.1) = ks) (hd : Rep B z dv u)
    (h : Out B z ((assocT k ks ps).getD dv) s Q) (ht : s.toks ≤ t) : Q (((atKey l k).map (·.2)).getD u) { s with toks := t } := by
  subst hk
  rcases atKey_T (k := k) hl with ⟨p, x, e1, e2, e3⟩ | ⟨e1, e2⟩
  · rw [e1] at h; rw [e2]; exact h _ _ ht e3
  · rw [e1] at h; rw [e2]; exact h _ _ ht hd
theorem recv_type {f : Mt} {ov : Value} {P : Prop} (h : onRecv f o P) (ra : Rep B z o ov) (zi : ZIn z s) : s.TypeIs ov f.ty ∧ (∀ a, ov = .ref a → ∃ ob, s.heap.get? a = some ob ∧ ob.dict = none) ∧ P := by
  cases f with
  | get =>
    cases o with
    | dct ks ps =>
      obtain ⟨x, xs, rfl, hs, hlen, hl, o, es, ep, h1, h2, h3, _⟩ := ra
      exact ⟨⟨_, zi _ _ h1, h2.1⟩, fun a e => by cases e; exact ⟨_, zi _ _ h1, h2.2.1⟩, h⟩
    | tdc ks ps =>
      obtain ⟨x, xs, rfl, hs, hl, o, es, ep, h1, h2, h3, _⟩ := ra
      exact ⟨⟨_, zi _ _ h1, h2.1⟩, fun a e => by cases e; exact ⟨_, zi _ _ h1, h2.2.1⟩, h⟩
    | _ => exact h.elim
  | _ =>
    obtain ⟨x, rfl, k⟩ := onStr_inv h
    obtain ⟨_, t, rfl⟩ := ra
    exact ⟨typeIs_str s _ _, (fun a e => nomatch e), k⟩
theorem methK_ok {f : Mt} {ps : List PV} {vs : List Value} {ov : Value} {K : PV → Prop} (hr : methK f o ps K) (ro : Rep B z o ov) (ra : RepL B z ps vs) (zi : ZIn z s) (hu : A.units + 64 < cLine) (h : ∀ r, K r → Out B z r s Q) :
    wpAny (model B.prog B.w) A (call (.builtin f.id) (ov :: vs)) Q E s := by
  cases f with
  | startswith =>
    obtain ⟨x, rfl, hr⟩ := onStr_inv hr
    obtain ⟨p, y, rfl, hr⟩ := on2_inv hr
    obtain ⟨_, t, rfl⟩ := ro
    obtain ⟨v, u, rfl, rp, ry⟩ := RepL.two_inv ra
    obtain ⟨i, rfl, k⟩ := onNat_inv hr
    obtain ⟨t'', rfl⟩ := ry
    have q : (0 : Int) ≤ i := Int.natCast_nonneg i
    cases p with
    | str p =>
      obtain ⟨_, t', rfl⟩ := rp
      refine call_gives F.slot_str_startswith (typeIs_str _ _ _) F.entry_str_startswith (F.args_str_startswith_3 _ _ _) (gives_str_startswith_from _ _ _ _ _ _) ?_
      rw [fromIndex_nonneg q, startsAt_eq]
      exact ((h _ k).bool (by first | exact Nat.le_refl _ | exact Nat.le_succ _ | lia))
    | tup p =>
      obtain ⟨l, hl, k⟩ := onStrs_inv k
      obtain ⟨a, n, xs, rfl, hz, hxs, _⟩ := rp
      refine wpAny_call_entry F.slot_str_startswith (typeIs_str _ _ _) F.entry_str_startswith ?_ (F.args_str_startswith_3 _ _ _)
      refine sw_tuple q (zi _ _ hz) rfl rfl (strsAre_of hxs hl).1 ?_
      rw [any_starts]
      exact ((h _ k).bool (by first | exact Nat.le_refl _ | exact Nat.le_succ _ | lia))
    | _ => exact k.elim
  | rfind =>
    obtain ⟨x, rfl, hr⟩ := onStr_inv hr
    obtain ⟨p, a, b, rfl, hr⟩ := on3_inv hr
    obtain ⟨p, rfl, hr⟩ := onStr_inv hr
    obtain ⟨c, rfl, hr⟩ := onChr_inv hr
    obtain ⟨i, rfl, hr⟩ := onNat_inv hr
    obtain ⟨j, rfl, k⟩ := onNat_inv hr
    obtain ⟨_, t, rfl⟩ := ro
    obtain ⟨v, u, y, rfl, ⟨_, t', rfl⟩, ⟨t'', rfl⟩, ⟨t3, rfl⟩⟩ := RepL.three_inv ra
    refine call_gives F.slot_str_rfind (typeIs_str _ _ _) F.entry_str_rfind (F.args_str_rfind_4 _ _ _ _) (gives_rfind4 _ _ _ _ _ _ _ _ (Int.natCast_nonneg i) (Int.natCast_nonneg j)) ?_
    rw [sOf_length]
    exact ((h _ k).int (by first | exact Nat.le_refl _ | exact Nat.le_succ _ | lia))
  | count =>
    obtain ⟨x, rfl, hr⟩ := onStr_inv hr
    obtain ⟨p, a, b, rfl, hr⟩ := on3_inv hr
    obtain ⟨p, rfl, hr⟩ := onStr_inv hr
    obtain ⟨c, rfl, hr⟩ := onChr_inv hr
    obtain ⟨i, rfl, hr⟩ := onNat_inv hr
    obtain ⟨j, rfl, k⟩ := onNat_inv hr
    obtain ⟨_, t, rfl⟩ := ro
    obtain ⟨v, u, y, rfl, ⟨_, t', rfl⟩, ⟨t'', rfl⟩, ⟨t3, rfl⟩⟩ := RepL.three_inv ra
    refine call_gives F.slot_str_count (typeIs_str _ _ _) F.entry_str_count (F.args_str_count_4 _ _ _ _) (gives_count4 _ _ _ _ _ _ _ _ (Int.natCast_nonneg i) (Int.natCast_nonneg j)) ?_
    rw [sOf_length]
    exact ((h _ k).int (by first | exact Nat.le_refl _ | exact Nat.le_succ _ | lia))
  | join =>
    obtain ⟨x, rfl, hr⟩ := onStr_inv hr
    obtain ⟨_, t, rfl⟩ := ro
    cases x with
    | cons _ _ => exact hr.elim
    | nil =>
    obtain ⟨p, rfl, hr⟩ := on1_inv hr
    obtain ⟨v, rfl, rp⟩ := RepL.one_inv ra
    obtain ⟨ps, rfl, l, hl, q, k⟩ := onLst_inv hr
    obtain ⟨a, n, xs, rfl, hz, hxs, _⟩ := rp
    have h := h _ k
    obtain ⟨e1, e2⟩ := strsAre_of hxs hl
    obtain ⟨lp, e3, e4⟩ := strPairs_of e1
    have hx : xs = (strValues lp).toArray := by rw [← e3]
    have hsok : sok l.flatten := ⟨fun c hc => by obtain ⟨y, hy, hc⟩ := List.mem_flatten.mp hc; exact (e2 y hy).1 c hc, q⟩
    refine call_meets F.slot_str_join (typeIs_str _ _ _) F.entry_str_join (F.args_str_join_2 _ _) (meets_str_join_list _ _ a lp ?_) ⟨⟨_, zi _ _ hz, rfl, _, by rw [hx]⟩, ?_⟩
    · rw [e4, fold_len, Nat.zero_add]
      unfold tooLong
      rw [sizeLine_is]
      exact decide_eq_false (by lia)
    · unfold joinMade
      split
      · rename_i p
        have : l = [p.1.cps.toList] := by
          have : l.map sOf = [p.1] := by rw [← e4]; rfl
          cases l with
          | nil => simp at this
          | cons x l =>
            simp at this
            rw [← this.1, this.2]
        subst this
        have := h.str hsok (t := s.toks) (u := p.2) (Nat.le_refl _)
        simp only [List.flatten_cons, List.flatten_nil, List.append_nil] at this
        exact this
      · rw [e4, glued_empty]
        exact ⟨by rw [sOf_length, sizeLine_is]; exact q, (h.str hsok (by first | exact Nat.le_refl _ | exact Nat.le_succ _ | lia))⟩
  | get =>
    cases o with
    | dct ks pv =>
      obtain ⟨key, dv, rfl, hr⟩ := on2_inv hr
      obtain ⟨k0, rfl, k⟩ := onStr_inv hr
      obtain ⟨a, xs, rfl, hs, hlen, hl, hm⟩ := ro
      obtain ⟨v, u, rfl, ⟨_, t', rfl⟩, hd⟩ := RepL.two_inv ra
      have hm' := hm.heap zi
      refine call_meetsIn F.slot_dict_get hm'.typeIs F.entry_dict_get (F.args_dict_get_3 _ _ _) (meets_dict_get_default (strKind B.prog B.w) a (strKind_is _ _ _ t') hs u) ⟨_, hm', ?_⟩
      exact get_end hl hd (h _ k)
    | tdc ks pv =>
      obtain ⟨key, dv, rfl, hr⟩ := on2_inv hr
      obtain ⟨l, rfl, k⟩ := hr
      obtain ⟨a, xs, rfl, hs, hl, o, es, ep, h1, h2, h3, h4⟩ := ro
      obtain ⟨v, u, rfl, rk, hd⟩ := RepL.two_inv ra
      obtain ⟨ka, rfl, tk⟩ := tkey_of rk
      obtain ⟨kvs, hm, e1, e2, _, _, _⟩ := dictT_at (zi _ _ h1) h2 h3 h4 zi
      subst e2
      exact call_meetsIn F.slot_dict_get hm.typeIs F.entry_dict_get (F.args_dict_get_3 _ _ _) (meetsH_dict_get_default _ a ka hs u) ⟨tupleKind_room_in1 (by lia), l, kvs, tk.at zi, hm, tget_end hl e1 hd (h _ k) (Nat.le_add_right _ _)⟩
    | _ => exact hr.elim
end
end Mine
end
section
namespace Mine
open PySem PySem.W PySem.Calls PyProof.Rows PySem.Builtin PySem.Builtin.Str PySem.NumText
theorem getL_get : ∀ {ρ : Loc} {i : Nat} {v : PV}, getL ρ i = some v → ρ[i]? = some (some v)
  | [], _, _, h => by cases h
  | _ :: _, 0, _, h => congrArg some h
  | _ :: r, n + 1, _, h => by rw [List.getElem?_cons_succ]; exact getL_get (ρ := r) h
theorem setL_set : ∀ (ρ : Loc) (i : Nat) (v : PV), setL ρ i v = ρ.set i (some v)
  | [], _, _ => rfl
  | _ :: _, 0, _ => rfl
  | o :: r, n + 1, v => congrArg (o :: ·) (setL_set r n v)
structure EnvOK (B : Base) (T : Tab) (env : Env) (vars : List Str) (sc : Scope) (L : Addr) : Prop where
  hsc : env.scope = sc
  kind : sc.kind = .function
  hL : env.locals = L
  g : env.globals = mainGlobals
  b : env.builtins = builtinsNs
  loc : ∀ x ∈ vars, sc.names.lookup x = some .local ∧ (x == ("__debug__" : Str)) = false
  nd : vars.Nodup
  cok : ∀ nm, sc.names.lookup nm = some .cell → ∃ a, env.cells.lookup nm = some a
  cel : ∀ nm p a, sc.names.lookup nm = some .cell → env.cells.lookup nm = some a → T.cel nm = some p → ∃ v, B.heap.IsCell a (some v) ∧ Rep B B.heap.get? p v
structure GoodB (B : Base) : Prop where
  mg : B.heap.Ns mainGlobals B.mg
  mb : B.heap.Ns builtinsNs B.mb
  nolimit : B.heap.NoLimit
  bi : ∀ f : Bi, B.mg f.name = none ∧ B.mb f.name = some f.val
  en : B.mg "enumerate" = none ∧ B.mb "enumerate" = some (.type "enumerate")
  sysm : ∃ o, B.heap.get? sysModules = some o
noncomputable def AttSem (B : Base) (c : Addr) (nm : Str) : AttR → Prop
  | .slot i => ∀ (A : Around) (E : Value → Shared → Prop) (Q : Value → Shared → Prop) (s : Shared) (x d : Addr) (sl : Array (Option Value)) (v : Value), BaseIn B s →
      s.heap.get? x = some ⟨.ref c, some d, .plain, sl⟩ → s.heap.get? d = some emptyDict → sl[i]? = some (some v) → handedIn v = true → (∀ t, s.toks ≤ t → Q v { s with toks := t }) → wpAny (model B.prog B.w) A (getAttr (.ref x) nm true) Q E s
  | .val p => ∀ (A : Around) (E : Value → Shared → Prop) (Q : Value → Shared → Prop) (s : Shared) (x d : Addr) (sl : Array (Option Value)), BaseIn B s →
      s.heap.get? x = some ⟨.ref c, some d, .plain, sl⟩ → s.heap.get? d = some emptyDict → (∀ v t, s.toks ≤ t → Rep B B.heap.get? p v → Q v { s with toks := t }) → wpAny (model B.prog B.w) A (getAttr (.ref x) nm true) Q E s
noncomputable def SatSem (B : Base) (c : Addr) (nm : Str) (i : Nat) : Prop :=
  ∀ (A : Around) (E : Value → Shared → Prop) (Q : Unit → Shared → Prop) (s : Shared) (x d L : Addr) (m : Str → Option Value) (sl : Array (Option Value)) (v : Value), BaseIn B s → B.heap.get? x = none →
    s.heap.get? x = some ⟨.ref c, some d, .plain, sl⟩ → s.heap.get? d = some emptyDict → s.heap.Ns L m → x ≠ L →
    (∀ h' t, s.toks ≤ t → (∀ b o, b ≠ x → b ≠ L → s.heap.get? b = some o → h'.get? b = some o) → h'.Ns L m →
      h'.get? x = some ⟨.ref c, some d, .plain, (sl ++ Array.replicate (i + 1 - sl.size) none).setIfInBounds i (some v)⟩ → Q () { s with heap := h', toks := t }) →
    wpAny (model B.prog B.w) A (setAttr (.ref x) nm v) Q E s
noncomputable def StatSem (B : Base) (cls nm : Str) (fv : Value) : Prop :=
  ∃ C, B.mg cls = some (.ref C) ∧ ∀ (A : Around) (E : Value → Shared → Prop) (Q : Value × List Value → Shared → Prop) (s : Shared) (pl : Sem Bool), BaseIn B s →
    (∀ t, s.toks ≤ t → Q (fv, []) { s with toks := t }) → wpAny (model B.prog B.w) A (getMethod (.ref C) nm pl) Q E s
structure GoodT (B : Base) (T : Tab) : Prop where
  att : ∀ c nm r, T.att c nm = some r → AttSem B c nm r
  sat : ∀ c nm i, T.sat c nm = some i → SatSem B c nm i
  stat : ∀ c nm v, T.stat c nm = some v → StatSem B c nm v
noncomputable def padd (P : PH) (a : Addr) (o : Obj) : PH := fun b => if b = a then some o else P b
section
variable {B : Base} {T : Tab} {z z' P : PH} {vars : List Str} {L : Addr} {ρ : Loc} {H H' : AH} {s s' : Shared} {A : Around} {d : Nat} {env : Env} {sc : Scope}
theorem StC.bin (S : StC B z P H s) : BaseIn B s := fun a o e => S.zin a o (S.base a o e)
theorem St.toCall (S : St B z P vars L ρ H s) : ∃ o, StC B z (padd P L o) H s ∧ s.heap.get? L = some o := by
  obtain ⟨m, ⟨o, es, ep, ho, r⟩, _⟩ := S.loc
  refine ⟨o, ⟨S.c.base, S.c.zin, fun a x e => ?_, S.c.hin, S.c.os, S.c.gens, S.c.tk⟩, ho⟩
  unfold padd at e
  split at e
  · rename_i q; subst q; cases e; exact ⟨ho, S.lz, S.lh⟩
  · exact S.c.pin a x e
theorem St.ofCall {o : Obj} (S : St B z P vars L ρ H s) (ho : s.heap.get? L = some o) (hle : zle z z') (S' : StC B z' (padd P L o) H' s') : St B z' P vars L ρ H' s' := by
  have hL := S'.pin L o (by simp [padd])
  refine ⟨⟨S'.base, S'.zin, fun a x e => ?_, S'.hin, S'.os, S'.gens, S'.tk⟩, hL.2.1, S.lp, hL.2.2, ?_⟩
  · have ha : a ≠ L := by rintro rfl; rw [S.lp] at e; cases e
    exact S'.pin a x (by simp [padd, ha, e])
  · obtain ⟨m, ⟨o', es, ep, ho', r⟩, l⟩ := S.loc
    rw [ho] at ho'; cases ho'
    exact ⟨m, ⟨o, es, ep, hL.1, r⟩, l.mono hle⟩
noncomputable def PE (B : Base) (P : PH) (vars : List Str) (L : Addr) (ρ : Loc) (z : PH) (Q : PV → AH → Prop) : Value → Shared → Prop :=
  fun v s' => ∃ z' p H', zle z z' ∧ St B z' P vars L ρ H' s' ∧ Rep B z' p v ∧ Q p H'
noncomputable def PEs (B : Base) (P : PH) (vars : List Str) (L : Addr) (ρ : Loc) (z : PH) (Q : List PV → AH → Prop) : List Value → Shared → Prop :=
  fun vs s' => ∃ z' ps H', zle z z' ∧ St B z' P vars L ρ H' s' ∧ RepL B z' ps vs ∧ Q ps H'
noncomputable def PT (B : Base) (P : PH) (vars : List Str) (L : Addr) (ρ : Loc) (z : PH) (Q : DP → AH → Prop) : Bool → Shared → Prop :=
  fun b s' => ∃ z' H' c, zle z z' ∧ St B z' P vars L ρ H' s' ∧ c.dec = b ∧ Q c H'
theorem PE.le {Q : PV → AH → Prop} {v : Value} (h : zle z z') (x : PE B P vars L ρ z' Q v s) : PE B P vars L ρ z Q v s :=
  by obtain ⟨a, p, H, h1, h2⟩ := x; exact ⟨a, p, H, h.trans h1, h2⟩
theorem PT.le {Q : DP → AH → Prop} {v : Bool} (h : zle z z') (x : PT B P vars L ρ z' Q v s) : PT B P vars L ρ z Q v s :=
  by obtain ⟨a, H, c, h1, h2⟩ := x; exact ⟨a, H, c, h.trans h1, h2⟩
theorem St.out {r : PV} {Q : PV → AH → Prop} (S : St B z P vars L ρ H s) (h : Q r H) : Out B z r s (PE B P vars L ρ z Q) :=
  fun xx xx ht hr => ⟨z, r, H, zle.refl z, S.toks ht, hr, h⟩
theorem St.zi (S : St B z P vars L ρ H s) : ZIn z s := S.c.zin
theorem no (x : Value) (s : Shared) {p : Prop} (h : NoExc x s) : p := h.elim
theorem EnvOK.scope_kind (V : EnvOK B T env vars sc L) : env.scope.kind = .function := by rw [V.hsc, V.kind]
theorem EnvOK.local {x : Str} (V : EnvOK B T env vars sc L) (h : x ∈ vars) : env.kindOf x = some .local := by
  unfold Env.kindOf; rw [V.hsc]; exact (V.loc x h).1
theorem EnvOK.glb {x : Str} (V : EnvOK B T env vars sc L) (h : glb sc x = true) : env.kindOf x = some .globalImplicit ∧ (x == ("__debug__" : Str)) = false := by
  unfold Mine.glb at h
  simp only [Bool.and_eq_true, beq_iff_eq, Bool.not_eq_true'] at h
  refine ⟨?_, h.1.2⟩
  unfold Env.kindOf; rw [V.hsc]; exact h.1.1
theorem var_ok {M : Model} {i : Nat} {id : Str} {pos : Pos} {v : PV} {E : Value → Shared → Prop} {Q : Value → Shared → Prop} (V : EnvOK B T env vars sc L) (S : St B z P vars L ρ H s) (hc : locOk vars i id = true) (hv : getL ρ i = some v)
    (h : ∀ x, Rep B z v x → Q x s) : wpAny M A (eval (.Name id pos) env) Q E s := by
  unfold locOk at hc
  have hi : vars[i]? = some id := by simpa using hc
  have hm : id ∈ vars := List.mem_of_getElem? hi
  obtain ⟨m, hn, hl⟩ := S.loc
  obtain ⟨x, hx, hr⟩ := hl i id v hi (getL_get hv)
  refine wpAny_Name (wpAny_loadName_local V.scope_kind (V.local hm) (by rw [V.hL]; exact hn) hx (h x hr)) (V.loc id hm).2
theorem ldvar_ok {M : Model} {i : Nat} {id : Str} {v : PV} {E : Value → Shared → Prop} {Q : Value → Shared → Prop} (V : EnvOK B T env vars sc L) (S : St B z P vars L ρ H s) (hc : locOk vars i id = true) (hv : getL ρ i = some v)
    (h : ∀ x, Rep B z v x → Q x s) : wpAny M A (loadName env id) Q E s := by
  unfold locOk at hc
  have hi : vars[i]? = some id := by simpa using hc
  have hm : id ∈ vars := List.mem_of_getElem? hi
  obtain ⟨m, hn, hl⟩ := S.loc
  obtain ⟨x, hx, hr⟩ := hl i id v hi (getL_get hv)
  exact wpAny_loadName_local V.scope_kind (V.local hm) (by rw [V.hL]; exact hn) hx (h x hr)
theorem cel_ok {M : Model} {id : Str} {pos : Pos} {p : PV} {E : Value → Shared → Prop} {Q : Value → Shared → Prop} (V : EnvOK B T env vars sc L) (S : StC B z P H s) (hc : sc.names.lookup id = some .cell) (hd : (id == ("__debug__" : Str)) = false)
    (hT : T.cel id = some p) (h : ∀ x, Rep B z p x → Q x s) : wpAny M A (eval (.Name id pos) env) Q E s := by
  obtain ⟨a, ha⟩ := V.cok id hc
  obtain ⟨v, hv, r⟩ := V.cel id p a hc ha hT
  exact wpAny_Name (wpAny_loadName_cell V.scope_kind (by unfold Env.kindOf; rw [V.hsc]; exact hc) ha (hv.keeps fun b o e => S.zin b o (S.base b o e)) (h v (r.mono S.base))) hd
theorem glob_ok {M : Model} {id : Str} {pos : Pos} {v : Value} {E : Value → Shared → Prop} {Q : Value → Shared → Prop} (V : EnvOK B T env vars sc L) (G : GoodB B) (hb : BaseIn B s) (hc : glb sc id = true) (hv : B.mg id = some v)
    (h : Q v s) : wpAny M A (eval (.Name id pos) env) Q E s :=
  Name_function_global V.scope_kind (V.glb hc).1 (loadGlobal_global (by rw [V.g]; exact G.mg.keeps hb) hv h) (V.glb hc).2
theorem bi_name {M : Model} {f : Bi} {pos : Pos} {E : Value → Shared → Prop} {Q : Value → Shared → Prop} (V : EnvOK B T env vars sc L) (G : GoodB B) (hb : BaseIn B s) (hc : glb sc f.name = true)
    (h : Q f.val s) : wpAny M A (eval (.Name f.name pos) env) Q E s :=
  Name_function_global V.scope_kind (V.glb hc).1 (loadGlobal_builtin (by rw [V.g]; exact G.mg.keeps hb) (G.bi f).1 (by rw [V.b]; exact G.mb.keeps hb) (G.bi f).2 h) (V.glb hc).2
theorem en_name {M : Model} {pos : Pos} {E : Value → Shared → Prop} {Q : Value → Shared → Prop} (V : EnvOK B T env vars sc L) (G : GoodB B) (hb : BaseIn B s) (hc : glb sc "enumerate" = true)
    (h : Q (.type "enumerate") s) : wpAny M A (eval (.Name "enumerate" pos) env) Q E s :=
  Name_function_global V.scope_kind (V.glb hc).1 (loadGlobal_builtin (by rw [V.g]; exact G.mg.keeps hb) G.en.1 (by rw [V.b]; exact G.mb.keeps hb) G.en.2 h) (V.glb hc).2
theorem store_ok {M : Model} {i : Nat} {id : Str} {v : PV} {x : Value} {E : Value → Shared → Prop} {Q : Unit → Shared → Prop} (V : EnvOK B T env vars sc L) (S : St B z P vars L ρ H s) (hc : locOk vars i id = true) (hr : Rep B z v x)
    (h : ∀ h', St B z P vars L (setL ρ i v) H { s with heap := h', toks := s.toks + 1 } → Q () { s with heap := h', toks := s.toks + 1 }) : wpAny M A (storeName env id x) Q E s := by
  unfold locOk at hc
  have hi : vars[i]? = some id := by simpa using hc
  have hm : id ∈ vars := List.mem_of_getElem? hi
  obtain ⟨m, hn, hl⟩ := S.loc
  refine wpAny_storeName_local (V.local hm) (by rw [V.hL]; exact hn) (fun h' hns hs => h h' ?_) ?_
  · rw [V.hL] at hns hs
    rw [setL_set]; exact S.setLoc (Nat.le_succ _) V.nd hi m hl hns hs hr
  · rw [V.scope_kind]; rfl
theorem spliced_all {M : Model} {trees : List (Bool × Sem Value)} {E : Value → Shared → Prop} {f : Value} {Q : Args → Shared → Prop} (hp : trees.any (·.1) = false)
    (h : wpAny M A (spliced trees) (fun vs s' => Q ⟨vs, []⟩ s') E s) : wpAny M A (evalArgs f true trees []) Q E s := by
  cases trees with
  | nil =>
    unfold evalArgs
    refine wpAny_bind ?_
    refine wpAny_mono h (fun vs s' h' => ?_) fun xx xx x => x
    refine wpAny_bind (wpAny_pure ?_)
    refine wpAny_holding ?_
    exact wpAny_bind (wpAny_pure (wpAny_bind (wpAny_pure (wpAny_pure h'))))
  | cons t r =>
    obtain ⟨b, x⟩ := t
    simp only [List.any_cons, Bool.or_eq_false_iff] at hp
    obtain ⟨rfl, _⟩ := hp
    exact evalArgs_plain h
theorem callWith_ok {pos : Pos} {fv : Value} {trees : List (Bool × Sem Value)} {E : Value → Shared → Prop} {Q : Value → Shared → Prop} (hp : trees.any (·.1) = false) (hk : KeepOk B fv)
    (h : wpAny (model B.prog B.w) A (spliced trees) (fun vs s' => BaseIn B s' ∧ wpAny (model B.prog B.w) A (call fv vs) Q E s') E s) :
    wpAny (model B.prog B.w) A (callWith pos fv [] trees []) Q E s := by
  unfold callWith
  refine wpAny_bind (wpAny_holding (wpAny_mono (spliced_all (Q := fun x s' => x.kw = [] ∧ BaseIn B s' ∧ wpAny (model B.prog B.w) A (call fv x.pos) Q E s') hp (wpAny_mono h (fun vs s' h' => ⟨rfl, h'⟩) fun xx xx x => x)) (fun x s₁ h₁ => wpAny_bind (wpAny_standAt ?_)) fun xx xx x => x))
  obtain ⟨e1, hb, hc⟩ := h₁
  have tail : ∀ {t : Sem Value}, wpAny (model B.prog B.w) A t Q E s₁ → wpAny (model B.prog B.w) A (t >>= fun r => holding [r] point >>= fun xx => pure r) Q E s₁ :=
    fun ht => wpAny_bind (wpAny_mono ht (fun r s₂ hr => wpAny_bind (wpAny_holding (wpAny_point (wpAny_pure hr)))) fun xx xx x => x)
  rw [hp]
  refine wpAny_bind (hk A s₁ E _ hb fun k hk' => ?_)
  rw [e1]
  rcases hk' with rfl | rfl
  · show wpAny _ _ (if _ then _ else _) _ _ _
    split
    · exact tail hc
    · exact tail (wpAny_keep hc)
  · exact tail hc
theorem starEach_cons {e : Expr} {es : List Expr} (h : star1 e = false) : starEach (e :: es) env = (false, eval e env) :: starEach es env := by
  cases e <;> first | rfl | cases h
theorem starEach_plain : ∀ {es : List ME} {xs : List Expr}, chkEs es sc vars xs = true → (starEach xs env).any (·.1) = false
  | [], xs, h => by cases nil_inv h; rfl
  | _ :: _, [], h => by cases h
  | m :: ms, e :: es, h => by
    obtain ⟨h1, h3⟩ := Bool.and_eq_true_iff.mp h
    obtain ⟨_, h2⟩ := Bool.and_eq_true_iff.mp h1
    rw [starEach_cons (by simpa using h3)]
    show (false || _) = false
    rw [Bool.false_or]; exact starEach_plain h2
theorem backTo_plain {pos : Pos} {trees : List (Bool × Sem Value)} (h : trees.any (·.1) = false) : (backTo pos trees).any (·.1) = false := by
  unfold backTo
  rw [List.any_map]
  exact h
theorem backTo_cons {pos : Pos} {x : Sem Value} {r : List (Bool × Sem Value)} : backTo pos ((false, x) :: r) = (false, x) :: backTo pos r := rfl
end
end Mine
end
section
namespace Mine
open PySem PySem.W PySem.Calls PyProof.Rows PySem.Builtin PySem.Builtin.Str PySem.NumText
section
variable {B : Base} {T : Tab} {z z' P : PH} {vars : List Str} {L : Addr} {ρ : Loc} {H H' : AH} {s s' : Shared} {A : Around} {d : Nat} {env : Env} {sc : Scope} {E : Value → Shared → Prop}
theorem cPV_inv {v : PV} {c : Const} (h : cPV v c = true) : (v = .none ∧ c = .none) ∨ (∃ b, v = .bool b ∧ c = .bool b) ∨ (∃ i, v = .int i ∧ c = .int i) ∨ ∃ x, v = .str x ∧ c = .str (sOf x) ∧ sok x := by
  cases v with
  | none => cases c with
    | none => exact .inl ⟨rfl, rfl⟩
    | _ => exact Bool.noConfusion h
  | bool a => cases c with
    | bool b => exact .inr (.inl ⟨a, rfl, congrArg _ (beq_iff_eq.mp h).symm⟩)
    | _ => exact Bool.noConfusion h
  | int a => cases c with
    | int b => exact .inr (.inr (.inl ⟨a, rfl, congrArg _ (beq_iff_eq.mp h).symm⟩))
    | _ => exact Bool.noConfusion h
  | str x => cases c with
    | str y =>
      obtain ⟨h12, h3⟩ := Bool.and_eq_true_iff.mp h
      obtain ⟨h1, h2⟩ := Bool.and_eq_true_iff.mp h12
      exact .inr (.inr (.inr ⟨x, rfl, congrArg Const.str (by rw [beq_iff_eq.mp h1]), fun c hc => of_decide_eq_true (List.all_eq_true.mp h2 c hc), Nat.le_trans (of_decide_eq_true h3) (by decide)⟩))
    | _ => exact Bool.noConfusion h
  | _ => exact Bool.noConfusion h
theorem const_pv {v : PV} {c : Const} {k : Nat} {pos : Pos} {Q : Value → Shared → Prop} {M : Model} (hc : cPV v c = true) (h : ∀ x t, s.toks ≤ t → (∀ z, Rep B z v x) → Q x { s with toks := t }) : wpAny M A (eval (.Constant c k pos) env) Q E s := by
  rcases cPV_inv hc with ⟨rfl, rfl⟩ | ⟨b, rfl, rfl⟩ | ⟨i, rfl, rfl⟩ | ⟨x, rfl, rfl, hx⟩
  · exact wpAny_Constant_none (h _ _ (Nat.le_refl _) fun xx => rfl)
  · exact fun xx xx xx => h _ _ (Nat.le_refl _) fun xx => rfl
  · exact wpAny_Constant_int (h _ _ (Nat.le_succ _) fun xx => ⟨_, rfl⟩)
  · exact Constant_str (h _ _ (Nat.le_succ _) fun xx => ⟨hx, _, rfl⟩)
theorem const_ok {v : PV} {c : Const} {k : Nat} {pos : Pos} {Q : Value → Shared → Prop} {M : Model} (hc : cPV v c = true) (h : Out B z v s Q) : wpAny M A (eval (.Constant c k pos) env) Q E s :=
  const_pv (B := B) hc fun x t ht hr => h x t ht (hr z)
theorem not_slice {y : Expr} {o i : Value} (h : isSlc y = false) : subscripted y false o i = operate [o, i] (getItem o i) := by
  cases y <;> first | rfl | cases h
theorem base_plain {o : Expr} {name : Str} (h : plainBase o = true) : attributeBase o name env (eval o env) = eval o env := by
  rcases Bool.or_eq_true_iff.mp h with h | h
  · obtain ⟨q, _⟩ := Option.isSome_iff_exists.mp h
    rw [q.2]; rfl
  · obtain ⟨q, _⟩ := Option.isSome_iff_exists.mp h
    rw [q.2]; rfl
theorem base_call {o : Expr} {name : Str} (h : callBase o = true) : attributeBase o name env (eval o env) = eval o env := by
  rcases Bool.or_eq_true_iff.mp h with h | h
  · obtain ⟨q, _⟩ := Option.isSome_iff_exists.mp h
    rw [q.2]; rfl
  · obtain ⟨q, h⟩ := any_inv h
    obtain ⟨a, _⟩ := Option.isSome_iff_exists.mp h
    rw [q.2, a.2]; rfl
theorem few_ok {es : List ME} {xs : List Expr} {pos : Pos} (hc : chkEs es sc vars xs = true) (hl : xs.length < 25) :
    ((backTo pos (starEach xs env)).all (fun x => !x.1) && (backToKw pos (keywordEach [] env)).all (fun x => x.1.isSome)
      && decide (xs.length + ([] : List Keyword).length + (if ([] : List Keyword).isEmpty then 0 else 1) < 30)) = true := by
  have h1 := backTo_plain (pos := pos) (starEach_plain (env := env) hc)
  have h2 : ((backTo pos (starEach xs env)).all fun x => !x.1) = true := by
    rw [List.all_eq_true]
    intro x hx
    rw [List.any_eq_false] at h1
    simpa using h1 x hx
  rw [h2]
  have h3 : (decide (xs.length + ([] : List Keyword).length + (if ([] : List Keyword).isEmpty then 0 else 1) < 30)) = true := decide_eq_true (by show xs.length + 0 + 0 < 30; lia)
  rw [h3]
  rfl
theorem rep_handed : ∀ {p : PV} {v : Value}, Rep B z p v → handedIn v = true
  | .none, _, r => by cases r; rfl
  | .bool _, _, r => by cases r; rfl
  | .int _, _, r => by obtain ⟨t, rfl⟩ := r; rfl
  | .str _, _, r => by obtain ⟨_, t, rfl⟩ := r; rfl
  | .tup _, _, r => by obtain ⟨_, _, _, rfl, _⟩ := r; rfl
  | .lst _, _, r => by obtain ⟨_, _, _, rfl, _⟩ := r; rfl
  | .node _ _, _, r => by obtain ⟨_, _, _, _, rfl, _⟩ := r; rfl
  | .dct _ _, _, r => by obtain ⟨_, _, rfl, _⟩ := r; rfl
  | .tdc _ _, _, r => by obtain ⟨_, _, rfl, _⟩ := r; rfl
  | .ref _, _, r => by cases r; rfl
theorem Room.A1 (R : Room d A) : A.handled = none := R.h
theorem testChain2 {M : Model} {l r1 r2 : Expr} {p1 p2 : CmpOp} {pos : Pos} {whole : Sem Value} {Q : Bool → Shared → Prop} (hm : behindInMarks p2 r2 = false)
    (h : wpAny M A (eval l env) (fun a s₁ => wpAny M A (eval r1 env) (fun b s₂ => wpAny M A (compareOp p1 a b) (fun c s₃ => wpAny M A (truthy c) (fun t s₄ =>
      if t then wpAny M A (eval r2 env) (fun u s₅ => wpAny M A (compareOp p2 b u) (fun c' s₆ => wpAny M A (truthy c') Q E s₆) E s₅) E s₄ else Q false s₄) E s₃) E s₂) E s₁) E s) :
    wpAny M A (isTrue (.Compare l [p1, p2] [r1, r2] pos) env whole) Q E s := by
  rw [arm_isTrue_Compare]
  refine wpAny_bind (wpAny_mono h (fun a s₁ h₁ => ?_) fun xx xx x => x)
  show wpAny M A (do
    let rv ← holding [a] (eval r1 env)
    standAt pos
    let c ← holding [a, rv] (compareOp p1 a rv)
    release [a, rv] [c]
    if ← holding [c, rv] (truthy c) then testChain pos rv [p2] [markedBehindIn p2 r2 (eval r2 env)] else pure false) Q E s₁
  refine wpAny_bind (wpAny_holding (wpAny_mono h₁ (fun b s₂ h₂ => ?_) fun xx xx x => x))
  refine wpAny_bind (wpAny_standAt ?_)
  refine wpAny_bind (wpAny_holding (wpAny_mono h₂ (fun c s₃ h₃ => ?_) fun xx xx x => x))
  refine wpAny_bind (wpAny_release ?_)
  refine wpAny_bind (wpAny_holding (wpAny_mono h₃ (fun t s₄ h₄ => ?_) fun xx xx x => x))
  cases t
  · exact wpAny_pure h₄
  · rw [markedBehindIn_of_false hm]
    show wpAny M A (do
      let rv ← holding [b] (eval r2 env)
      standAt pos
      let c ← operate [b, rv] (compareOp p2 b rv)
      holding [c] (truthy c)) Q E s₄
    refine wpAny_bind (wpAny_holding (wpAny_mono h₄ (fun u s₅ h₅ => ?_) fun xx xx x => x))
    refine wpAny_bind (wpAny_standAt ?_)
    exact wpAny_bind (wpAny_operating (wpAny_mono h₅ (fun c' s₆ h₆ => wpAny_holding h₆) fun xx xx x => x))
theorem Attribute_ok {M : Model} {id n : Str} {p pos : Pos} {Q : Value → Shared → Prop}
    (h : wpAny M A (eval (.Name id p) env) (fun o s₁ => wpAny M A (getAttr o n true) Q E s₁) E s) : wpAny M A (eval (.Attribute (.Name id p) n pos) env) Q E s := by
  rw [arm_eval_Attribute]
  refine wpAny_bind (wpAny_mono h (fun o s₁ h₁ => ?_) fun xx xx x => x)
  refine wpAny_bind (wpAny_standAt (wpAny_bind (wpAny_holding (wpAny_mono h₁ (fun r s₂ h₂ => ?_) fun xx xx x => x))))
  exact wpAny_bind (wpAny_pure (wpAny_pure h₂))
theorem scall_ok {c n : Str} {p apos pos : Pos} {xs : List Expr} {es : List ME} {fv : Value} {Q : Value → Shared → Prop} (V : EnvOK B T env vars sc L) (G : GoodB B) (hb : BaseIn B s) (hg : glb sc c = true) (hs : StatSem B c n fv)
    (hc : chkEs es sc vars xs = true) (hl : xs.length < 25) (hline : (apos.endLine == pos.line) = true)
    (h : ∀ t, s.toks ≤ t → wpAny (model B.prog B.w) A (callWith pos fv [] (backTo pos (starEach xs env)) []) Q E { s with toks := t }) :
    wpAny (model B.prog B.w) A (eval (.Call (.Attribute (.Name c p) n apos) xs [] pos) env) Q E s := by
  obtain ⟨C, hC, hm⟩ := hs
  rw [arm_eval_Call]
  refine wpAny_bind (glob_ok V G hb hg hC ?_)
  refine wpAny_bind (wpAny_standAt ?_)
  have hform : methodCallForm (xs.length + ([] : List Keyword).length) (backTo pos (starEach xs env)) (backToKw pos (keywordEach [] env)) = true := few_ok hc hl
  have hpos : methodCallPos true (.Name c p) env apos pos = pure pos := by unfold methodCallPos; simp [hline]
  unfold methodCall
  rw [hform]
  refine wpAny_bind (wpAny_holding (hm A E _ s _ hb fun t ht => ?_))
  exact wpAny_bind (wpAny_of_eq hpos (h t ht))
end
end Mine
end
section
namespace Mine
open PySem PySem.W PySem.Calls PyProof.Rows PySem.Builtin PySem.Builtin.Str PySem.NumText
section
variable {B : Base} {T : Tab} {d : Nat} {z z' P : PH} {vars : List Str} {L : Addr} {ρ : Loc} {H : AH} {s s' : Shared} {A : Around}
theorem padd_none {a b : Addr} {o : Obj} (h : P b = none) (hab : b ≠ a) : padd P a o b = none := by simp [padd, hab, h]
theorem St.pushPin (S : St B z P vars L ρ H s) {o : Obj} (hf : o.isFreed = false) : St B z (padd P s.heap.objs.size o) vars L ρ H { s with heap := s.heap.push o } := by
  have S1 := S.keeps (t := s.toks) (Nat.le_refl _) (fun xx xx e => Heap.get?_push_of_some o e)
  refine ⟨⟨S1.c.base, S1.c.zin, fun a x e => ?_, S1.c.hin, S1.c.os, S1.c.gens, S1.c.tk⟩, S1.lz, padd_none S1.lp (Nat.ne_of_lt S.llt), S1.lh, S1.loc⟩
  unfold padd at e
  split at e
  · rename_i q; subst q; cases e; exact ⟨Heap.get?_push_size _ hf, S.c.zfresh, S.c.hfresh⟩
  · exact S1.c.pin a x e
theorem St.repin {it : Addr} {o o' : Obj} {h' : Heap} {t : Nat} (S : St B z (padd P it o) vars L ρ H s) (hP : P it = none) (ht : s.toks ≤ t) (hs : Heap.SameBut it s.heap h') (ho : h'.get? it = some o') :
    St B z (padd P it o') vars L ρ H { s with heap := h', toks := t } := by
  have hit := S.c.pin it o (by simp [padd])
  have hL : L ≠ it := by rintro rfl; have := S.lp; simp [padd] at this
  refine ⟨⟨S.c.base, fun a x e => ?_, fun a x e => ?_, fun a x e => ?_, S.c.os, S.c.gens, ⟨Nat.lt_of_lt_of_le S.c.tk.1 ht, S.c.tk.2⟩⟩, S.lz, ?_, S.lh, ?_⟩
  · exact (hs.2 a (by rintro rfl; rw [hit.2.1] at e; cases e)).trans (S.c.zin a x e)
  · unfold padd at e
    split at e
    · rename_i q; subst q; cases e; exact ⟨ho, hit.2⟩
    · rename_i q
      have := S.c.pin a x (by simp [padd, q, e])
      exact ⟨(hs.2 a q).trans this.1, this.2⟩
  · obtain ⟨a1, oo, a2, a3⟩ := S.c.hin a x e
    exact ⟨a1, oo, (hs.2 a (by rintro rfl; rw [hit.2.2] at e; cases e)).trans a2, a3⟩
  · have := S.lp
    simp [padd, hL] at this ⊢
    exact this
  · obtain ⟨m, a1, a2⟩ := S.loc
    exact ⟨m, a1.sameBut hs hL, a2⟩
theorem St.unpin {it : Addr} {o : Obj} {h' : Heap} {t : Nat} (S : St B z (padd P it o) vars L ρ H s) (hP : P it = none) (ht : s.toks ≤ t) (hs : Heap.ExtBut it s.heap h') :
    St B z P vars L ρ H { s with heap := h', toks := t } := by
  have hit := S.c.pin it o (by simp [padd])
  have hL : L ≠ it := by rintro rfl; have := S.lp; simp [padd] at this
  refine ⟨⟨S.c.base, fun a x e => ?_, fun a x e => ?_, fun a x e => ?_, S.c.os, S.c.gens, ⟨Nat.lt_of_lt_of_le S.c.tk.1 ht, S.c.tk.2⟩⟩, S.lz, ?_, S.lh, ?_⟩
  · exact hs a x (by rintro rfl; rw [hit.2.1] at e; cases e) (S.c.zin a x e)
  · have q : a ≠ it := by rintro rfl; rw [hP] at e; cases e
    have := S.c.pin a x (by simp [padd, q, e])
    exact ⟨hs a x q this.1, this.2⟩
  · obtain ⟨a1, oo, a2, a3⟩ := S.c.hin a x e
    exact ⟨a1, oo, hs a _ (by rintro rfl; rw [hit.2.2] at e; cases e) a2, a3⟩
  · have := S.lp
    simp [padd, hL] at this
    exact this
  · obtain ⟨m, a1, a2⟩ := S.loc
    exact ⟨m, a1.extBut hs hL, a2⟩
structure Iter (B : Base) (z : PH) (it : Addr) (xs : List PV) (st : Nat → Obj → Prop) : Prop where
  item : ∀ (i : Nat) (z' : PH) (s : Shared) (A : Around) (Q : Option Value → Shared → Prop) (E : Value → Shared → Prop) (p : PV) (o : Obj), xs[i]? = some p → zle z z' → ZIn z' s → A.handled = none → s.heap.get? it = some o → st i o →
    (∀ v h' t o', s.toks ≤ t → Heap.SameBut it s.heap h' → h'.get? it = some o' → st (i + 1) o' → Rep B z' p v → Q (some v) { s with heap := h', toks := t }) → wpAny (model B.prog B.w) A (pyNext (.ref it)) Q E s
  done : ∀ (i : Nat) (z' : PH) (s : Shared) (A : Around) (Q : Option Value → Shared → Prop) (E : Value → Shared → Prop) (o : Obj), xs[i]? = none → zle z z' → ZIn z' s → A.handled = none → s.heap.get? it = some o → st i o →
    (∀ h', Heap.ExtBut it s.heap h' → Q none { s with heap := h' }) → wpAny (model B.prog B.w) A (pyNext (.ref it)) Q E s
  self : ∀ (i : Nat) (s : Shared) (A : Around) (Q : Value → Shared → Prop) (E : Value → Shared → Prop) (o : Obj), s.heap.get? it = some o → st i o → Q (.ref it) s → wpAny (model B.prog B.w) A (pyIter (.ref it)) Q E s
theorem str_item {x : List Nat} {i : Nat} {p : PV} (h : (x.map fun c => PV.str [c])[i]? = some p) : ∃ c, x[i]? = some c ∧ p = .str [c] := by
  rw [List.getElem?_map, Option.map_eq_some_iff] at h
  obtain ⟨c, h1, h2⟩ := h
  exact ⟨c, h1, h2.symm⟩
set_option tactic.hygienic true in
theorem iter_make {x : PV} {v : Value} {xs : List PV} {E : Value → Shared → Prop} {Q : Value → Shared → Prop} (hx : pItems x = some xs) (rx : Rep B z x v) (zi : ZIn z s) (hz : z s.heap.objs.size = none) 
    (h : ∀ o st, o.isFreed = false → Iter B z s.heap.objs.size xs st → st 0 o → Q (.ref s.heap.objs.size) { s with heap := s.heap.push o }) : wpAny (model B.prog B.w) A (pyIter v) Q E s := by
  unfold pItems at hx
  split at hx
  · rename_i y
    cases hx
    obtain ⟨sy, t, rfl⟩ := rx
    have hget : ∀ i : Nat, (sOf y).cps[i]? = y[i]? := fun i => by simp
    cases ha : (sOf y).cps.all (· < 128) with
    | true =>
      refine wpAny_pyIter_ascii ha (h _ (fun i o => o.cls = .type "str_ascii_iterator" ∧ o.data = .fields #[.str (sOf y) t, .int i 0]) rfl ?_ ⟨rfl, rfl⟩)
      refine ⟨fun i z' s A Q E p o hp hle zi hA ho hst hQ => ?_, fun i z' s A Q E o hp hle zi hA ho hst hQ => ?_, fun i s A Q E o ho hst hQ => ?_⟩
      · obtain ⟨c, hc, rfl⟩ := str_item hp
        refine wpAny_pyNext_ascii_item ⟨o, ho, hst.1, hst.2⟩ (by rw [hget]; exact hc) ?_
        rintro h' ⟨o', ho', h1, h2⟩ hs
        exact hQ _ h' _ o' (Nat.le_succ _) hs ho' ⟨h1, h2⟩ ⟨sok_one (sy.1 c (List.mem_of_getElem? hc)), _, rfl⟩
      · have : y[i]? = none := by simpa using hp
        exact wpAny_pyNext_ascii_end hA ⟨o, ho, hst.1, hst.2⟩ (by rw [hget]; exact this) hQ
      · exact wpAny_pyIter_striter_ascii ⟨o, ho, hst.1, hst.2⟩ hQ
    | false =>
      refine wpAny_pyIter_wide ha (h _ (fun i o => o.cls = .type "str_iterator" ∧ o.data = .fields #[.str (sOf y) t, .int i 0]) rfl ?_ ⟨rfl, rfl⟩)
      refine ⟨fun i z' s A Q E p o hp hle zi hA ho hst hQ => ?_, fun i z' s A Q E o hp hle zi hA ho hst hQ => ?_, fun i s A Q E o ho hst hQ => ?_⟩
      · obtain ⟨c, hc, rfl⟩ := str_item hp
        refine wpAny_pyNext_wide_item ⟨o, ho, hst.1, hst.2⟩ (by rw [hget]; exact hc) ?_
        rintro h' ⟨o', ho', h1, h2⟩ hs
        exact hQ _ h' _ o' (Nat.le_succ _) hs ho' ⟨h1, h2⟩ ⟨sok_one (sy.1 c (List.mem_of_getElem? hc)), _, rfl⟩
      · have : y[i]? = none := by simpa using hp
        exact wpAny_pyNext_wide_end hA ⟨o, ho, hst.1, hst.2⟩ (by rw [hget]; exact this) hQ
      · exact wpAny_pyIter_striter_wide ⟨o, ho, hst.1, hst.2⟩ hQ
  · cases hx
    obtain ⟨a, n, vs, rfl, hz1, hl, hsz⟩ := rx
    have hne : a ≠ s.heap.objs.size := by rintro rfl; rw [hz] at hz1; cases hz1
    refine wpAny_pyIter_list (items := vs) ⟨_, zi _ _ hz1, rfl, _, rfl⟩ (h _ (fun i o => o.cls = .type "list_iterator" ∧ o.data = .fields #[.ref a, .int i 0]) rfl ?_ ⟨rfl, rfl⟩)
    refine ⟨fun i z' s A Q E p o hp hle zi hA ho hst hQ => ?_, fun i z' s A Q E o hp hle zi hA ho hst hQ => ?_, fun i s A Q E o ho hst hQ => ?_⟩
    · obtain ⟨v, hv, rv⟩ := hl.get hp
      refine wpAny_pyNext_list_item ⟨o, ho, hst.1, hst.2⟩ ⟨_, zi _ _ (hle _ _ hz1), rfl, _, rfl⟩ (x := v) (by rw [← Array.getElem?_toList]; exact hv) ?_
      rintro h' ⟨o', ho', h1, h2⟩ hs
      exact hQ _ h' _ o' (Nat.le_refl _) hs ho' ⟨h1, h2⟩ (rv.mono hle)
    · have hn : vs[i]? = none := by
        have h1 := List.getElem?_eq_none_iff.mp hp
        have h2 := hl.length
        rw [Array.length_toList] at h2
        simp; lia
      exact wpAny_pyNext_list_end hA ⟨o, ho, hst.1, hst.2⟩ ⟨_, zi _ _ (hle _ _ hz1), rfl, _, rfl⟩ hn hQ
    · exact wpAny_pyIter_listiter ⟨o, ho, hst.1, hst.2⟩ hQ
  · cases hx
end
end Mine
end
section
namespace Mine
open PySem PySem.W PySem.Calls PyProof.Rows PySem.Builtin PySem.Builtin.Str PySem.NumText
section
variable {B : Base} {T : Tab} {d : Nat} {z z' P P' : PH} {vars : List Str} {L : Addr} {ρ : Loc} {H : AH} {s s' : Shared} {A : Around}
theorem padd_self (P : PH) (a : Addr) (o : Obj) : padd P a o a = some o := by simp [padd]
theorem padd_ne {P : PH} {a b : Addr} {o : Obj} (h : b ≠ a) : padd P a o b = P b := by simp [padd, h]
theorem padd_comm {P : PH} {a b : Addr} {o p : Obj} (h : a ≠ b) : padd (padd P a o) b p = padd (padd P b p) a o := by
  funext c
  unfold padd
  by_cases h1 : c = a
  · subst h1; simp [h]
  · simp [h1]
theorem St.chgI {isI : Addr → Prop} {h' : Heap} {t : Nat} (S : St B z P vars L ρ H s) (sub : ∀ b o, P' b = some o → ¬ isI b ∧ P b = some o) (hi : ∀ b, isI b → z b = none ∧ H b = none ∧ b ≠ L)
    (ht : s.toks ≤ t) (hs : ∀ b o, ¬ isI b → s.heap.get? b = some o → h'.get? b = some o) : St B z P' vars L ρ H { s with heap := h', toks := t } := by
  refine ⟨⟨S.c.base, fun b x e => ?_, fun b x e => ?_, fun b x e => ?_, S.c.os, S.c.gens, ⟨Nat.lt_of_lt_of_le S.c.tk.1 ht, S.c.tk.2⟩⟩, S.lz, ?_, S.lh, ?_⟩
  · exact hs b x (fun h => by rw [(hi b h).1] at e; cases e) (S.c.zin b x e)
  · obtain ⟨n, q⟩ := sub b x e
    have := S.c.pin b x q
    exact ⟨hs b x n this.1, this.2⟩
  · obtain ⟨a1, oo, a2, a3⟩ := S.c.hin b x e
    exact ⟨a1, oo, hs b _ (fun h => by rw [(hi b h).2.1] at e; cases e) a2, a3⟩
  · cases hp : P' L with
    | none => rfl
    | some o => have := (sub _ _ hp).2; rw [S.lp] at this; cases this
  · obtain ⟨m, a1, a2⟩ := S.loc
    exact ⟨m, a1.at' fun o x => hs L o (fun h => (hi L h).2.2 rfl) x, a2⟩
theorem St.chg {a : Addr} {h' : Heap} {t : Nat} (S : St B z P vars L ρ H s) (sub : ∀ b o, P' b = some o → P b = some o) (hP : P' a = none) (hz : z a = none) (hh : H a = none) (hL : L ≠ a)
    (ht : s.toks ≤ t) (hs : Heap.ExtBut a s.heap h') : St B z P' vars L ρ H { s with heap := h', toks := t } :=
  S.chgI (isI := (· = a)) (fun b o e => ⟨fun h => (by rw [h, hP] at e; cases e), sub b o e⟩) (fun b h => by rw [h]; exact ⟨hz, hh, Ne.symm hL⟩) ht hs
theorem St.chgPin {a : Addr} {o o' : Obj} {h' : Heap} {t : Nat} (S : St B z P vars L ρ H s) (hp : P a = some o) (ht : s.toks ≤ t) (hs : Heap.SameBut a s.heap h') (ho : h'.get? a = some o') :
    St B z (padd P a o') vars L ρ H { s with heap := h', toks := t } := by
  have hit := S.c.pin a o hp
  have hL : L ≠ a := by rintro rfl; have := S.lp; rw [hp] at this; cases this
  refine ⟨⟨S.c.base, fun b x e => ?_, fun b x e => ?_, fun b x e => ?_, S.c.os, S.c.gens, ⟨Nat.lt_of_lt_of_le S.c.tk.1 ht, S.c.tk.2⟩⟩, S.lz, ?_, S.lh, ?_⟩
  · exact (hs.2 b (by rintro rfl; rw [hit.2.1] at e; cases e)).trans (S.c.zin b x e)
  · unfold padd at e
    split at e
    · rename_i q; subst q; cases e; exact ⟨ho, hit.2⟩
    · rename_i q
      have := S.c.pin b x e
      exact ⟨(hs.2 b q).trans this.1, this.2⟩
  · obtain ⟨a1, oo, a2, a3⟩ := S.c.hin b x e
    exact ⟨a1, oo, (hs.2 b (by rintro rfl; rw [hit.2.2] at e; cases e)).trans a2, a3⟩
  · rw [padd_ne hL]; exact S.lp
  · obtain ⟨m, a1, a2⟩ := S.loc
    exact ⟨m, a1.sameBut hs hL, a2⟩
theorem StC.toSt {m : Str → Option Value} (S : StC B z P H s) (hz : z L = none) (hp : P L = none) (hh : H L = none) (hn : s.heap.Ns L m) (hl : LocRep B z vars ρ m) : St B z P vars L ρ H s :=
  ⟨S, hz, hp, hh, m, hn, hl⟩
theorem closure_none {scope : Scope} {env : Env} (h : ∀ x ∈ scope.names, x.2 ≠ .free) : closureFor scope env = pure [] := closureFor_none h
structure CompOK (sc csc : Scope) (x : Str) : Prop where
  free : ∀ y ∈ csc.names, y.2 = .free → sc.names.lookup y.1 = some .cell
  cell : ∀ y ∈ csc.names, y.2 ≠ .cell
  kind : csc.kind = .function
  names : ∀ y ∈ csc.names, y.2 = .local → csc.names.lookup y.1 = some .local
  hx : csc.names.lookup x = some .local
  dbg : (x == ("__debug__" : Str)) = false
theorem compOk_ok {sc csc : Scope} {x : Str} (h : compOk sc csc x = true) : CompOK sc csc x := by
  unfold compOk at h
  simp only [Bool.and_eq_true, List.all_eq_true, Bool.or_eq_true, Bool.not_eq_true', bne_iff_ne, ne_eq, beq_iff_eq] at h
  obtain ⟨⟨⟨⟨⟨h1, h2⟩, h3⟩, h4⟩, h5⟩, h6⟩ := h
  refine ⟨fun y hy e => (h1 y hy).1.resolve_left fun n => n e, fun y hy => (h1 y hy).2, h2, fun y hy hl => ?_, h4, h6⟩
  rcases h3 y hy with h | h
  · exact absurd hl h
  · exact h
theorem closure_go {env : Env} (f : Str × NameKind → List (Str × Addr) → Sem (ForInStep (List (Str × Addr))))
    (hf : ∀ n k cs, f (n, k) cs = if (k == .free) = true then (do let a ← cellOf env n; pure (.yield ((n, a) :: cs))) else pure (.yield cs)) : ∀ (l : List (Str × NameKind)) (cs : List (Str × Addr)), (∀ y ∈ l, y.2 = .free → ∃ a, env.cells.lookup y.1 = some a) →
      ∃ cl, forIn l cs f = pure cl ∧ (∀ n a, cl.lookup n = some a → env.cells.lookup n = some a ∨ cs.lookup n = some a) ∧ (∀ n, (∃ a, cs.lookup n = some a) → ∃ a, cl.lookup n = some a) ∧ ∀ y ∈ l, y.2 = .free → ∃ a, cl.lookup y.1 = some a
  | [], cs, _ => ⟨cs, rfl, fun n a h => .inr h, fun n h => h, fun y hy => nomatch hy⟩
  | (n, k) :: l, cs, h => by
    rw [List.forIn_cons, hf]
    by_cases e : (k == NameKind.free) = true
    · obtain ⟨a, ha⟩ := h (n, k) (.head _) (beq_iff_eq.mp e)
      obtain ⟨cl, e1, e2, e3, e4⟩ := closure_go f hf l ((n, a) :: cs) fun y hy => h y (.tail _ hy)
      have hh : ∀ {α : Type} (x : α), List.lookup n ((n, x) :: ([] : List (Str × α))) = some x := fun x => by simp
      refine ⟨cl, ?_, fun m b hm => ?_, fun m hm => ?_, fun y hy hy2 => ?_⟩
      · rw [if_pos e]
        unfold cellOf
        rw [ha]
        exact e1
      · rcases e2 m b hm with q | q
        · exact .inl q
        · rw [List.lookup_cons] at q
          cases hmn : m == n with
          | true => rw [hmn] at q; cases q; exact .inl (by rw [beq_iff_eq.mp hmn]; exact ha)
          | false => rw [hmn] at q; exact .inr q
      · obtain ⟨b, hb⟩ := hm
        refine e3 m ?_
        rw [List.lookup_cons]
        cases hmn : m == n with
        | true => exact ⟨a, rfl⟩
        | false => exact ⟨b, hb⟩
      · rcases List.mem_cons.mp hy with rfl | hy
        · exact e3 _ ⟨a, by simp⟩
        · exact e4 y hy hy2
    · obtain ⟨cl, e1, e2, e3, e4⟩ := closure_go f hf l cs fun y hy => h y (.tail _ hy)
      refine ⟨cl, ?_, e2, e3, fun y hy hy2 => ?_⟩
      · rw [if_neg e]; exact e1
      · rcases List.mem_cons.mp hy with rfl | hy
        · exact absurd (beq_iff_eq.mpr hy2) e
        · exact e4 y hy hy2
theorem relab_eq {env : Env} {sc csc : Scope} (V : EnvOK B T env vars sc L) (h : ∀ y ∈ csc.names, y.2 = .free → sc.names.lookup y.1 = some .cell) : relabel csc env = relab csc := by
  unfold relabel relab
  congr 1
  refine List.map_congr_left fun y hy => ?_
  obtain ⟨n, k⟩ := y
  by_cases e : (k == NameKind.free) = true
  · have hk : env.kindOf n = some .cell := by unfold Env.kindOf; rw [V.hsc]; exact h _ hy (beq_iff_eq.mp e)
    have hs : (env.scope.kind == ScopeKind.function) = true := by rw [V.scope_kind]; rfl
    show (if (k == NameKind.free && env.scope.kind == ScopeKind.function && env.kindOf n == some .cell) = true then _ else _) = if (k == NameKind.free) = true then _ else _
    rw [e, hs, hk]; rfl
  · show (if (k == NameKind.free && env.scope.kind == ScopeKind.function && env.kindOf n == some .cell) = true then _ else _) = if (k == NameKind.free) = true then _ else _
    rw [if_neg e, if_neg]
    intro q
    rw [Bool.and_eq_true_iff, Bool.and_eq_true_iff] at q
    exact e q.1.1
theorem relab_cell {n : Str} : ∀ {l : List (Str × NameKind)}, (∀ y ∈ l, y.2 ≠ .cell) → (l.map fun y => if (y.2 == .free) = true then (y.1, NameKind.cell) else y).lookup n = some .cell → (n, NameKind.free) ∈ l
  | [], _, h => nomatch h
  | (m, k) :: l, hc, h => by
    rw [List.map_cons] at h
    by_cases e : (k == NameKind.free) = true
    · rw [if_pos e, List.lookup_cons] at h
      cases hmn : n == m with
      | true => rw [beq_iff_eq.mp hmn, beq_iff_eq.mp e]; exact .head _
      | false => rw [hmn] at h; exact .tail _ (relab_cell (fun y hy => hc y (.tail _ hy)) h)
    · rw [if_neg e, List.lookup_cons] at h
      cases hmn : n == m with
      | true => rw [hmn] at h; cases h; exact absurd rfl (hc _ (.head _))
      | false => rw [hmn] at h; exact .tail _ (relab_cell (fun y hy => hc y (.tail _ hy)) h)
theorem comp_env {env : Env} {sc csc : Scope} {x : Str} (V : EnvOK B T env vars sc L) (C : CompOK sc csc x) : ∃ cl, closureFor csc env = pure cl ∧
    ∀ (lv : List Str) (K : Addr), (∀ y ∈ lv, csc.names.lookup y = some .local ∧ (y == ("__debug__" : Str)) = false) → lv.Nodup → EnvOK B T (compEnvC csc cl K env) lv (relab csc) K := by
  obtain ⟨cl, e1, e2, e3, e4⟩ := closure_go (env := env) (fun y cs => if (y.2 == .free) = true then (do let a ← cellOf env y.1; pure (.yield ((y.1, a) :: cs))) else pure (.yield cs)) (fun n k cs => rfl) csc.names []
    fun y hy e => V.cok y.1 (C.free y hy e)
  refine ⟨cl, ?_, fun lv K hl hn => ⟨relab_eq V C.free, C.kind, rfl, V.g, V.b, fun y hy => ⟨?_, (hl y hy).2⟩, hn, fun nm h => ?_, fun nm p a h ha hT => ?_⟩⟩
  · exact (congrArg (· >>= fun cs => (pure cs : Sem (List (Str × Addr)))) e1).trans rfl
  · rw [← relab_eq V C.free]; exact lookup_relabel_local (hl y hy).1
  · exact e4 _ (relab_cell C.cell h) rfl
  · rcases e2 nm a ha with q | q
    · exact V.cel nm p a (C.free _ (relab_cell C.cell h) rfl) q hT
    · cases q
theorem loc1 (x : Str) : locOk [x] 0 x = true := by simp [locOk]
theorem set_one {ρ : Loc} {p : PV} (h : ρ.length = 1) : setL ρ 0 p = [some p] := by
  cases ρ with
  | nil => cases h
  | cons a r => cases r with
    | nil => rfl
    | cons => cases h
theorem comp_alloc {csc : Scope} {cl : List (Str × Addr)} {env : Env} {lv : List Str} {Q : Value → Env → Shared → Prop} {E : Value → Shared → Prop} (hcell : ∀ y ∈ csc.names, y.2 ≠ .cell) (hkind : csc.kind = .function) (S : St B z P vars L ρ H s)
    (h : ∀ (D K : Addr) (oL : Obj) (s' : Shared), D ≠ K → L ≠ K → L ≠ D → P D = none → P K = none → s.heap.get? L = some oL → St B z (padd (padd P D { cls := .type "list", data := .seq #[] }) L oL) lv K (lv.map fun xx => none) H s' →
      Q (.ref D) (newEnv csc K env.globals cl env.qual none .none (some env) 0) s') :
    wpAny (model B.prog B.w) A (newList []) (fun acc s₃ => wpAny (model B.prog B.w) A (newFunctionEnv csc env.globals cl [] env.qual none .none (some env)) (fun cenv s₄ => Q acc cenv s₄) E s₃) E s := by
  refine wpAny_newObj_type (wpAny_newFunctionEnv hcell (by intro y hy; cases hy) (fun h₁ hns₁ hsb₁ => ?_) hkind)
  have S₁ := S.pushPin (o := { cls := .type "list", dict := none, data := .seq ([] : List Value).toArray }) rfl
  obtain ⟨oL, SC, hoL⟩ := S₁.toCall
  have hLD : L ≠ s.heap.objs.size := Nat.ne_of_lt S.llt
  have hsz : (s.heap.push { cls := .type "list", dict := none, data := .seq ([] : List Value).toArray }).objs.size = s.heap.objs.size + 1 := Heap.size_push ..
  have hDK : s.heap.objs.size ≠ (s.heap.push { cls := .type "list", dict := none, data := .seq ([] : List Value).toArray }).objs.size := by rw [hsz]; exact Nat.ne_of_lt (Nat.lt_succ_self _)
  have hLK : L ≠ (s.heap.push { cls := .type "list", dict := none, data := .seq ([] : List Value).toArray }).objs.size := by rw [hsz]; exact Nat.ne_of_lt (Nat.lt_succ_of_lt S.llt)
  have hKp := SC.pfresh
  refine h _ _ oL _ hDK hLK hLD S.c.pfresh ?_ ?_ ((SC.keeps (Nat.le_add_right _ _) fun b x e => ?_).toSt SC.zfresh hKp SC.hfresh hns₁ fun i y p hy hp => ?_)
  · exact (padd_ne (Ne.symm hDK)).symm.trans ((padd_ne (Ne.symm hLK)).symm.trans hKp)
  · obtain ⟨_, ⟨o', _, _, ho', _⟩, _⟩ := S.loc
    exact ho'.trans ((Heap.get?_push_of_some { cls := .type "list", dict := none, data := .seq ([] : List Value).toArray } ho').symm.trans hoL)
  · exact hsb₁.extBut b x (Nat.ne_of_lt (Heap.lt_size e)) (Heap.get?_push_of_some _ e)
  · rw [List.getElem?_map] at hp
    cases hq : lv[i]? with
    | none => rw [hq] at hp; cases hp
    | some q => rw [hq] at hp; cases hp
theorem comp_fin {isI : Addr → Prop} {PI PP : PH} {lv : List Str} {ρ' : Loc} {H' : AH} {D K : Addr} {oL dO : Obj} {s₃ : Shared} {h' : Heap} (S : St B z PI vars L ρ H s) (hoL : s.heap.get? L = some oL) (le : zle z z')
    (hP : ∀ b, isI b → P b = none) (hPI : ∀ b, ¬ isI b → PI b = P b) (hIn : ∀ b, isI b → ∃ o, PI b = some o) (hLD : L ≠ D) (hLK : L ≠ K) (hD : ¬ isI D) (hK : ¬ isI K) (hin : ∀ b, isI b → ∃ o, PP b = some o)
    (S₃ : St B z' PP lv K ρ' H' s₃) (hPD : PP D = some dO) (hPP : ∀ b, ¬ isI b → b ≠ D → PP b = padd P L oL b) (hs : ∀ b o, ¬ isI b → s₃.heap.get? b = some o → h'.get? b = some o) :
    ∃ oK m, St B z' (padd (padd P D dO) K oK) vars L ρ H' { s₃ with heap := h' } ∧ h'.Ns K m := by
  have hL : ¬ isI L := fun h => by obtain ⟨o, e⟩ := hIn L h; rw [S.lp] at e; cases e
  have hPL : P L = none := (hPI L hL).symm.trans S.lp
  have S₄ : St B z' (padd (padd P D dO) L oL) lv K ρ' H' { s₃ with heap := h', toks := s₃.toks } := by
    refine S₃.chgI (fun b o e => ?_) (fun b h => ?_) (Nat.le_refl _) hs
    · by_cases h3 : b = L
      · subst h3; rw [padd_self] at e; exact ⟨hL, by rw [hPP b hL hLD, padd_self]; exact e⟩
      · rw [padd_ne h3] at e
        by_cases h2 : b = D
        · subst h2; rw [padd_self] at e; exact ⟨hD, hPD.trans e⟩
        · rw [padd_ne h2] at e
          have n : ¬ isI b := fun h => by rw [hP b h] at e; cases e
          exact ⟨n, by rw [hPP b n h2, padd_ne h3]; exact e⟩
    · obtain ⟨o, e⟩ := hin b h
      exact ⟨(S₃.c.pin b o e).2.1, (S₃.c.pin b o e).2.2, fun q => hK (q ▸ h)⟩
  obtain ⟨oK, SK, _⟩ := S₄.toCall
  rw [padd_comm hLK] at SK
  have hiL := SK.pin L oL (padd_self ..)
  have hPL' : padd (padd P D dO) K oK L = none := by rw [padd_ne hLK, padd_ne hLD]; exact hPL
  obtain ⟨m₀, hn₀, hl₀⟩ := S.loc
  obtain ⟨mK, hnK, _⟩ := S₄.loc
  refine ⟨oK, mK, ⟨⟨SK.base, SK.zin, fun b o' e => SK.pin b o' ?_, SK.hin, SK.os, SK.gens, SK.tk⟩, hiL.2.1, hPL', hiL.2.2, m₀, hn₀.at' fun o' e => ?_, hl₀.mono le⟩, hnK⟩
  · rw [padd_ne fun h => by rw [h, hPL'] at e; cases e]; exact e
  · rw [hoL] at e; cases e; exact hiL.1
theorem compLoop_T {R : Result → Shared → Prop} {elt target iter : Expr} {scope : Scope} {pos : Pos} {it acc : Value} {env : Env} (I : Nat → Shared → Prop)
    (turn : ∀ n s, I n s → wpAny (model B.prog B.w) A (pyNext it) (fun r s₁ => match r with
      | none => R (.ok .next) s₁
      | some v => wpAny (model B.prog B.w) A (letOwnedTupleGo target it v) (fun xx s₁' => wpAny (model B.prog B.w) A (assign target env v) (fun xx s₂ => wpAny (model B.prog B.w) A (eval elt env) (fun x s₃ =>
          wpAny (model B.prog B.w) A (call (.builtin "list.append") [acc, x]) (fun xx s₄ => ∃ m, m < n ∧ I m s₄) (notedBy (model B.prog B.w) A env fun e s' => R (.error e) s') s₃)
          (notedBy (model B.prog B.w) A env fun e s' => R (.error e) s') s₂) (notedBy (model B.prog B.w) A env fun e s' => R (.error e) s') s₁') (notedBy (model B.prog B.w) A env fun e s' => R (.error e) s') s₁) (notedBy (model B.prog B.w) A env fun e s' => R (.error e) s') s)
    (n : Nat) (h : I n s) : codeAny (model B.prog B.w) A (.compLoop (.ListComp elt [⟨target, iter, [], 0⟩] scope pos) 0 it acc env) R s := by
  refine codeAny_loop rfl I (fun n s hI => ?_) n h
  show wpAny _ _ ((compTurn (.ListComp elt [⟨target, iter, [], 0⟩] scope pos) 0 it acc env).onRaise (fun x => do noteFrame x env; theTreesLotGoes x)) _ _ s
  refine wpAny_noted ?_
  rw [compTurn_list1]
  refine wpAny_bind (wpAny_standAt (wpAny_bind (wpAny_mono (turn n s hI) (fun r s₁ h₁ => ?_) fun xx xx h' => h')))
  cases r with
  | none => exact wpAny_pure h₁
  | some v =>
    refine wpAny_bind (wpAny_mono h₁ (fun xx s₁' h₁' => ?_) fun xx xx h' => h')
    refine wpAny_bind (wpAny_mono h₁' (fun xx s₂ h₂ => ?_) fun xx xx h' => h')
    refine wpAny_bind (wpAny_bind (wpAny_mono h₂ (fun x s₃ h₃ => ?_) fun xx xx h' => h'))
    exact wpAny_bind (wpAny_mono h₃ (fun xx s₄ h₄ => wpAny_pure (wpAny_pure ⟨rfl, h₄⟩)) fun xx xx h' => h')
theorem mapW_mapI {f : PV → (PV → AH → Prop) → AH → Prop} : ∀ (xs : List PV) (i : Nat), mapW f xs = mapI (fun xx => f) i xs
  | [], _ => rfl
  | x :: xs, i => by
    funext Q H
    show f x (fun r H' => mapW f xs _ H') H = _
    rw [mapW_mapI xs (i + 1)]
    rfl
theorem padd_notI {isI : Addr → Prop} {a b : Addr} {o : Obj} (n : ¬ isI a) (h : isI b) : padd P a o b = P b := padd_ne fun e => n (by rw [← e]; exact h)
noncomputable def CompI (B : Base) (z P : PH) (lv : List Str) (isI : Addr → Prop) (Inv : Nat → PH → Prop) (f : Nat → PV → (PV → AH → Prop) → AH → Prop) (xs : List PV) (Qm : List PV → AH → Prop) (D L K : Addr) (oL : Obj) (n : Nat) (s : Shared) : Prop :=
  ∃ k z' PP vs nn ρ' H' rs, zle z z' ∧ St B z' PP lv K ρ' H' s ∧ ρ'.length = lv.length ∧ Inv k PP ∧ PP D = some { cls := .type "list", data := .seq vs nn } ∧ (∀ b, ¬ isI b → b ≠ D → PP b = padd P L oL b) ∧
    RepL B z' rs vs.toList ∧ rs.length = k ∧ k ≤ xs.length ∧ mapI f k (xs.drop k) (fun rs' H'' => Qm (rs ++ rs') H'') H' ∧ n = xs.length - k
theorem comp_gen {f : Nat → PV → (PV → AH → Prop) → AH → Prop} {elt iter tgt : Expr} {lv : List Str} {pos : Pos} {csc ksc : Scope} {cl : List (Str × Addr)} {env : Env} {itv : Value} {isI : Addr → Prop} {PI : PH} {Inv : Nat → PH → Prop} {xs : List PV} {Qm : List PV → AH → Prop}
    {RR : Value → Addr → Result → Shared → Prop} {E : Value → Shared → Prop} (hcell : ∀ y ∈ csc.names, y.2 ≠ .cell) (hkind : csc.kind = .function) (VC : ∀ K, EnvOK B T (compEnvC csc cl K env) lv ksc K)
    (S : St B z PI vars L ρ H s) (hPI : ∀ b, ¬ isI b → PI b = P b) (hP : ∀ b, isI b → P b = none) (hinv : Inv 0 PI) (hext : ∀ k PP PP', Inv k PP → (∀ b, isI b → PP' b = PP b) → Inv k PP') (hin : ∀ k PP, Inv k PP → ∀ b, isI b → ∃ o, PP b = some o)
    (hsz : xs.length ≤ 1000000)
    (hself : ∀ {PP : PH} {z : PH} {K : Addr} {ρ : Loc} {H : AH} {s : Shared} {Q E : Value → Shared → Prop}, St B z PP lv K ρ H s → Inv 0 PP → Q itv s → wpAny (model B.prog B.w) A (pyIter itv) Q E s)
    (hend : ∀ {k : Nat} {z' PP : PH} {K : Addr} {ρ' : Loc} {H' : AH} {s : Shared} {RQ : Option Value → Shared → Prop} {E : Value → Shared → Prop}, zle z z' → St B z' PP lv K ρ' H' s → Inv k PP → xs[k]? = none →
      (∀ h', (∀ b o, ¬ isI b → s.heap.get? b = some o → h'.get? b = some o) → RQ none { s with heap := h' }) → wpAny (model B.prog B.w) A (pyNext itv) RQ E s)
    (hturn : ∀ {k : Nat} {z' PP : PH} {K : Addr} {ρ' : Loc} {H' : AH} {s : Shared} {p : PV} {Q : PV → AH → Prop} {RQ : Option Value → Shared → Prop} {F E : Value → Shared → Prop}, zle z z' → EnvOK B T (compEnvC csc cl K env) lv ksc K → St B z' PP lv K ρ' H' s → ρ'.length = lv.length → Inv k PP → xs[k]? = some p → f k p Q H' →
      (∀ v s₁, wpAny (model B.prog B.w) A (letOwnedTupleGo tgt itv v) (fun xx s₁' => wpAny (model B.prog B.w) A (assign tgt (compEnvC csc cl K env) v) (fun xx s₂ => wpAny (model B.prog B.w) A (eval elt (compEnvC csc cl K env)) F E s₂) E s₁') E s₁ → RQ (some v) s₁) →
      (∀ x z'' PP' ρ'' H'' r s'', zle z' z'' → St B z'' PP' lv K ρ'' H'' s'' → ρ''.length = lv.length → Inv (k + 1) PP' → (∀ b, ¬ isI b → PP' b = PP b) → Rep B z'' r x → Q r H'' → F x s'') → wpAny (model B.prog B.w) A (pyNext itv) RQ E s)
    (hm : mapI f 0 xs Qm H)
    (hRR : ∀ (D K : Addr) (z' : PH) (H' : AH) (s' : Shared) (rs : List PV) (vs : Array Value) (n : Nat) (oK : Obj) (m : Str → Option Value), zle z z' → D ≠ K →
      P D = none → P K = none →
      St B z' (padd (padd P D { cls := .type "list", data := .seq vs n }) K oK) vars L ρ H' s' → s'.heap.Ns K m → RepL B z' rs vs.toList → rs.length = xs.length → Qm rs H' → RR (.ref D) K (.ok .next) s') :
    wpAny (model B.prog B.w) A (newList []) (fun acc s₃ => wpAny (model B.prog B.w) A (newFunctionEnv csc env.globals cl [] env.qual none .none (some env)) (fun cenv s₄ =>
      codeAny (model B.prog B.w) A (.compStart (.ListComp elt [⟨tgt, iter, [], 0⟩] csc pos) 0 itv acc { cenv with scope := relabel csc env }) (RR acc cenv.locals) s₄) E s₃) E s := by
  refine comp_alloc (lv := lv) (Q := fun acc cenv s₄ => codeAny (model B.prog B.w) A (.compStart (.ListComp elt [⟨tgt, iter, [], 0⟩] csc pos) 0 itv acc { cenv with scope := relabel csc env }) (RR acc cenv.locals) s₄) hcell hkind S fun D K oL s' hDK hLK hLD hD hK hoL SF => ?_
  have nI : ∀ b, PI b = none → ¬ isI b := fun b e h => by obtain ⟨o, q⟩ := hin 0 PI hinv b h; rw [e] at q; cases q
  have nD := nI D hD
  have nL := nI L S.lp
  have hi0 : Inv 0 (padd (padd PI D { cls := .type "list", data := .seq #[] }) L oL) := hext 0 PI _ hinv fun b h => (padd_notI nL h).trans (padd_notI nD h)
  have loop : codeAny (model B.prog B.w) A (.compLoop (.ListComp elt [⟨tgt, iter, [], 0⟩] csc pos) 0 itv (.ref D) (compEnvC csc cl K env)) (RR (.ref D) K) s' := by
    refine compLoop_T (CompI B z P lv isI Inv f xs Qm D L K oL) ?_ xs.length
      ⟨0, z, _, #[], 0, _, H, [], zle.refl z, SF, List.length_map .., hi0, by rw [padd_ne (Ne.symm hLD), padd_self], fun b h1 h2 => ?_, rfl, rfl, Nat.zero_le _, hm, rfl⟩
    · rintro n s₃ ⟨k, z₃, PP, vs, nn, ρ₃, H₃, rs, le₃, S₃, hρ, hI, hPPD, hPP, hrs, hlk, hkle, hmk, rfl⟩
      cases hk : xs[k]? with
      | none =>
        refine hend le₃ S₃ hI hk fun h' hx => ?_
        have hkl : xs.length ≤ k := List.getElem?_eq_none_iff.mp hk
        rw [List.drop_eq_nil_of_le hkl] at hmk
        obtain ⟨oK, mK, SL, hnK⟩ := comp_fin S hoL le₃ hP hPI (hin 0 PI hinv) hLD hLK nD (nI K hK) (hin k PP hI) S₃ hPPD hPP hx
        exact hRR D K z₃ H₃ _ rs vs nn oK mK le₃ hDK ((hPI D nD).symm.trans hD) ((hPI K (nI K hK)).symm.trans hK) SL hnK hrs (hlk.trans (Nat.le_antisymm hkle hkl)) (by rw [← List.append_nil rs]; exact hmk)
      | some p =>
        have hlt : k < xs.length := (List.getElem?_eq_some_iff.mp hk).1
        rw [List.drop_eq_getElem_cons hlt, (List.getElem?_eq_some_iff.mp hk).2] at hmk
        refine hturn le₃ (VC K) S₃ hρ hI hk hmk (fun v s₁ hv => hv) fun y z₆ PP' ρ₆ H₆ r s₆ le₆ S₆ hρ' hI' hPP' hry hq => ?_
        have hD6 := (hPP' D nD).trans hPPD
        have hvl : vs.size = k := by
          have := hrs.length
          rw [Array.length_toList] at this
          rw [← hlk]; first | exact this | exact this.symm
        refine wpAny_list_append_plain ⟨nn, (S₆.c.pin D _ hD6).1⟩ ?_ (by rw [hvl]; exact Nat.le_of_lt (Nat.lt_of_lt_of_le (Nat.lt_of_lt_of_le hlt hsz) (by decide : 1000000 ≤ sizeLine)))
        rintro h7 ⟨n7, hn7⟩ hs7
        refine ⟨xs.length - (k + 1), Nat.sub_lt_sub_left hlt (Nat.lt_succ_self k), k + 1, z₆, _, _, n7, ρ₆, H₆, rs ++ [r], le₃.trans le₆, S₆.chgPin (t := s₆.toks) hD6 (Nat.le_refl _) hs7 hn7, hρ', hext _ _ _ hI' fun b h => padd_notI nD h, padd_self .., fun b h1 h2 => ?_, ?_, ?_, hlt, ?_, rfl⟩
        · rw [padd_ne h2, hPP' b h1]; exact hPP b h1 h2
        · rw [Array.toList_push]; exact (hrs.mono le₆).append (RepL.single hry)
        · rw [List.length_append, hlk]; rfl
        · refine cast (congrArg (fun Q => mapI f (k + 1) (xs.drop (k + 1)) Q H₆) (funext fun rs' => ?_)) hq
          rw [List.append_assoc]; rfl
    · by_cases h3 : b = L
      · subst h3; rw [padd_self, padd_self]
      · rw [padd_ne h3, padd_ne h2, padd_ne h3]; exact hPI b h1
  exact codeAny_compStart_list loop (hself SF hi0 loop)
theorem comp_core {f : PV → (PV → AH → Prop) → AH → Prop} {elt iter : Expr} {x : Str} {px pos : Pos} {csc ksc : Scope} {cl : List (Str × Addr)} {env : Env} {it : Addr} {o : Obj} {xs : List PV} {stt : Nat → Obj → Prop} {Qm : List PV → AH → Prop}
    {RR : Value → Addr → Result → Shared → Prop} {E : Value → Shared → Prop}
    (hcell : ∀ y ∈ csc.names, y.2 ≠ .cell) (hkind : csc.kind = .function) (VC : ∀ K, EnvOK B T (compEnvC csc cl K env) [x] ksc K) (R : Room d A) (IT : Iter B z it xs stt) (S : St B z (padd P it o) vars L ρ H s) (hP : P it = none) (hst : stt 0 o) (hsz : xs.length ≤ 1000000)
    (helt : ∀ {y : PV} {H : AH} {Q : PV → AH → Prop} {z P : PH} {L' : Addr} {env' : Env} {s : Shared}, EnvOK B T env' [x] ksc L' → f y Q H → St B z P [x] L' [some y] H s →
      wpAny (model B.prog B.w) A (eval elt env') (PE B P [x] L' [some y] z Q) NoExc s)
    (hm : mapW f xs Qm H)
    (hRR : ∀ (D K : Addr) (z' : PH) (H' : AH) (s' : Shared) (rs : List PV) (vs : Array Value) (n : Nat) (oK : Obj) (m : Str → Option Value), zle z z' → D ≠ K →
      P D = none → P K = none →
      St B z' (padd (padd P D { cls := .type "list", data := .seq vs n }) K oK) vars L ρ H' s' → s'.heap.Ns K m → RepL B z' rs vs.toList → rs.length = xs.length → Qm rs H' → RR (.ref D) K (.ok .next) s') :
    wpAny (model B.prog B.w) A (newList []) (fun acc s₃ => wpAny (model B.prog B.w) A (newFunctionEnv csc env.globals cl [] env.qual none .none (some env)) (fun cenv s₄ =>
      codeAny (model B.prog B.w) A (.compStart (.ListComp elt [⟨.Name x px, iter, [], 0⟩] csc pos) 0 (.ref it) acc { cenv with scope := relabel csc env }) (RR acc cenv.locals) s₄) E s₃) E s := by
  have hlit : ∀ b, b = it → padd P it o b = some o := fun b h => by rw [h]; exact padd_self ..
  refine comp_gen (isI := (· = it)) (Inv := fun k PP => ∃ oI, PP it = some oI ∧ stt k oI) (f := fun xx => f) (lv := [x]) hcell hkind VC S (fun b h => padd_ne h) (fun b h => h ▸ hP) ⟨o, padd_self .., hst⟩
    (fun k PP PP' hi he => ?_) (fun k PP hi b hb => ?_) hsz (fun S hi hq => ?_) (fun le S hi hk hq => ?_) (fun le VC S hρ hi hk hf hR hF => ?_) (mapW_mapI xs 0 ▸ hm) hRR
  · obtain ⟨oI, h1, h2⟩ := hi; exact ⟨oI, (he it rfl).trans h1, h2⟩
  · obtain ⟨oI, h1, _⟩ := hi; exact ⟨oI, hb ▸ h1⟩
  · obtain ⟨oI, h1, h2⟩ := hi; exact IT.self 0 _ _ _ _ oI (S.c.pin it oI h1).1 h2 hq
  · obtain ⟨oI, h1, h2⟩ := hi; exact IT.done _ _ _ A _ _ oI hk le S.zi R.h (S.c.pin it oI h1).1 h2 hq
  · obtain ⟨oI, h1, h2⟩ := hi
    refine IT.item _ _ _ A _ _ _ oI hk le S.zi R.h (S.c.pin it oI h1).1 h2 fun v h' t o' ht hs ho' hst' hr => hR _ _ (wpAny_pure (wpAny_assign_Name (store_ok VC (S.chgPin h1 ht hs ho') (i := 0) (loc1 _) hr fun h'' S₅ => ?_)))
    rw [set_one hρ] at S₅
    refine wpAny_mono (helt VC hf S₅) ?_ (fun xx xx => no _ _)
    rintro y s₆ ⟨z₆, r, H₆, le₆, S₆, hry, hq⟩
    exact hF y z₆ _ _ H₆ r s₆ le₆ S₆ rfl ⟨o', padd_self .., hst'⟩ (fun b h => padd_ne h) hry hq
theorem not_set {e : Expr} {env : Env} (h : isSet e = false) : ∀ x, foldedSetIterable e env x = pure x := by
  intro x
  cases e <;> first | rfl | cases h
theorem comp_done {xs rs : List PV} {D K : Addr} {vs : Array Value} {n : Nat} {oK : Obj} {h' : Heap} {Q : PV → AH → Prop} {z₁ : PH} (le₁ : zle z z₁) (le : zle z₁ z') (hDK : D ≠ K) (hPD : P D = none) (hPK : P K = none)
    (SK : St B z' (padd (padd P D { cls := .type "list", data := .seq vs n }) K oK) vars L ρ H s) (hrs : RepL B z' rs vs.toList) (hl : rs.length = xs.length) (hx : xs.length ≤ 1000000)
    (hs : Heap.SameBut K s.heap h') (hq : Q (.lst rs) H) : PE B P vars L ρ z Q (.ref D) { s with heap := h' } := by
  have S3 := SK.unpin (t := s.toks) (by rw [padd_ne (Ne.symm hDK)]; exact hPK) (Nat.le_refl _) hs.extBut
  have hD := S3.c.pin D _ (padd_self ..)
  have S4 := S3.unpin (h' := h') (t := s.toks) hPD (Nat.le_refl _) (fun xx xx xx e => e)
  have hne : D ≠ L := by rintro rfl; have := S3.lp; rw [padd_self] at this; cases this
  refine ⟨_, .lst rs, H, le₁.trans (le.trans (zadd_le hD.2.1)), S4.freeze hD.1 hD.2.1 hPD hD.2.2 hne, ⟨D, n, vs, rfl, zadd_self _ _ _, hrs.mono (zadd_le hD.2.1), ?_⟩, hq⟩
  have := hrs.length
  rw [Array.length_toList] at this
  rw [sizeLine_is]; omega
end
end Mine
end
section
namespace Mine
open PySem PySem.W PySem.Calls PyProof.Rows PySem.Builtin PySem.Builtin.Str PySem.NumText
section
variable {B : Base} {T : Tab} {d : Nat} {z z' P P' PP : PH} {vars : List Str} {L : Addr} {ρ : Loc} {H : AH} {s s' : Shared} {A : Around} {E : Value → Shared → Prop}
theorem St.chgPins {e it : Addr} {oe oi oe' oi' : Obj} {h' : Heap} {t : Nat} (S : St B z PP vars L ρ H s) (he : PP e = some oe) (hi : PP it = some oi) (ht : s.toks ≤ t)
    (hk : ∀ b o, b ≠ e → b ≠ it → s.heap.get? b = some o → h'.get? b = some o) (he' : h'.get? e = some oe') (hi' : h'.get? it = some oi') (hne : e ≠ it) :
    St B z (padd (padd PP e oe') it oi') vars L ρ H { s with heap := h', toks := t } := by
  have ie := S.c.pin e oe he
  have ii := S.c.pin it oi hi
  have hLe : L ≠ e := by rintro rfl; have := S.lp; rw [he] at this; cases this
  have hLi : L ≠ it := by rintro rfl; have := S.lp; rw [hi] at this; cases this
  refine ⟨⟨S.c.base, fun b x h => ?_, fun b x h => ?_, fun b x h => ?_, S.c.os, S.c.gens, ⟨Nat.lt_of_lt_of_le S.c.tk.1 ht, S.c.tk.2⟩⟩, S.lz, ?_, S.lh, ?_⟩
  · exact hk b x (by rintro rfl; rw [ie.2.1] at h; cases h) (by rintro rfl; rw [ii.2.1] at h; cases h) (S.c.zin b x h)
  · by_cases h1 : b = it
    · subst h1; rw [padd_self] at h; cases h; exact ⟨hi', ii.2⟩
    · rw [padd_ne h1] at h
      by_cases h2 : b = e
      · subst h2; rw [padd_self] at h; cases h; exact ⟨he', ie.2⟩
      · rw [padd_ne h2] at h
        have := S.c.pin b x h
        exact ⟨hk b x h2 h1 this.1, this.2⟩
  · obtain ⟨a1, oo, a2, a3⟩ := S.c.hin b x h
    exact ⟨a1, oo, hk b _ (by rintro rfl; rw [ie.2.2] at h; cases h) (by rintro rfl; rw [ii.2.2] at h; cases h) a2, a3⟩
  · rw [padd_ne hLi, padd_ne hLe]; exact S.lp
  · obtain ⟨m, a1, a2⟩ := S.loc
    exact ⟨m, a1.at' fun o x => hk L o hLe hLi x, a2⟩
noncomputable def enumObj (it : Addr) (i : Int) (old : Value) : Obj := { cls := .type "enumerate", dict := none, data := .fields #[.none, .bool false, .ref it, rawInt i, .none, old], slots := #[] }
noncomputable def LIter (o : Obj) (l : Addr) (i : Nat) : Prop := o.cls = .type "list_iterator" ∧ o.data = .fields #[.ref l, .int i 0]
theorem listIter_iff {h : Heap} {it l : Addr} {i : Nat} {o : Obj} (ho : h.get? it = some o) : h.IsListIter it l i ↔ LIter o l i := by
  constructor
  · rintro ⟨o', ho', h1⟩; rw [ho] at ho'; cases ho'; exact h1
  · intro h1; exact ⟨o, ho, h1⟩
theorem enum_make {xs : List PV} {v : Value} {Q : Value → Shared → Prop} (S : St B z P vars L ρ H s) (rx : Rep B z (.lst xs) v)
    (h : ∀ (e it l : Addr) (oi : Obj) (vs : Array Value) (n : Nat) (h' : Heap), e ≠ it → P e = none → P it = none → z l = some { cls := .type "list", data := .seq vs n } → RepL B z xs vs.toList → LIter oi l 0 →
      St B z (padd (padd P e (enumObj it 0 .none)) it oi) vars L ρ H { s with heap := h' } → Q (.ref e) { s with heap := h' }) :
    wpAny (model B.prog B.w) A (call (.type "enumerate") [v]) Q E s := by
  obtain ⟨l, n, vs, rfl, hz1, hl, hsz⟩ := rx
  have hls : s.heap.IsList l vs := ⟨_, S.c.zin _ _ hz1, rfl, n, rfl⟩
  refine call_enumerate_list hls fun h' he hit hsz' hk => ?_
  obtain ⟨oi, hoi, hli⟩ := id hit
  have S1 := S.keeps (t := s.toks) (Nat.le_refl _) hk
  have lt : s.heap.objs.size < s.heap.objs.size + 1 := Nat.lt_succ_self _
  have fr : ∀ a, s.heap.objs.size ≤ a → z a = none ∧ P a = none ∧ H a = none ∧ a ≠ L := by
    intro a ha
    refine ⟨?_, ?_, ?_, ?_⟩
    · cases hq : z a with
      | none => rfl
      | some o => exact absurd (S.c.zlt hq) (Nat.not_lt.mpr ha)
    · cases hq : P a with
      | none => rfl
      | some o => exact absurd (Heap.lt_size (S.c.pin _ o hq).1) (Nat.not_lt.mpr ha)
    · cases hq : H a with
      | none => rfl
      | some o => obtain ⟨_, o, h, _⟩ := S.c.hin _ _ hq; exact absurd (Heap.lt_size h) (Nat.not_lt.mpr ha)
    · rintro rfl; exact absurd S.llt (Nat.not_lt.mpr ha)
  obtain ⟨f1, f2, f3, f4⟩ := fr (s.heap.objs.size + 1) (Nat.le_succ _)
  obtain ⟨g1, g2, g3, g4⟩ := fr s.heap.objs.size (Nat.le_refl _)
  have hne : s.heap.objs.size + 1 ≠ s.heap.objs.size := Nat.succ_ne_self _
  refine h _ _ l oi vs n h' hne f2 g2 hz1 hl hli ⟨⟨S1.c.base, S1.c.zin, fun b x q => ?_, S1.c.hin, S1.c.os, S1.c.gens, S1.c.tk⟩, S1.lz, ?_, S1.lh, S1.loc⟩
  · by_cases h1 : b = s.heap.objs.size
    · subst h1; rw [padd_self] at q; cases q; exact ⟨hoi, g1, g3⟩
    · rw [padd_ne h1] at q
      by_cases h2 : b = s.heap.objs.size + 1
      · subst h2; rw [padd_self] at q; cases q; exact ⟨he, f1, f3⟩
      · rw [padd_ne h2] at q; exact S1.c.pin b x q
  · rw [padd_ne (Ne.symm g4), padd_ne (Ne.symm f4)]; exact S1.lp
theorem enum_turn {sc : Scope} {env : Env} {e it l : Addr} {oi : Obj} {k n : Nat} {old : Value} {xs : List PV} {vs : Array Value} {p : PV} {x y : Str} {px py tp : Pos} {q : Nat} {ix iy : Nat} {Q : Unit → Shared → Prop} {RQ : Option Value → Shared → Prop}
    (hR : ∀ v s₁, wpAny (model B.prog B.w) A (letOwnedTupleGo (.Tuple [.Name x px, .Name y py] q tp) (.ref e) v) (fun xx s₁' => wpAny (model B.prog B.w) A (assign (.Tuple [.Name x px, .Name y py] q tp) env v) Q E s₁') E s₁ → RQ (some v) s₁)
    (V : EnvOK B T env vars sc L) (hx : locOk vars ix x = true) (hy : locOk vars iy y = true) (hA : A.handled = none) (S : St B z PP vars L ρ H s) (he : PP e = some (enumObj it k old)) (hi : PP it = some oi) (hoi : LIter oi l k) (hne : e ≠ it)
    (hzl : z l = some { cls := .type "list", data := .seq vs n }) (hrl : RepL B z xs vs.toList) (hk : xs[k]? = some p)
    (hq : ∀ h' t oi' old', s.toks ≤ t → LIter oi' l (k + 1) → St B z (padd (padd PP e (enumObj it ((k + 1 : Nat) : Int) old')) it oi') vars L (setL (setL ρ ix (.int k)) iy p) H { s with heap := h', toks := t } → Q () { s with heap := h', toks := t }) :
    wpAny (model B.prog B.w) A (pyNext (.ref e)) RQ E s := by
  have ie := S.c.pin e _ he
  have ii := S.c.pin it _ hi
  have hls : s.heap.IsList l vs := ⟨_, S.c.zin _ _ hzl, rfl, n, rfl⟩
  obtain ⟨v, hv, rv⟩ := hrl.get hk
  have hvk : vs[k]? = some v := by rw [← Array.getElem?_toList]; exact hv
  have hie : e < s.heap.objs.size := Heap.lt_size ie.1
  refine wpAny_pyNext_enum_item (e := e) (it := it) (i := k) ie.1 ((listIter_iff ii.1).mpr hoi) hls hvk hne fun h₁ heo hit₁ ht₁ hz₁ hk₁ => ?_
  refine hR _ _ (wpAny_letOwnedTupleGo_enum heo fun h₂ he₂ hs₂ => ?_)
  dsimp only at hs₂ ⊢
  have ht₂ : h₂.IsTuple s.heap.objs.size #[.int k s.toks, v] := ⟨_, (hs₂.2 _ (Nat.ne_of_gt hie)).trans ht₁, rfl, _, rfl⟩
  have hit₂ := hit₁.extBut hs₂.extBut (Ne.symm hne)
  obtain ⟨oi', hoi', hli'⟩ := id hit₂
  have S2 : St B z (padd (padd PP e (enumObj it ((k + 1 : Nat) : Int) v)) it oi') vars L ρ H { s with heap := h₂, toks := s.toks + 1 } := by
    refine S.chgPins he hi (Nat.le_succ _) (fun b o h1 h2 hb => hs₂.extBut b o h1 (hk₁ b o h1 h2 hb)) he₂ hoi' hne
  refine wpAny_assign_Tuple hA ht₂ rfl rfl fun h₃ hx₃ => ?_
  dsimp only at hx₃ ⊢
  have S3 := S2.keeps (t := s.toks + 1) (h' := h₃) (Nat.le_refl _) fun b o hb => hx₃ b o (Nat.ne_of_lt (Heap.lt_size hb)) hb
  show wpAny _ A (do holding [v] (assign (.Name x px) env (.int k s.toks)); do holding [] (assign (.Name y py) env v); pure ()) _ _ _
  refine wpAny_bind (wpAny_holding (wpAny_assign_Name (store_ok V S3 hx (v := .int k) ⟨_, rfl⟩ fun h₄ S4 => ?_)))
  refine wpAny_bind (wpAny_holding (wpAny_assign_Name (store_ok V S4 hy rv fun h₅ S5 => wpAny_pure ?_)))
  exact hq h₅ _ oi' v (by dsimp only; omega) hli' S5
theorem enum_end {e it l : Addr} {oi : Obj} {k n : Nat} {old : Value} {xs : List PV} {vs : Array Value} {Q : Option Value → Shared → Prop}
    (hA : A.handled = none) (S : St B z PP vars L ρ H s) (he : PP e = some (enumObj it k old)) (hi : PP it = some oi) (hoi : LIter oi l k)
    (hzl : z l = some { cls := .type "list", data := .seq vs n }) (hrl : RepL B z xs vs.toList) (hk : xs[k]? = none)
    (hq : ∀ h', Heap.ExtBut it s.heap h' → Q none { s with heap := h' }) : wpAny (model B.prog B.w) A (pyNext (.ref e)) Q E s := by
  have ie := S.c.pin e _ he
  have ii := S.c.pin it _ hi
  have hls : s.heap.IsList l vs := ⟨_, S.c.zin _ _ hzl, rfl, n, rfl⟩
  have hvk : vs[k]? = none := by
    have h1 := List.getElem?_eq_none_iff.mp hk
    have h2 := hrl.length
    rw [Array.length_toList] at h2
    simp; omega
  exact wpAny_pyNext_enum_end hA ie.1 ((listIter_iff ii.1).mpr hoi) hls hvk hq
end
end Mine
end
section
namespace Mine
open PySem PySem.W PySem.Calls PyProof.Rows PySem.Builtin PySem.Builtin.Str PySem.NumText
section
variable {B : Base} {A : Around} {E : Value → Shared → Prop} {s : Shared}
structure EntOK (B : Base) (p : Sem Value × Sem Value) (k : List Nat) (v : PV) : Prop where
  key : ∀ (A : Around) (E : Value → Shared → Prop) (s : Shared) (Q : Value → Shared → Prop), (∀ t u, s.toks ≤ t → Q (.str (sOf k) u) { s with toks := t }) → wpAny (model B.prog B.w) A p.1 Q E s
  val : ∀ (A : Around) (E : Value → Shared → Prop) (s : Shared) (Q : Value → Shared → Prop), (∀ x t, s.toks ≤ t → (∀ z, Rep B z v x) → Q x { s with toks := t }) → wpAny (model B.prog B.w) A p.2 Q E s
abbrev Entry : Type := (Sem Value × Sem Value) × List Nat × PV
noncomputable def Ents (B : Base) (ps : List (Sem Value × Sem Value)) (ks : List (List Nat)) (vs : List PV) : Prop :=
  ∃ es : List Entry, ps = es.map (·.1) ∧ ks = es.map (·.2.1) ∧ vs = es.map (·.2.2) ∧ ∀ e ∈ es, EntOK B e.1 e.2.1 e.2.2
theorem Ents.len {ps : List (Sem Value × Sem Value)} {ks : List (List Nat)} {vs : List PV} : Ents B ps ks vs → ks.length = ps.length ∧ vs.length = ps.length := by
  rintro ⟨es, rfl, rfl, rfl, _⟩
  rw [List.length_map, List.length_map, List.length_map]; exact ⟨rfl, rfl⟩
theorem Ents.drop (n : Nat) {ps : List (Sem Value × Sem Value)} {ks : List (List Nat)} {vs : List PV} : Ents B ps ks vs → Ents B (ps.drop n) (ks.drop n) (vs.drop n) := by
  rintro ⟨es, rfl, rfl, rfl, h⟩
  exact ⟨es.drop n, List.map_drop.symm, List.map_drop.symm, List.map_drop.symm, fun e he => h e (List.mem_of_mem_drop he)⟩
theorem Ents.take (n : Nat) {ps : List (Sem Value × Sem Value)} {ks : List (List Nat)} {vs : List PV} : Ents B ps ks vs → Ents B (ps.take n) (ks.take n) (vs.take n) := by
  rintro ⟨es, rfl, rfl, rfl, h⟩
  exact ⟨es.take n, List.map_take.symm, List.map_take.symm, List.map_take.symm, fun e he => h e (List.mem_of_mem_take he)⟩
theorem Ents.cons {p : Sem Value × Sem Value} {k : List Nat} {v : PV} {ps : List (Sem Value × Sem Value)} {ks : List (List Nat)} {vs : List PV} (h : EntOK B p k v) : Ents B ps ks vs → Ents B (p :: ps) (k :: ks) (v :: vs) := by
  rintro ⟨es, rfl, rfl, rfl, h'⟩
  refine ⟨(p, k, v) :: es, rfl, rfl, rfl, fun e he => ?_⟩
  rcases List.mem_cons.mp he with rfl | he
  · exact h
  · exact h' e he
abbrev skd (B : Base) : KeyKind B.prog B.w Str := PySem.strKind B.prog B.w
theorem skd_is (B : Base) (x : Str) (u : Tok) : (skd B).is x (.str x u) = true := by
  show Value.isStrOf x (.str x u) = true
  simp [Value.isStrOf]
theorem stored_fresh {acc : List (Str × Value)} {k : Str} {v : Value} (h : k ∉ acc.map (·.1)) : stored acc k v = acc ++ [(k, v)] := by
  unfold stored
  rw [if_neg]
  rw [List.any_eq_true]
  rintro ⟨x, hx, e⟩
  exact h (List.mem_map.mpr ⟨x, hx, of_decide_eq_true e⟩)
theorem sizeLine_big : 100 ≤ sizeLine := by rw [sizeLine_is]; omega
theorem long_ok {d : Addr} : ∀ (es : List Entry) (acc : List (Str × Value)) (s : Shared) (Q : PUnit → Shared → Prop), (∀ e ∈ es, EntOK B e.1 e.2.1 e.2.2) → s.heap.DictOf (skd B) d acc →
    (acc.map (·.1) ++ (es.map (·.2.1)).map sOf).Nodup → acc.length + es.length ≤ 100 →
    (∀ h' t kvs, s.toks ≤ t → kvs.map (·.1) = (es.map (·.2.1)).map sOf → (∀ z, RepL B z (es.map (·.2.2)) (kvs.map (·.2))) → h'.DictOf (skd B) d (acc ++ kvs) → Heap.SameBut d s.heap h' → Q PUnit.unit { s with heap := h', toks := t }) →
    wpAny (model B.prog B.w) A (forIn (es.map (·.1)) PUnit.unit fun (x : Sem Value × Sem Value) (_ : PUnit) => (do let kv ← x.1; let vv ← holding [kv] x.2; holding [kv, vv] (dictSet d kv vv); pure (ForInStep.yield PUnit.unit) : Sem (ForInStep PUnit))) Q E s := by
  intro es
  induction es with
  | nil => exact fun acc s Q xx hm xx xx hQ => wpAny_pure (hQ s.heap s.toks [] (Nat.le_refl _) rfl (fun xx => rfl) (by rw [List.append_nil]; exact hm) (Heap.SameBut.refl _ _))
  | cons e es ih =>
    intro acc s Q he hm hn hl hQ
    have ho := he e List.mem_cons_self
    have hk : sOf e.2.1 ∉ acc.map (·.1) := fun hx => (List.nodup_append.mp hn).2.2 _ hx _ List.mem_cons_self rfl
    rw [List.map_cons, List.forIn_cons]
    refine wpAny_bind (wpAny_bind (ho.key A E s _ fun t u ht => wpAny_bind (wpAny_holding (ho.val A E _ _ fun x t' ht' hx => ?_))))
    refine wpAny_bind (wpAny_holding (wpAny_dictSet_pairs (hsz := Nat.le_trans (Nat.le_trans (Nat.le_add_right _ _) hl) sizeLine_big) (skd_is B (sOf e.2.1) u) hm fun h₁ hm₁ hs₁ => wpAny_pure ?_))
    rw [stored_fresh hk] at hm₁
    refine ih _ _ Q (fun e h => he e (List.mem_cons_of_mem _ h)) hm₁ (by rw [List.map_append, List.append_assoc]; exact hn) (by rw [List.length_append, Nat.add_assoc, Nat.add_comm _ es.length]; exact hl) fun h' t'' kvs htt hks hr hd hs => ?_
    exact hQ h' t'' ((sOf e.2.1, x) :: kvs) (Nat.le_trans ht (Nat.le_trans ht' (Nat.le_of_succ_le (n := t') htt))) (congrArg (sOf e.2.1 :: ·) hks) (fun z => ⟨x, _, rfl, hx z, hr z⟩) (by rw [List.append_assoc] at hd; exact hd) (hs₁.trans hs)
theorem pairs_ok : ∀ (es : List Entry) (s : Shared) (Q : List (Value × Value) → Shared → Prop), (∀ e ∈ es, EntOK B e.1 e.2.1 e.2.2) →
    (∀ t vals kvs, s.toks ≤ t → Carries (skd B) vals kvs → kvs.map (·.1) = (es.map (·.2.1)).map sOf → (∀ z, RepL B z (es.map (·.2.2)) (kvs.map (·.2))) → Q vals { s with toks := t }) →
    wpAny (model B.prog B.w) A (evalPairs (es.map (·.1))) Q E s := by
  intro es
  induction es with
  | nil => exact fun s Q xx hQ => evalPairs_nil (hQ s.toks [] [] (Nat.le_refl _) trivial rfl fun xx => rfl)
  | cons e es ih =>
    intro s Q he hQ
    have ho := he e List.mem_cons_self
    refine evalPairs_cons (ho.key A E s _ fun t u ht => ho.val A E _ _ fun x t' ht' hx => ih _ _ (fun e h => he e (List.mem_cons_of_mem _ h)) fun t'' vals kvs htt hc hk hr => ?_)
    exact hQ t'' ((.str (sOf e.2.1) u, x) :: vals) ((sOf e.2.1, x) :: kvs) (Nat.le_trans ht (Nat.le_trans ht' htt)) ⟨skd_is B _ _, rfl, hc⟩ (congrArg (sOf e.2.1 :: ·) hk) (fun z => ⟨x, _, rfl, hx z, hr z⟩)
theorem sub_long {ps : List (Sem Value × Sem Value)} {ks : List (List Nat)} {vs : List PV} {Q : Addr → Shared → Prop} (he : Ents B ps ks vs) (hn : (ks.map sOf).Nodup) (h1 : 15 < ps.length) (h2 : ps.length ≤ 100)
    (hQ : ∀ h' t kvs, s.toks ≤ t → kvs.map (·.1) = ks.map sOf → (∀ z, RepL B z vs (kvs.map (·.2))) → h'.DictOf (skd B) s.heap.objs.size kvs → Heap.SameBut s.heap.objs.size (s.heap.push { cls := .type "dict", data := .dict #[] }) h' → Q s.heap.objs.size { s with heap := h', toks := t }) :
    wpAny (model B.prog B.w) A (subDict ps) Q E s := by
  obtain ⟨es, rfl, rfl, rfl, he⟩ := he
  unfold subDict
  refine wpAny_bind (wpAny_alloc ?_)
  refine wpAny_bind (wpAny_holding ?_)
  rw [if_neg (Nat.not_le.mpr h1)]
  rw [List.length_map] at h2
  refine wpAny_bind (wpAny_rule ?_)
  exact wpAny_bind (long_ok es [] _ _ he (Heap.DictOf.new (knd := skd B) s.heap) hn (by rw [List.length_nil, Nat.zero_add]; exact h2) fun h' t kvs ht hk hr hd hs => wpAny_pure (wpAny_pure (hQ h' t kvs ht hk hr hd hs)))
theorem sub_short {ps : List (Sem Value × Sem Value)} {ks : List (List Nat)} {vs : List PV} {Q : Addr → Shared → Prop} (he : Ents B ps ks vs) (hn : (ks.map sOf).Nodup) (h1 : ps.length ≤ 15)
    (hQ : ∀ h' t kvs, s.toks ≤ t → kvs.map (·.1) = ks.map sOf → (∀ z, RepL B z vs (kvs.map (·.2))) → h'.DictOf (skd B) s.heap.objs.size kvs → Heap.SameBut s.heap.objs.size (s.heap.push { cls := .type "dict", data := .dict #[] }) h' → Q s.heap.objs.size { s with heap := h', toks := t }) :
    wpAny (model B.prog B.w) A (subDict ps) Q E s := by
  obtain ⟨es, rfl, rfl, rfl, he⟩ := he
  refine wpAny_subDict (knd := skd B) h1 (pairs_ok es _ _ he fun t vals kvs ht hc hk hr => ⟨kvs, hc, Heap.DictOf.new (knd := skd B) s.heap, fun h' hd hs => ?_⟩)
  rw [merged_nil_of_nodup kvs (by rw [hk]; exact hn)] at hd
  exact hQ h' _ kvs (Nat.le_trans ht (Nat.le_add_right _ _)) hk hr hd hs
theorem put_fresh {d : Addr} {acc : List (Str × Value)} {k : Str} {key v : Value} {Q : Unit → Shared → Prop} (hkey : (skd B).is k key = true) (hm : s.heap.DictOf (skd B) d acc) (hk : k ∉ acc.map (·.1)) (hl : acc.length ≤ 100)
    (hQ : ∀ h', h'.DictOf (skd B) d (acc ++ [(k, v)]) → Heap.SameBut d s.heap h' → Q () { s with heap := h' }) :
    wpAny (model B.prog B.w) A (dictPut d ((skd B).hash k) key v) Q E s := by
  obtain ⟨o, es, ep, ho, hc, hd, hke, hp, hn⟩ := hm
  have hes : es.size ≤ sizeLine := by
    have e1 := hp.length
    have e2 : es.toList.length = es.size := by simp
    have := sizeLine_big
    omega
  unfold dictPut
  refine wpAny_bind (wpAny_dictFind_of hkey ho hd hke ?_)
  have hidx : (es.findIdx? fun e => (skd B).is k e.key) = acc.findIdx? fun kv => decide (kv.1 = k) := by
    rw [← hp.findIdx k]; obtain ⟨l⟩ := es; simp
  have hnone : (es.findIdx? fun e => (skd B).is k e.key) = none := by
    rw [hidx, List.findIdx?_eq_none_iff]
    intro x hx
    rw [decide_eq_false_iff_not]
    rintro rfl
    exact hk (List.mem_map.mpr ⟨x, hx, rfl⟩)
  rw [hnone]
  refine wpAny_updateDictKeys (hz := hes) ho hd (hQ _ ⟨_, _, ep + 1, Heap.get?_update_self _ ho (Obj.isFreed_of_dict (Obj.data_mapDictKeys hd _)), hc.mapDictKeys _, Obj.data_mapDictKeys hd _, hke.push hkey _, ?_, ?_⟩ (Heap.SameBut.update ..))
  · have := hp.append hkey ((skd B).hash k) v
    obtain ⟨l⟩ := es
    simpa using this
  · rw [List.map_append, List.nodup_append]
    refine ⟨hn, by simp, ?_⟩
    intro a ha b hb
    simp only [List.map_cons, List.map_nil, List.mem_singleton] at hb
    subst hb
    exact fun e => hk (e ▸ ha)
theorem fresh_at {acc more : List (Str × Value)} {i : Nat} {k : Str} {v : Value} (hn : (acc.map (·.1) ++ more.map (·.1)).Nodup) (hm : more[i]? = some (k, v)) : k ∉ (acc ++ more.take i).map (·.1) := by
  have e : more.take (i + 1) = more.take i ++ [(k, v)] := by rw [List.take_succ, hm]; rfl
  have hsub : (acc.map (·.1) ++ (more.take (i + 1)).map (·.1)).Nodup := hn.sublist ((List.Sublist.refl _).append ((List.take_sublist _ _).map _))
  rw [e, List.map_append, ← List.append_assoc, ← List.map_append] at hsub
  exact fun hx => (List.nodup_append.mp hsub).2.2 _ hx _ (List.mem_singleton.mpr rfl) rfl
section
variable {d a : Addr} {acc more : List (Str × Value)} {oa : Obj} {esa : Array DictEntry} {epa : Nat} {f : Nat → PUnit → Sem (ForInStep PUnit)}
theorem merge_loop (hf : ∀ (i : Nat) (e : DictEntry) (s' : Shared) (Q : ForInStep PUnit → Shared → Prop), esa[i]? = some e → s'.heap.get? a = some oa → wpAny (model B.prog B.w) A (dictPut d e.hash e.key e.val) (fun xx s'' => s''.heap.get? a = some oa ∧ Q (.yield ⟨⟩) s'') E s' → wpAny (model B.prog B.w) A (f i ⟨⟩) Q E s')
    (hda : a ≠ d) (hka : KeysOf (skd B) esa) (hpa : Pairs (skd B) esa.toList more) (hn : (acc.map (·.1) ++ more.map (·.1)).Nodup) (hl : acc.length + more.length ≤ 100) {Q : PUnit → Shared → Prop} {h0 : Heap}
    (hQ : ∀ h', h'.DictOf (skd B) d (acc ++ more) → Heap.SameBut d h0 h' → Q ⟨⟩ { s with heap := h' }) : ∀ (j i : Nat) (h' : Heap), i + j = esa.size → h'.DictOf (skd B) d (acc ++ more.take i) → h'.get? a = some oa → Heap.SameBut d h0 h' →
    wpAny (model B.prog B.w) A (forIn (List.range' i j) ⟨⟩ f) Q E { s with heap := h' } := by
  have hlen : more.length = esa.size := hpa.length.symm.trans Array.length_toList
  intro j
  induction j with
  | zero =>
    intro i h' hi hd _ hs
    rw [List.take_of_length_le (by rw [hlen, ← hi]; exact Nat.le_refl _)] at hd
    exact wpAny_pure (hQ h' hd hs)
  | succ j ih =>
    intro i h' hi hd ho hs
    have hlt : i < esa.size := by rw [← hi]; exact Nat.lt_add_of_pos_right (Nat.succ_pos _)
    obtain ⟨⟨k, v⟩, hkv⟩ : ∃ kv, more[i]? = some kv := ⟨_, List.getElem?_eq_getElem (by rw [hlen]; exact hlt)⟩
    have he : esa[i]? = some esa[i] := Array.getElem?_eq_getElem hlt
    obtain ⟨hkey, hval⟩ := hpa.get? ((Array.getElem?_toList ..).trans he) hkv
    obtain ⟨k', hkey', hhash⟩ := hka esa[i] (Array.getElem_mem hlt)
    obtain rfl : k' = k := (skd B).inj _ _ _ hkey' hkey
    rw [List.range'_succ, List.forIn_cons]
    refine wpAny_bind (hf i _ _ _ he ho ?_)
    rw [hhash, hval]
    refine put_fresh hkey hd (fresh_at hn hkv) (by rw [List.length_append, List.length_take]; exact Nat.le_trans (Nat.add_le_add_left (Nat.min_le_right _ _) _) hl) fun h'' hd'' hs'' => ⟨(hs''.2 a hda).trans ho, ?_⟩
    refine ih (i + 1) h'' (by rw [← hi, Nat.succ_add_eq_add_succ]) ?_ ((hs''.2 a hda).trans ho) (hs.trans hs'')
    rw [List.take_succ, hkv, ← List.append_assoc]
    exact hd''
end
theorem merge_ok {d a : Addr} {acc more : List (Str × Value)} {Q : Unit → Shared → Prop} (hda : d ≠ a) (hsys : (a == sysModules) = false) (hd : s.heap.DictOf (skd B) d acc) (ha : s.heap.DictOf (skd B) a more)
    (h0 : acc ≠ []) (hn : (acc.map (·.1) ++ more.map (·.1)).Nodup) (hl : acc.length + more.length ≤ 100)
    (hQ : ∀ h', h'.DictOf (skd B) d (acc ++ more) → Heap.SameBut d s.heap h' → Q () { s with heap := h' }) :
    wpAny (model B.prog B.w) A (mergeMapping d (.ref a) false) Q E s := by
  obtain ⟨od, esd, epd, hod, _, hdd, _, hpd, _⟩ := id hd
  obtain ⟨oa, esa, epa, hoa, hca, hda', hka, hpa, _⟩ := ha
  have hemp : esd.isEmpty = false := by
    cases h : esd.isEmpty with
    | false => rfl
    | true =>
      have h2 := hpd.length
      rw [Array.isEmpty_iff.mp h] at h2
      exact absurd (List.length_eq_zero_iff.mp h2.symm) h0
  unfold mergeMapping
  refine wpAny_bind (wpAny_isInstance ⟨oa, hoa, hca.1⟩ isSubtype_dict_dict ?_)
  rw [if_pos rfl]
  refine wpAny_bind (wpAny_specialOf ⟨oa, hoa, hca.1⟩ F.slot_dict_iter.lookup (wpAny_bind (wpAny_pure ?_)))
  rw [beq_self_eq_true]
  dsimp only
  rw [if_neg (by rw [hsys]; exact Bool.false_ne_true)]
  refine wpAny_bind (wpAny_dictEntries hod hdd ?_)
  rw [hemp, if_neg Bool.false_ne_true]
  refine wpAny_bind (wpAny_dictEntries hoa hda' (wpAny_bind (wpAny_dictEpoch hoa hda' (wpAny_bind ?_))))
  rw [List.range_eq_range']
  refine merge_loop (fun i e s' Q he ho h => ?_) (Ne.symm hda) hka hpa hn hl (h0 := s.heap) (fun h' hd hs => wpAny_pure (hQ h' hd hs)) esa.size 0 s.heap (Nat.zero_add _) (by rw [List.take_zero, List.append_nil]; exact hd) hoa (Heap.SameBut.refl _ _)
  refine wpAny_bind (wpAny_dictEntries ho hda' ?_)
  rw [he]
  refine wpAny_bind (wpAny_holding ?_)
  rw [if_neg Bool.false_ne_true]
  refine wpAny_mono h (fun xx s'' hq => wpAny_bind (wpAny_dictEpoch hq.1 hda' ?_)) (fun xx xx h => h)
  rw [if_neg (by rw [bne_self_eq_false]; exact Bool.false_ne_true)]
  exact wpAny_pure hq.2
noncomputable def flushD (run : List (Sem Value × Sem Value)) (main : Option Addr) : Sem (Option Addr) :=
  if run.isEmpty = true then pure main else match main with
    | none => do let d ← subDict run; pure (some d)
    | some d => do
      let sub ← holding [.ref d] (subDict run)
      (holding [.ref d, .ref sub] (mergeMapping d (.ref sub) false)).onRaise fun x => do let _ ← holding [.ref d, x] (runValue (.builtin "proto.let_go" {}))
      pure (some d)
noncomputable def endD (m : Option Addr) : Sem Value := match m with
  | some d => pure (.ref d)
  | none => newDict
theorem dictDisplay_is : ∃ f : (Option (Sem Value) × Sem Value) → (Option Addr × List (Sem Value × Sem Value)) → Sem (ForInStep (Option Addr × List (Sem Value × Sem Value))),
    (∀ items, dictDisplay items = (forIn items (none, []) f >>= fun r => flushD r.2 r.1 >>= endD)) ∧
    (∀ x d run, f (some x.1, x.2) (d, run) = if ((run ++ [x]).length == 17) = true then (flushD (run ++ [x]) d >>= fun m => pure (.yield (m, []))) else pure (.yield (d, run ++ [x]))) :=
  ⟨_, fun xx => rfl, fun xx xx xx => rfl⟩
theorem snoc_of {α : Type} {n : Nat} {l : List α} (h : l.length = n + 1) : ∃ A x, l = A ++ [x] ∧ A.length = n := by
  have hne : l ≠ [] := by rintro rfl; cases h
  exact ⟨l.dropLast, l.getLast hne, (List.dropLast_concat_getLast hne).symm, by rw [List.length_dropLast, h]; rfl⟩
section
variable {α β γ δ : Type} {mk : α → β} {f : β → (Option γ × List α) → Sem (ForInStep (Option γ × List α))}
theorem gather (hf : ∀ x d run, (run ++ [x]).length ≠ 17 → f (mk x) (d, run) = pure (.yield (d, run ++ [x]))) : ∀ (C : List α) (rest : List β) (d : Option γ) (run : List α), run.length + C.length < 17 →
    forIn (C.map mk ++ rest) (d, run) f = forIn rest (d, run ++ C) f
  | [], rest, d, run, _ => by rw [List.append_nil]; rfl
  | x :: C, rest, d, run, h => by
    have e : (run ++ [x]).length + C.length = run.length + (x :: C).length := by rw [List.length_append, Nat.add_assoc, Nat.add_comm [x].length]; rfl
    rw [show run ++ x :: C = run ++ [x] ++ C from (List.append_cons run x C), ← gather hf C rest d (run ++ [x]) (by rw [e]; exact h)]
    show forIn (mk x :: (C.map mk ++ rest)) (d, run) f = _
    rw [List.forIn_cons, hf x d run fun h' => absurd (Nat.le_trans (Nat.le_add_right _ C.length) (Nat.le_of_eq e)) (by rw [h']; exact Nat.not_le.mpr h)]
    rfl
theorem disp_loop {fl : List α → Option γ → Sem (Option γ)} (hf : ∀ x d run, f (mk x) (d, run) = if ((run ++ [x]).length == 17) = true then (fl (run ++ [x]) d >>= fun m => pure (.yield (m, []))) else pure (.yield (d, run ++ [x])))
    {p1 p2 : List α} (h1 : p1.length = 17) (h2 : p2.length ≤ 15) : forIn ((p1 ++ p2).map mk) (none, []) f = (fl p1 none >>= fun m => pure (m, p2)) := by
  have hn : ∀ x d run, (run ++ [x]).length ≠ 17 → f (mk x) (d, run) = pure (.yield (d, run ++ [x])) := fun x d run h => (hf x d run).trans (if_neg fun h' => h (beq_iff_eq.mp h'))
  obtain ⟨C, x, rfl, hC⟩ := snoc_of h1
  rw [List.map_append, List.map_append, List.append_assoc, gather hn C _ none [] (by rw [hC]; exact Nat.lt_succ_self 16)]
  show forIn (mk x :: p2.map mk) (none, C) f = _
  rw [List.forIn_cons, hf, if_pos (beq_iff_eq.mpr h1), bind_assoc]
  refine congrArg (fl (C ++ [x]) none >>= ·) (funext fun m => ?_)
  rw [pure_bind]
  show forIn (p2.map mk) (m, []) f = _
  rw [← List.append_nil (p2.map mk), gather hn p2 [] m [] (by rw [List.length_nil, Nat.zero_add]; exact Nat.lt_of_le_of_lt h2 (by decide))]
  rfl
end
theorem flush_none {run : List (Sem Value × Sem Value)} (h : run ≠ []) : flushD run none = (subDict run >>= fun d => pure (some d)) := by
  cases run with
  | nil => exact absurd rfl h
  | cons => rfl
theorem flush_some {run : List (Sem Value × Sem Value)} {d : Addr} (h : run ≠ []) : flushD run (some d) = (holding [.ref d] (subDict run) >>= fun sub => (holding [.ref d, .ref sub] (mergeMapping d (.ref sub) false)).onRaise (fun x => do let _ ← holding [.ref d, x] (runValue (.builtin "proto.let_go" {}))) >>= fun xx => pure (some d)) := by
  cases run with
  | nil => exact absurd rfl h
  | cons => rfl
theorem keys_len {kvs : List (Str × Value)} {ks : List (List Nat)} (h : kvs.map (·.1) = ks.map sOf) : kvs.length = ks.length := by
  have := congrArg List.length h
  rwa [List.length_map, List.length_map] at this
theorem display_end {s : Shared} {h1 h2 : Heap} {t2 : Nat} {k1 k2 : List (List Nat)} {kv1 kv2 : List (Str × Value)} {Q : Unit → Shared → Prop}
    (hn : ((k1 ++ k2).map sOf).Nodup) (hl1 : k1.length = 17) (hl2 : k2.length ≤ 15) (hsys : sysModules < s.heap.objs.size)
    (e1 : kv1.map (·.1) = k1.map sOf) (hd1 : h1.DictOf (skd B) s.heap.objs.size kv1) (hs1 : Heap.SameBut s.heap.objs.size (s.heap.push { cls := .type "dict", data := .dict #[] }) h1)
    (e2 : kv2.map (·.1) = k2.map sOf) (hd2 : h2.DictOf (skd B) h1.objs.size kv2) (hs2 : Heap.SameBut h1.objs.size (h1.push { cls := .type "dict", data := .dict #[] }) h2)
    (hQ : ∀ h3, h3.DictOf (skd B) s.heap.objs.size (kv1 ++ kv2) → (∀ b o, s.heap.get? b = some o → h3.get? b = some o) → Q () { s with heap := h3, toks := t2 }) :
    wpAny (model B.prog B.w) A (mergeMapping s.heap.objs.size (.ref h1.objs.size) false) Q E { s with heap := h2, toks := t2 } := by
  have hsz : h1.objs.size = s.heap.objs.size + 1 := hs1.1.trans (Heap.size_push ..)
  have hlt : s.heap.objs.size < h1.objs.size := by rw [hsz]; exact Nat.lt_succ_self _
  refine merge_ok (s := { s with heap := h2, toks := t2 }) (Nat.ne_of_lt hlt) (beq_eq_false_iff_ne.mpr (Nat.ne_of_gt (Nat.lt_trans hsys hlt))) ((hd1.push _).sameBut hs2 (Nat.ne_of_lt hlt)) hd2 ?_ ?_ ?_ fun h3 hd3 hs3 => hQ h3 hd3 fun b o hb => ?_
  · rintro rfl; rw [← keys_len e1] at hl1; cases hl1
  · rw [e1, e2, ← List.map_append]; exact hn
  · rw [keys_len e1, keys_len e2, hl1]; exact Nat.le_trans (Nat.add_le_add_left hl2 17) (by decide)
  · have hb1 := Heap.lt_size hb
    exact (hs3.2 b (Nat.ne_of_lt hb1)).trans ((hs2.2 b (Nat.ne_of_lt (Nat.lt_trans hb1 hlt))).trans (Heap.get?_push_of_some _ ((hs1.2 b (Nat.ne_of_lt hb1)).trans (Heap.get?_push_of_some _ hb))))
theorem display_ok {p1 p2 : List (Sem Value × Sem Value)} {k1 k2 : List (List Nat)} {v1 v2 : List PV} {Q : Value → Shared → Prop} (he1 : Ents B p1 k1 v1) (he2 : Ents B p2 k2 v2) (hn : ((k1 ++ k2).map sOf).Nodup) (h1 : p1.length = 17) (h2 : p2.length ≤ 15) (h3 : p2 ≠ [])
    (hsys : sysModules < s.heap.objs.size)
    (hQ : ∀ h' t kvs, s.toks ≤ t → kvs.map (·.1) = (k1 ++ k2).map sOf → (∀ z, RepL B z (v1 ++ v2) (kvs.map (·.2))) → h'.DictOf (skd B) s.heap.objs.size kvs → (∀ b o, s.heap.get? b = some o → h'.get? b = some o) → Q (.ref s.heap.objs.size) { s with heap := h', toks := t }) :
    wpAny (model B.prog B.w) A (dictDisplay ((p1 ++ p2).map fun p => (some p.1, p.2))) Q E s := by
  obtain ⟨f, hf, hs⟩ := dictDisplay_is
  have hn' := List.nodup_append.mp (List.map_append ▸ hn)
  have hne : p1 ≠ [] := by rintro rfl; cases h1
  rw [hf, disp_loop hs h1 h2, bind_assoc, flush_none hne, bind_assoc]
  refine wpAny_bind (sub_long he1 hn'.1 (by rw [h1]; decide) (by rw [h1]; decide) fun h' t kvs ht hk hv hd hs => wpAny_bind (wpAny_pure (wpAny_bind (wpAny_pure ?_))))
  rw [flush_some h3, bind_assoc]
  refine wpAny_bind (wpAny_holding (sub_short (s := { s with heap := h', toks := t }) he2 hn'.2.1 h2 fun h'' t' kvs' ht' hk' hv' hd' hs' => ?_))
  rw [bind_assoc]
  refine wpAny_bind (wpAny_onRaise (wpAny_holding (display_end hn (he1.len.1.trans h1) (Nat.le_trans (Nat.le_of_eq he2.len.1) h2) hsys hk hd hs hk' hd' hs' fun h3 hd3 hk3 => wpAny_bind (wpAny_pure (wpAny_pure ?_)))))
  refine hQ h3 t' (kvs ++ kvs') (Nat.le_trans ht ht') ?_ (fun z => ?_) hd3 hk3
  · rw [List.map_append, List.map_append, hk, hk']
  · rw [List.map_append]; exact (hv z).append (hv' z)
theorem valueAt_zip (k : Str) : ∀ {ks : List (List Nat)} {kvs : List (Str × Value)}, kvs.map (·.1) = ks.map sOf → valueAt kvs k = assocL k ks (kvs.map (·.2))
  | [], [], _ => rfl
  | [], _ :: _, h => by cases h
  | _ :: _, [], h => by cases h
  | a :: ks, (x, v) :: kvs, h => by
    simp only [List.map_cons, List.cons.injEq] at h
    obtain ⟨rfl, h2⟩ := h
    have ih := valueAt_zip k h2
    unfold valueAt at ih ⊢
    by_cases e : sOf a = k
    · show _ = if sOf a = k then some v else _
      simp [List.find?_cons, e]
    · show _ = if sOf a = k then some v else _
      simp [List.find?_cons, e, ih]
theorem constPVs_inv {m : ME} {es : List ME} {vs : List PV} (h : constPVs (m :: es) = some vs) : ∃ v vs', m = .const v ∧ constPVs es = some vs' ∧ vs = v :: vs' := by
  obtain ⟨q, _, h⟩ := Option.bind_eq_some_iff.mp h
  obtain ⟨vs', h1, h2⟩ := Option.map_eq_some_iff.mp h
  exact ⟨q.1, vs', q.2, h1, h2.symm⟩
theorem one_ent {ko : Option Expr} {k : List Nat} {v : PV} {x : Expr} {env : Env} {pos : Pos} {sc : Scope} {vars : List Str} (hk : ((vS ko).any fun q => (vConst q.1).any fun c => (vStr c.1.1).any fun s => k == s.1.cps.toList) = true) (h : chkE (.const v) sc vars x = true) (hs : cPV (.str k) (.str (sOf k)) = true) :
    ∃ e, ko = some e ∧ EntOK B (eval e env, do let y ← eval x env; standAt pos; pure y) k v := by
  obtain ⟨q1, hk⟩ := any_inv hk
  obtain ⟨q2, hk⟩ := any_inv hk
  obtain ⟨q3, hk⟩ := any_inv hk
  obtain ⟨q4, h⟩ := any_inv h
  refine ⟨q1.1, q1.2, fun A E s Q hq => ?_, fun A E s Q hq => ?_⟩
  · show wpAny _ _ (eval q1.1 env) _ _ _
    rw [q2.2, q3.2, show q3.1 = sOf k by rw [beq_iff_eq.mp hk]]
    refine const_pv (B := B) hs fun x t ht hr => ?_
    obtain ⟨_, u, rfl⟩ := hr fun xx => none
    exact hq t u ht
  · show wpAny _ _ (eval x env >>= _) _ _ _
    rw [q4.2]
    exact wpAny_bind (const_pv h fun x t ht hx => wpAny_bind (wpAny_standAt (wpAny_pure (hq x t ht hx))))
theorem ents_ok {sc : Scope} {vars : List Str} {env : Env} {pos : Pos} {ks : List (List Nat)} : ∀ {kx : List (Option Expr)} {es : List ME} {xs : List Expr} {vs : List PV}, chkKs ks kx = true → chkEs es sc vars xs = true → constPVs es = some vs → ks.length = es.length → (∀ k ∈ ks, cPV (.str k) (.str (sOf k)) = true) →
    Ents B (pairTrees kx xs env pos) ks vs ∧ kx.all (·.isSome) = true ∧ kx.length = xs.length ∧ kx.length = ks.length := by
  induction ks with
  | nil =>
    intro kx es xs vs hk he hv hl _
    obtain rfl := List.length_eq_zero_iff.mp hl.symm
    obtain rfl := Option.some.inj hv
    obtain rfl := nil_inv hk
    obtain rfl := nil_inv he
    exact ⟨⟨[], rfl, rfl, rfl, fun xx h => by cases h⟩, rfl, rfl, rfl⟩
  | cons k ks ih =>
    intro kx es xs vs hk he hv hl hs
    cases kx with
    | nil => exact Bool.noConfusion hk
    | cons ko kx =>
    cases es with
    | nil => exact Nat.noConfusion hl
    | cons m es =>
    cases xs with
    | nil => exact Bool.noConfusion he
    | cons x xs =>
    obtain ⟨h12, _⟩ := Bool.and_eq_true_iff.mp he
    obtain ⟨h1, h2⟩ := Bool.and_eq_true_iff.mp h12
    obtain ⟨v, vs', rfl, hv', rfl⟩ := constPVs_inv hv
    obtain ⟨hk1, hk2⟩ := Bool.and_eq_true_iff.mp hk
    obtain ⟨e, rfl, ho⟩ := one_ent (B := B) (env := env) (pos := pos) hk1 h1 (hs k List.mem_cons_self)
    obtain ⟨i1, i2, i3, i4⟩ := ih hk2 h2 hv' (Nat.succ.inj hl) (fun k hk => hs k (List.mem_cons_of_mem _ hk))
    exact ⟨i1.cons ho, i2, congrArg Nat.succ i3, congrArg Nat.succ i4⟩
theorem dct_core {ks : List (List Nat)} {es : List ME} {kx : List (Option Expr)} {xs : List Expr} {pos : Pos} {vs : List PV} {z P : PH} {vars : List Str} {L : Addr} {ρ : Loc} {H : AH} {Q : PV → AH → Prop} {sc : Scope} {env : Env}
    (hk : chkKs ks kx = true) (he : chkEs es sc vars xs = true) (hl : ks.length = es.length) (hv : constPVs es = some vs) (h1 : 17 < ks.length) (h2 : ks.length ≤ 32) (hn : (ks.map sOf).Nodup) (hs : ∀ k ∈ ks, cPV (.str k) (.str (sOf k)) = true)
    (hsys : ∃ o, B.heap.get? sysModules = some o) (S : St B z P vars L ρ H s) (hq : Q (.dct ks vs) H) : wpAny (model B.prog B.w) A (eval (.Dict kx xs pos) env) (PE B P vars L ρ z Q) E s := by
  obtain ⟨i1, i2, i3, i4⟩ := ents_ok (B := B) (env := env) (pos := pos) hk he hv hl hs
  obtain ⟨hlk, hlv⟩ := i1.len
  have hb : sysModules < s.heap.objs.size := by
    obtain ⟨o, ho⟩ := hsys
    exact Heap.lt_size (S.c.zin _ _ (S.c.base _ _ ho))
  obtain ⟨pl, kl⟩ : (pairTrees kx xs env pos).length = ks.length ∧ vs.length = ks.length := ⟨hlk.symm, hlv.trans hlk.symm⟩
  rw [arm_eval_Dict, zip_pairTrees kx xs env pos i2 i3, ← List.take_append_drop 17 (pairTrees kx xs env pos)]
  refine wpAny_bind (wpAny_standAt (display_ok (i1.take 17) (i1.drop 17) (by rw [List.take_append_drop]; exact hn) (by rw [List.length_take, pl]; exact Nat.min_eq_left (Nat.le_of_lt h1)) (by rw [List.length_drop, pl]; exact Nat.sub_le_sub_right h2 17) (List.ne_nil_of_length_pos (by rw [List.length_drop, pl]; exact Nat.sub_pos_of_lt h1)) hb fun h' t kvs ht hkk hvv hd hkeep => ?_))
  rw [List.take_append_drop] at hkk
  rw [List.take_append_drop] at hvv
  have S1 := S.keeps ht hkeep
  obtain ⟨o, es', ep, ho, hc, hdd, hke, hp, hnn⟩ := id hd
  have hz := S.c.zfresh
  have S2 := S1.freeze ho hz S.c.pfresh S.c.hfresh (Nat.ne_of_gt S.llt)
  have hle : es'.size = kvs.length := by have := hp.length; simpa using this
  have hkl : kvs.length = ks.length := by have := congrArg List.length hkk; simpa using this
  refine ⟨_, .dct ks vs, H, zadd_le hz, S2, ⟨_, kvs.map (·.2), rfl, beq_eq_false_iff_ne.mpr (Nat.ne_of_gt hb), kl.symm, hvv _, o, es', ep, zadd_self _ _ _, hc, hdd, hke, fun k => ?_, by rw [hle, hkl]; exact Nat.le_trans h2 (by decide)⟩, hq⟩
  show _ = assocL k ks (kvs.map (·.2))
  rw [← valueAt_zip k hkk, ← hp.find k]
  obtain ⟨l⟩ := es'
  simp [findBy]
end
end Mine
end
section
namespace Mine
open PySem PySem.W PySem.Calls PyProof.Rows PySem.Builtin PySem.Builtin.Str PySem.NumText
section
variable {B : Base} {T : Tab} {d : Nat} {z z' P : PH} {vars : List Str} {L : Addr} {ρ : Loc} {H H' : AH} {s : Shared} {A : Around} {E : Value → Shared → Prop}
theorem owned_pin (S : St B z P vars L ρ H s) {a : Addr} {x : AO} (h : H a = some x) : P a = none := by
  cases hP : P a with
  | none => rfl
  | some o => have := (S.c.pin a o hP).2.2; rw [h] at this; cases this
theorem owned_ne (S : St B z P vars L ρ H s) {a : Addr} {x : AO} (h : H a = some x) : a ≠ L := by
  rintro rfl; rw [S.lh] at h; cases h
theorem not_sysm (G : ∃ o, B.heap.get? sysModules = some o) (S : St B z P vars L ρ H s) {a : Addr} (h : z a = none) : (a == sysModules) = false := by
  cases e : a == sysModules with
  | false => rfl
  | true =>
    obtain ⟨o, ho⟩ := G
    rw [beq_iff_eq.mp e, S.c.base _ o ho] at h; cases h
theorem dict_at {h : Heap} {a : Addr} {o : Obj} {es : Array DictEntry} {ep : Nat} {kvs : List (Str × Value)} {ks : List (List Nat)} (ho : h.get? a = some o) (h1 : o.ExactDict) (h2 : o.data = .dict es ep)
    (h3 : KeysOf (strKind B.prog B.w) es) (h4 : Pairs (strKind B.prog B.w) es.toList kvs) (h5 : kvs.map (·.1) = ks.map sOf) (h6 : (ks.map sOf).Nodup) : h.DictOf (strKind B.prog B.w) a kvs :=
  ⟨o, es, ep, ho, h1, h2, h3, h4, by rw [h5]; exact h6⟩
theorem frzQ_inv {o : AO} {k : PV → Prop} (h : frzQ o k) : ∃ v, frzP o = some v ∧ k v := by
  unfold frzQ at h
  cases hf : frzP o with
  | none => rw [hf] at h; exact h.elim
  | some v => rw [hf] at h; exact ⟨v, rfl, h⟩
theorem frz_ok (G : ∃ o, B.heap.get? sysModules = some o) (S : St B z P vars L ρ H s) {l : Addr} {x : AO} {p : PV} (hl : H l = some x) (hf : frzP x = some p) :
    ∃ z', zle z z' ∧ St B z' P vars L ρ (H.del l) s ∧ Rep B z' p (.ref l) := by
  obtain ⟨hz, o, ho, hr⟩ := S.c.hin l x hl
  have hn : NoTbl (H l) := by
    rw [hl]
    cases x with
    | tbl => cases hf
    | _ => trivial
  refine ⟨zadd z l o, zadd_le hz, (S.drop l hn).freeze ho hz (owned_pin S hl) (by simp [AH.del]) (owned_ne S hl), ?_⟩
  cases x with
  | list vs =>
    cases hf
    obtain ⟨n, xs, rfl, hr, hsz⟩ := hr
    exact ⟨l, n, xs, rfl, zadd_self _ _ _, hr.mono (zadd_le hz), hsz⟩
  | dict ks vs =>
    cases hf
    obtain ⟨es, ep, kvs, h1, h2, h3, h4, h5, h6, hr, hsz⟩ := hr
    have hlen := hr.length
    have hkl := congrArg List.length h5
    rw [List.length_map, List.length_map] at hkl
    rw [List.length_map] at hlen
    refine ⟨l, _, rfl, not_sysm G S hz, hkl.symm.trans hlen, hr.mono (zadd_le hz), o, es, ep, zadd_self _ _ _, h1, h2, h3, fun k => ?_, hsz⟩
    show findBy _ es k = assocL k ks _
    rw [← valueAt_zip k h5, ← h4.find k, Array.find?_toList]; rfl
  | tdict ks vs =>
    cases hf
    obtain ⟨es, ep, xs, h1, h2, hr, ht⟩ := hr
    exact ⟨l, xs, rfl, not_sysm G S hz, hr.mono (zadd_le hz), o, es, ep, zadd_self _ _ _, h1, h2, ht.mono (zadd_le hz)⟩
  | inst => cases hf
  | tbl => cases hf
theorem RepL.cut {ps qs : List PV} : ∀ {vs : List Value}, RepL B z (ps ++ qs) vs → ∃ us ws, vs = us ++ ws ∧ RepL B z ps us ∧ RepL B z qs ws := by
  induction ps with
  | nil => intro vs h; exact ⟨[], vs, rfl, rfl, h⟩
  | cons p ps ih =>
    intro vs h
    obtain ⟨v, vs, rfl, h1, h2⟩ := h
    obtain ⟨us, ws, rfl, h3, h4⟩ := ih h2
    exact ⟨v :: us, ws, rfl, ⟨v, us, rfl, h1, h3⟩, h4⟩
theorem reown (S : St B z P vars L ρ H s) {a : Addr} {x y : AO} (hx : H a = some y) (hr : ∀ o, ORep B z o y → ORep B z o x) (hy : NoTbl (some y)) : St B z P vars L ρ (H.upd a x) s := by
  obtain ⟨hz, o, ho, h⟩ := S.c.hin a y hx
  exact S.changeOwn (h' := s.heap) (t := s.toks) (Nat.le_refl _) (fun b o' xx e => e) hx ho (hr o h) hy
theorem node_shut {c a : Addr} {fs gs its : List PV} {v : Value} (h : Rep B z (.node c (fs ++ .ref a :: gs)) v) (k : Rep B z (.lst its) (.ref a)) : Rep B z (.node c (fs ++ .lst its :: gs)) v := by
  obtain ⟨b, dd, sl, xs, rfl, h1, h2, h3, h4⟩ := h
  obtain ⟨us, ws, rfl, h5, h6⟩ := RepL.cut h4
  obtain ⟨w, ws, rfl, hw, h7⟩ := h6
  cases hw
  exact ⟨b, dd, sl, _, rfl, h1, h2, h3, h5.append ⟨_, _, rfl, k, h7⟩⟩
theorem shut_ok (G : ∃ o, B.heap.get? sysModules = some o) (h : Shut H H') : ∀ {z : PH}, St B z P vars L ρ H s → ∃ z', zle z z' ∧ St B z' P vars L ρ H' s := by
  induction h with
  | refl => intro z S; exact ⟨z, zle.refl z, S⟩
  | step h ha hb hne ih =>
    intro z S
    obtain ⟨z₁, le₁, S₁⟩ := ih S
    obtain ⟨z₂, le₂, S₂, r⟩ := frz_ok G S₁ ha rfl
    refine ⟨z₂, le₁.trans le₂, reown S₂ (y := .list _) (by unfold AH.del; rw [if_neg (Ne.symm hne)]; exact hb) (fun o ho => ?_) trivial⟩
    obtain ⟨n, xs, e, hr, hsz⟩ := ho
    obtain ⟨us, ws, e2, h5, h6⟩ := RepL.cut hr
    obtain ⟨w, ws, rfl, hw, h7⟩ := h6
    refine ⟨n, xs, e, ?_, hsz⟩
    rw [e2]
    exact h5.append ⟨w, ws, rfl, node_shut hw r, h7⟩
theorem setB_inv {l : Addr} {k v : PV} {Q : AH → Prop} (h : setB l k v Q H) :
    (∃ ks vs s, k = .str s ∧ H l = some (.dict ks vs) ∧ s ∉ ks ∧ sok s ∧ ks.length < 1000 ∧ Q (H.upd l (.dict (ks ++ [s]) (vs ++ [v])))) ∨
    (∃ ks vs s, k = .tup (s.map PV.int) ∧ H l = some (.tdict ks vs) ∧ s ∉ ks ∧ ks.length < 1000 ∧ Q (H.upd l (.tdict (ks ++ [s]) (vs ++ [v])))) := by unfold setB at h; exact h
theorem stored_new {kvs : List (Str × Value)} {k : Str} {v : Value} (h : k ∉ kvs.map (·.1)) : stored kvs k v = kvs ++ [(k, v)] := by
  unfold stored
  rw [if_neg]
  intro q
  obtain ⟨x, hx, e⟩ := List.any_eq_true.mp q
  exact h (List.mem_map.mpr ⟨x, hx, of_decide_eq_true e⟩)
theorem nodup_snoc {α : Type} {l : List α} {a : α} (h : l.Nodup) (n : a ∉ l) : (l ++ [a]).Nodup :=
  List.nodup_append.mpr ⟨h, List.nodup_cons.mpr ⟨fun q => (by cases q), List.nodup_nil⟩, fun x hx y hy e => by rw [List.mem_singleton] at hy; subst hy; subst e; exact n hx⟩
theorem dict_put (S : St B z P vars L ρ H s) {l : Addr} {ks : List (List Nat)} {vs : List PV} {sk : List Nat} {v : Value} {pv : PV} {t : Tok} {Q : Unit → Shared → Prop} (hl : H l = some (.dict ks vs)) (hn : sk ∉ ks) (hc : ks.length < 1000) (rv : Rep B z pv v)
    (hQ : ∀ h' t, St B z P vars L ρ (H.upd l (.dict (ks ++ [sk]) (vs ++ [pv]))) { s with heap := h', toks := t } → Q () { s with heap := h', toks := t }) : wpAny (model B.prog B.w) A (setItem (.ref l) (.str (sOf sk) t) v) Q E s := by
  obtain ⟨hz, o, ho, es, ep, kvs, g1, g2, g3, g4, g5, g6, hr, hsz⟩ := S.c.hin l _ hl
  have hkl := congrArg List.length g5
  rw [List.length_map, List.length_map] at hkl
  have hk : sOf sk ∉ ks.map sOf := fun q => by obtain ⟨y, hy, e⟩ := List.mem_map.mp q; exact hn (sOf_inj e ▸ hy)
  refine wpAny_setItem_pairs (knd := strKind B.prog B.w) (k := sOf sk) (strKind_is _ _ _ t) (dict_at ho g1 g2 g3 g4 g5 g6) (fun h' hd hs => ?_) (by rw [hkl, sizeLine_is]; lia)
  rw [stored_new (by rw [g5]; exact hk)] at hd
  obtain ⟨o', es', ep', q1, q2, q3, q4, q5, q6⟩ := hd
  have hel := q5.length
  rw [Array.length_toList, List.length_append] at hel
  refine hQ h' (s.toks + 1) (S.changeOwn (Nat.le_succ _) hs.extBut hl q1 (x := .dict (ks ++ [sk]) (vs ++ [pv])) ⟨es', ep', _, q2, q3, q4, q5, ?_, ?_, ?_, ?_⟩ trivial)
  · rw [List.map_append, List.map_append, g5]; rfl
  · rw [List.map_append]; exact nodup_snoc g6 hk
  · rw [List.map_append]; exact hr.append (RepL.single rv)
  · rw [hel, hkl]; exact hc
theorem atKey_new {l : List (List Int × Addr × Value)} {k : List Int} (h : k ∉ l.map (·.1)) : atKey l k = none := by
  unfold atKey
  rw [Option.map_eq_none_iff, List.find?_eq_none]
  exact fun x hx e => h (List.mem_map.mpr ⟨x, hx, of_decide_eq_true e⟩)
theorem tdict_put (S : St B z P vars L ρ H s) {l a : Addr} {ks : List (List Int)} {vs : List PV} {k : List Int} {v : Value} {pv : PV} {Q : Unit → Shared → Prop} (hl : H l = some (.tdict ks vs)) (hn : k ∉ ks) (hc : ks.length < 1000) (hu : A.units + 64 < cLine)
    (tk : TKey B.prog B.w z k a) (rv : Rep B z pv v)
    (hQ : ∀ h' t, St B z P vars L ρ (H.upd l (.tdict (ks ++ [k]) (vs ++ [pv]))) { s with heap := h', toks := t } → Q () { s with heap := h', toks := t }) : wpAny (model B.prog B.w) A (setItem (.ref l) (.ref a) v) Q E s := by
  obtain ⟨hz, o, ho, es, ep, xs, g1, g2, hr, g4⟩ := S.c.hin l _ hl
  obtain ⟨kvs, hm, e1, e2, e3, e4, e5⟩ := dictT_at ho g1 g2 g4 S.zi
  have hkl := congrArg List.length e1
  rw [List.length_map] at hkl
  refine wpAny_setItem_heap (tupleKind_room_in1 (by lia)) (tk.at S.zi) hm (fun h' hd hs => ?_) (by rw [hkl, sizeLine_is]; lia)
  rw [storedH_new (atKey_new (by rw [e1]; exact hn))] at hd
  obtain ⟨o', es', ep', q1, q2, q3, q4, q5, q6⟩ := hd
  refine hQ h' _ (S.changeOwn (Nat.le_add_right _ _) hs.extBut hl q1 (x := .tdict (ks ++ [k]) (vs ++ [pv])) ⟨es', ep', xs ++ [v], q2, q3, hr.append (RepL.single rv), _, q4, fun x hx => ?_, ?_, ?_, nodup_snoc e4 hn, ?_⟩ trivial)
  · rcases List.mem_append.mp hx with hx | hx
    · exact e5 x hx
    · rw [List.mem_singleton] at hx; subst hx; exact tk
  · rw [List.map_append, e1]; rfl
  · rw [List.map_append, e2]; rfl
  · rw [List.length_append, hkl]; exact hc
end
end Mine
end
section
namespace Mine
open PySem PySem.W PySem.Calls PyProof.Rows PySem.Builtin PySem.Builtin.Str PySem.NumText
theorem ands {a b : Bool} (h : (a && b) = true) : a = true ∧ b = true := Bool.and_eq_true_iff.mp h
theorem ands3 {a b c : Bool} (h : (a && b && c) = true) : a = true ∧ b = true ∧ c = true := by obtain ⟨x, y⟩ := ands h; exact ⟨(ands x).1, (ands x).2, y⟩
theorem ands4 {a b c d : Bool} (h : (a && b && c && d) = true) : a = true ∧ b = true ∧ c = true ∧ d = true := have x := ands h; have q := ands3 x.1; ⟨q.1, q.2.1, q.2.2, x.2⟩
theorem ands5 {a b c d e : Bool} (h : (a && b && c && d && e) = true) : a = true ∧ b = true ∧ c = true ∧ d = true ∧ e = true := have x := ands h; have q := ands4 x.1; ⟨q.1, q.2.1, q.2.2.1, q.2.2.2, x.2⟩
theorem ands6 {a b c d e f : Bool} (h : (a && b && c && d && e && f) = true) : a = true ∧ b = true ∧ c = true ∧ d = true ∧ e = true ∧ f = true := have x := ands h; have q := ands5 x.1; ⟨q.1, q.2.1, q.2.2.1, q.2.2.2.1, q.2.2.2.2, x.2⟩
theorem ands7 {a b c d e f g : Bool} (h : (a && b && c && d && e && f && g) = true) : a = true ∧ b = true ∧ c = true ∧ d = true ∧ e = true ∧ f = true ∧ g = true := have x := ands h; have q := ands6 x.1; ⟨q.1, q.2.1, q.2.2.1, q.2.2.2.1, q.2.2.2.2.1, q.2.2.2.2.2, x.2⟩
theorem ands8 {a b c d e f g i : Bool} (h : (a && b && c && d && e && f && g && i) = true) : a = true ∧ b = true ∧ c = true ∧ d = true ∧ e = true ∧ f = true ∧ g = true ∧ i = true := have x := ands h; have q := ands7 x.1; ⟨q.1, q.2.1, q.2.2.1, q.2.2.2.1, q.2.2.2.2.1, q.2.2.2.2.2.1, q.2.2.2.2.2.2, x.2⟩
theorem nots {a : Bool} (h : (!a) = true) : a = false := by cases a <;> first | rfl | cases h
theorem isSome0_inv {α : Type} {o : Option α} (h : isSome0 o = true) : o = none := by cases o <;> first | rfl | cases h
theorem some_inv {α : Type} {o : Option α} (h : o.isSome = true) : ∃ x, o = some x := Option.isSome_iff_exists.mp h
theorem get_inv {ρ : Loc} {i : Nat} {k : PV → Prop} (h : match getL ρ i with | some v => k v | none => False) : ∃ v, getL ρ i = some v ∧ k v := by
  cases q : getL ρ i with
  | none => rw [q] at h; exact h.elim
  | some v => rw [q] at h; exact ⟨v, rfl, h⟩
section
variable (B : Base) (T : Tab) (d : Nat)
noncomputable def SndE (m : ME) : Prop := ∀ (e : Expr) (ρ : Loc) (H : AH) (Q : KE) (z P : PH) (vars : List Str) (sc : Scope) (L : Addr) (env : Env) (A : Around) (s : Shared),
  EnvOK B T env vars sc L → Room d A → chkE m sc vars e = true → vcE B T d m Q ρ H → St B z P vars L ρ H s → wpAny (model B.prog B.w) A (eval e env) (PE B P vars L ρ z Q) NoExc s
noncomputable def SndT (m : ME) : Prop := ∀ (e : Expr) (ρ : Loc) (H : AH) (Q : KT) (z P : PH) (vars : List Str) (sc : Scope) (L : Addr) (env : Env) (A : Around) (s : Shared),
  EnvOK B T env vars sc L → Room d A → chkE m sc vars e = true → vcT B T d m Q ρ H → St B z P vars L ρ H s → wpAny (model B.prog B.w) A (isTrue e env (eval e env)) (PT B P vars L ρ z Q) NoExc s
noncomputable def SndL (ms : List ME) : Prop := ∀ (xs : List Expr) (pos : Pos) (ρ : Loc) (H : AH) (Q : KL) (z P : PH) (vars : List Str) (sc : Scope) (L : Addr) (env : Env) (A : Around) (s : Shared),
  EnvOK B T env vars sc L → Room d A → chkEs ms sc vars xs = true → vcEs B T d ms Q ρ H → St B z P vars L ρ H s → wpAny (model B.prog B.w) A (spliced (backTo pos (starEach xs env))) (fun vs s' => vs.length = ms.length ∧ PEs B P vars L ρ z Q vs s') NoExc s
noncomputable def SndO (m : Option ME) : Prop := ∀ (e : Option Expr) (ρ : Loc) (H : AH) (Q : KE) (z P : PH) (vars : List Str) (sc : Scope) (L : Addr) (env : Env) (A : Around) (s : Shared),
  EnvOK B T env vars sc L → Room d A → chkO m sc vars e = true → vcO B T d m Q ρ H → St B z P vars L ρ H s → wpAny (model B.prog B.w) A (evalPart e env) (PE B P vars L ρ z Q) NoExc s
noncomputable def SndB (ms : List ME) : Prop := ∀ (op : BoolOp) (xs : List Expr) (pos : Pos) (ρ : Loc) (H : AH) (Q : KE) (z P : PH) (vars : List Str) (sc : Scope) (L : Addr) (env : Env) (A : Around) (s : Shared),
  EnvOK B T env vars sc L → Room d A → chkEs ms sc vars xs = true → vcB B T d op ms Q ρ H → St B z P vars L ρ H s → wpAny (model B.prog B.w) A (boolOp pos op (evalEach xs env)) (PE B P vars L ρ z Q) NoExc s
noncomputable def SndTB (ms : List ME) : Prop := ∀ (op : BoolOp) (xs : List Expr) (ρ : Loc) (H : AH) (Q : KT) (z P : PH) (vars : List Str) (sc : Scope) (L : Addr) (env : Env) (A : Around) (s : Shared),
  EnvOK B T env vars sc L → Room d A → chkEs ms sc vars xs = true → vcTB B T d op ms Q ρ H → St B z P vars L ρ H s → wpAny (model B.prog B.w) A (allTrue op xs env) (PT B P vars L ρ z Q) NoExc s
noncomputable def SndF (es : List (Option (List Nat) × Option ME)) : Prop := ∀ (xs : List Expr) (out : List Nat) (ρ : Loc) (H : AH) (Q : KE) (z₀ z P : PH) (vars : List Str) (sc : Scope) (L : Addr) (env : Env) (A : Around) (s : Shared),
  EnvOK B T env vars sc L → Room d A → chkF es sc vars xs = true → vcF B T d es out Q ρ H → sok out → zle z₀ z → St B z P vars L ρ H s →
    Joins (model B.prog B.w) A NoExc (evalEach xs env) (sOf out) (fun o s₁ => ∃ z' out' H', zle z₀ z' ∧ St B z' P vars L ρ H' s₁ ∧ o = sOf out' ∧ sok out' ∧ Q (.str out') H') s
end
section
variable {B : Base} {T : Tab} {d : Nat} {z P : PH} {vars : List Str} {L : Addr} {ρ : Loc} {H : AH} {s : Shared} {A : Around} {env : Env} {sc : Scope} {m a b c : ME} {ms es : List ME} {e : Expr} {E : Value → Shared → Prop}
theorem SndE.then (x : SndE B T d m) {Q : KE} {Q' : Value → Shared → Prop} (V : EnvOK B T env vars sc L) (R : Room d A) (hc : chkE m sc vars e = true) (h : vcE B T d m Q ρ H) (S : St B z P vars L ρ H s)
    (k : ∀ v s₁ z₁ p H₁, zle z z₁ → St B z₁ P vars L ρ H₁ s₁ → Rep B z₁ p v → Q p H₁ → Q' v s₁) : wpAny (model B.prog B.w) A (eval e env) Q' E s :=
  wpAny_mono (x e ρ H Q z P vars sc L env A s V R hc h S) (fun v s₁ hh => by obtain ⟨z₁, p, H₁, a, b, c, q⟩ := hh; exact k v s₁ z₁ p H₁ a b c q) (fun xx xx x => x.elim)
theorem SndE.out (x : SndE B T d m) {Q : KE} {z₀ : PH} (V : EnvOK B T env vars sc L) (R : Room d A) (hc : chkE m sc vars e = true) (h : vcE B T d m Q ρ H) (S : St B z P vars L ρ H s) (le : zle z₀ z) : wpAny (model B.prog B.w) A (eval e env) (PE B P vars L ρ z₀ Q) E s :=
  x.then V R hc h S fun xx xx z₁ p H₁ a b c q => ⟨z₁, p, H₁, le.trans a, b, c, q⟩
theorem SndT.then (x : SndT B T d m) {Q : KT} {Q' : Bool → Shared → Prop} (V : EnvOK B T env vars sc L) (R : Room d A) (hc : chkE m sc vars e = true) (h : vcT B T d m Q ρ H) (S : St B z P vars L ρ H s)
    (k : ∀ s₁ z₁ (p : DP) H₁, zle z z₁ → St B z₁ P vars L ρ H₁ s₁ → Q p H₁ → Q' p.dec s₁) : wpAny (model B.prog B.w) A (isTrue e env (eval e env)) Q' E s :=
  wpAny_mono (x e ρ H Q z P vars sc L env A s V R hc h S) (fun v s₁ hh => by obtain ⟨z₁, H₁, p, a, b, c, q⟩ := hh; exact c ▸ k s₁ z₁ p H₁ a b q) (fun xx xx x => x.elim)
theorem SndL.then (x : SndL B T d ms) {xs : List Expr} {pos : Pos} {Q : KL} {Q' : List Value → Shared → Prop} (V : EnvOK B T env vars sc L) (R : Room d A) (hc : chkEs ms sc vars xs = true) (h : vcEs B T d ms Q ρ H) (S : St B z P vars L ρ H s)
    (k : ∀ v s₁ z₁ p H₁, v.length = ms.length → zle z z₁ → St B z₁ P vars L ρ H₁ s₁ → RepL B z₁ p v → Q p H₁ → Q' v s₁) : wpAny (model B.prog B.w) A (spliced (backTo pos (starEach xs env))) Q' E s :=
  wpAny_mono (x xs pos ρ H Q z P vars sc L env A s V R hc h S) (fun v s₁ hh => by obtain ⟨hl, z₁, p, H₁, a, b, c, q⟩ := hh; exact k v s₁ z₁ p H₁ hl a b c q) (fun xx xx x => x.elim)
theorem SndO.then (x : SndO B T d o) {e : Option Expr} {Q : KE} {Q' : Value → Shared → Prop} (V : EnvOK B T env vars sc L) (R : Room d A) (hc : chkO o sc vars e = true) (h : vcO B T d o Q ρ H) (S : St B z P vars L ρ H s)
    (k : ∀ v s₁ z₁ p H₁, zle z z₁ → St B z₁ P vars L ρ H₁ s₁ → Rep B z₁ p v → Q p H₁ → Q' v s₁) : wpAny (model B.prog B.w) A (evalPart e env) Q' E s :=
  wpAny_mono (x e ρ H Q z P vars sc L env A s V R hc h S) (fun v s₁ hh => by obtain ⟨z₁, p, H₁, a, b, c, q⟩ := hh; exact k v s₁ z₁ p H₁ a b c q) (fun xx xx x => x.elim)
theorem tst_of {c : DP} {X Y : Prop} (h : tst c X Y) : if c.dec then X else Y := by
  cases q : c.dec with
  | true => exact tst_true h (@of_decide_eq_true c.p c.i q)
  | false => exact tst_false h (@of_decide_eq_false c.p c.i q)
theorem snd_const {v : PV} : SndE B T d (.const v) := by
  intro e ρ H Q z P vars sc L env A s V R hc h S
  obtain ⟨⟨⟨c, k, p⟩, rfl⟩, hc⟩ := any_inv hc
  exact const_ok hc (S.out h)
theorem snd_var {i : Nat} : SndE B T d (.var i) := by
  intro e ρ H Q z P vars sc L env A s V R hc h S
  obtain ⟨⟨⟨c, p⟩, rfl⟩, hc⟩ := any_inv hc
  obtain ⟨v, hv, hq⟩ := get_inv (k := fun v => Q v H) h
  exact var_ok V S hc hv fun x hx => ⟨z, v, H, zle.refl z, S, hx, hq⟩
theorem snd_glob {nm : Str} {v : PV} (G : GoodB B) : SndE B T d (.glob nm v) := by
  intro e ρ H Q z P vars sc L env A s V R hc h S
  obtain ⟨⟨⟨c, p⟩, rfl⟩, hc⟩ := any_inv hc
  obtain ⟨h1, hg⟩ := ands hc
  cases beq_iff_eq.mp h1
  obtain ⟨⟨x, hx, hr⟩, hq⟩ := h
  exact glob_ok V G S.c.bin hg hx ⟨z, v, H, zle.refl z, S, hr.mono S.c.base, hq⟩
theorem snd_bin {op : Operator} (xa : SndE B T d a) (xb : SndE B T d b) : SndE B T d (.bin op a b) := by
  intro e ρ H Q z P vars sc L env A s V R hc h S
  obtain ⟨⟨⟨l, o, r, p⟩, rfl⟩, hc⟩ := any_inv hc
  obtain ⟨h0, h1, h2⟩ := ands3 hc
  cases beq_iff_eq.mp h0
  exact wpAny_BinOp (xa.then V R h1 h S fun va s₁ z₁ x H₁ le₁ S₁ r₁ h₁ => xb.then V R h2 h₁ S₁ fun vb s₂ z₂ y H₂ le₂ S₂ r₂ h₂ =>
    binK_ok h₂ (r₁.mono le₂) r₂ fun r hq v t ht hv => ⟨z₂, r, H₂, le₁.trans le₂, S₂.toks ht, hv, hq⟩)
theorem snd_neg (xa : SndE B T d a) : SndE B T d (.neg a) := by
  intro e ρ H Q z P vars sc L env A s V R hc h S
  obtain ⟨⟨⟨o, x, p⟩, rfl⟩, hc⟩ := any_inv hc
  obtain ⟨h0, h1⟩ := ands hc
  cases o <;> first | (cases h0; done) | skip
  refine wpAny_UnaryOp (xa.then V R h1 h S fun va s₁ z₁ x H₁ le₁ S₁ r₁ h₁ => ?_)
  obtain ⟨i, rfl, hq⟩ := onInt_inv h₁
  exact neg_ok r₁ fun v t ht hv => ⟨z₁, _, H₁, le₁, S₁.toks ht, hv, hq⟩
theorem snd_nt (xa : SndE B T d a) : SndE B T d (.nt a) := by
  intro e ρ H Q z P vars sc L env A s V R hc h S
  obtain ⟨⟨⟨o, x, p⟩, rfl⟩, hc⟩ := any_inv hc
  obtain ⟨h0, h1⟩ := ands hc
  cases o <;> first | (cases h0; done) | skip
  refine wpAny_UnaryOp (xa.then V R h1 h S fun va s₁ z₁ x H₁ le₁ S₁ r₁ h₁ => ?_)
  refine not_value (tr_ok h₁ r₁ fun c hq t ht => ?_)
  have e : c.not.dec = !c.dec := @decide_not c.p c.i (@instDecidableNot c.p c.i)
  rw [e] at hq
  exact ⟨z₁, .bool _, H₁, le₁, S₁.toks ht, rfl, hq⟩
theorem snd_bop {op : BoolOp} (xs : SndB B T d es) : SndE B T d (.bop op es) := by
  intro e ρ H Q z P vars sc L env A s V R hc h S
  obtain ⟨⟨⟨o, x, p⟩, rfl⟩, hc⟩ := any_inv hc
  obtain ⟨h0, h1⟩ := ands hc
  cases beq_iff_eq.mp h0
  rw [arm_eval_BoolOp]
  exact xs _ _ _ _ _ _ _ _ _ _ _ _ _ _ V R h1 h S
theorem snd_cmp {op : CmpOp} (xa : SndE B T d a) (xb : SndE B T d b) : SndE B T d (.cmp op a b) := by
  intro e ρ H Q z P vars sc L env A s V R hc h S
  obtain ⟨q, hc⟩ := any_inv hc
  obtain ⟨o, hc⟩ := any_inv hc
  obtain ⟨r, hc⟩ := any_inv hc
  obtain ⟨h0, h1, h2, h3⟩ := ands4 hc
  have h3 := nots h3
  rw [beq_iff_eq.mp h0] at h3
  rw [q.2, o.2, r.2, beq_iff_eq.mp h0]
  exact wpAny_Compare1 (xa.then V R h1 h S fun va s₁ z₁ x H₁ le₁ S₁ r₁ h₁ => xb.then V R h2 h₁ S₁ fun vb s₂ z₂ y H₂ le₂ S₂ r₂ h₂ =>
    cmpK_ok h₂ (r₁.mono le₂) r₂ S₂.zi R fun c hq t ht => ⟨z₂, .bool _, H₂, le₁.trans le₂, S₂.toks ht, rfl, hq⟩) h3
theorem snd_ife (xt : SndT B T d m) (xa : SndE B T d a) (xb : SndE B T d b) : SndE B T d (.ife m a b) := by
  intro e ρ H Q z P vars sc L env A s V R hc h S
  obtain ⟨⟨⟨t, x, y, p⟩, rfl⟩, hc⟩ := any_inv hc
  obtain ⟨h1, h2, h3⟩ := ands3 hc
  refine wpAny_IfExp (xt.then V R h1 h S fun s₁ z₁ c H₁ le₁ S₁ h₁ => ?_)
  have := tst_of h₁
  cases q : c.dec with
  | true => rw [q] at this; exact xa.out V R h2 this S₁ le₁
  | false => rw [q] at this; exact xb.out V R h3 this S₁ le₁
theorem snd_tup (xs : SndL B T d es) : SndE B T d (.tup es) := by
  intro e ρ H Q z P vars sc L env A s V R hc h S
  obtain ⟨⟨⟨x, k, p⟩, rfl⟩, hc⟩ := any_inv hc
  obtain ⟨h1, h2⟩ := ands hc
  refine wpAny_Tuple_spliced (xs.then V R h1 h S fun vs s₁ z₁ ps H₁ hl le₁ S₁ r₁ hq => ?_)
  have hlen : vs.length ≤ sizeLine := by rw [hl, sizeLine_is]; exact Nat.le_trans (of_decide_eq_true h2) (by lia)
  exact ⟨hlen, _, .tup ps, H₁, le₁.trans (zadd_le S₁.c.zfresh), S₁.pushFrozen rfl, ⟨_, 0, vs.toArray, rfl, zadd_self _ _ _, r₁.mono (zadd_le S₁.c.zfresh), hlen⟩, hq⟩
theorem snd_lst (xs : SndL B T d es) : SndE B T d (.lst es) := by
  intro e ρ H Q z P vars sc L env A s V R hc h S
  obtain ⟨⟨⟨x, k, p⟩, rfl⟩, hc⟩ := any_inv hc
  obtain ⟨h1, h2⟩ := ands hc
  refine wpAny_List_spliced (xs.then V R h1 h S fun vs s₁ z₁ ps H₁ hl le₁ S₁ r₁ hq => ?_)
  have hlen : vs.length ≤ sizeLine := by rw [hl, sizeLine_is]; exact Nat.le_trans (of_decide_eq_true h2) (by lia)
  exact ⟨hlen, _, .lst ps, H₁, le₁.trans (zadd_le S₁.c.zfresh), S₁.pushFrozen rfl, ⟨_, 0, vs.toArray, rfl, zadd_self _ _ _, r₁.mono (zadd_le S₁.c.zfresh), hlen⟩, hq⟩
theorem snd_mlst (xs : SndL B T d es) : SndE B T d (.mlst es) := by
  intro e ρ H Q z P vars sc L env A s V R hc h S
  obtain ⟨⟨⟨x, k, p⟩, rfl⟩, hc⟩ := any_inv hc
  obtain ⟨h1, h2⟩ := ands hc
  refine wpAny_List_spliced (xs.then V R h1 h S fun vs s₁ z₁ ps H₁ hl le₁ S₁ r₁ hq => ?_)
  have hlen : vs.length ≤ sizeLine := by rw [hl, sizeLine_is]; exact Nat.le_trans (of_decide_eq_true h2) (by lia)
  exact ⟨hlen, z₁, .ref s₁.heap.objs.size, H₁.upd s₁.heap.objs.size (.list ps), le₁, S₁.pushOwn rfl ⟨0, vs.toArray, rfl, r₁, hlen⟩, rfl, hq _ S₁.c.hfresh⟩
theorem snd_dct {ks : List (List Nat)} (G : GoodB B) : SndE B T d (.dct ks es) := by
  intro e ρ H Q z P vars sc L env A s V R hc h S
  obtain ⟨⟨⟨x, k, p⟩, rfl⟩, hc⟩ := any_inv hc
  obtain ⟨h1, h2, h3⟩ := ands3 hc
  obtain ⟨vs, hv, ⟨g1, g2⟩, hn, hk, hq⟩ := h
  exact dct_core h1 h2 (of_decide_eq_true h3) hv g1 g2 hn hk G.sysm S hq
theorem snd_idx (xa : SndE B T d a) (xb : SndE B T d b) : SndE B T d (.idx a b) := by
  intro e ρ H Q z P vars sc L env A s V R hc h S
  obtain ⟨⟨⟨l, r, c, p⟩, rfl⟩, hc⟩ := any_inv hc
  obtain ⟨h1, h2, h3⟩ := ands3 hc
  exact Subscript_ (xa.then V R h1 h S fun va s₁ z₁ x H₁ le₁ S₁ r₁ h₁ => xb.then V R h2 h₁ S₁ fun vb s₂ z₂ y H₂ le₂ S₂ r₂ h₂ =>
    idxK_ok h₂ (r₁.mono le₂) r₂ S₂.zi (not_slice (nots h3)) fun r hq v t ht hv => ⟨z₂, r, H₂, le₁.trans le₂, S₂.toks ht, hv, hq⟩)
theorem snd_slc {lo hi : Option ME} (xa : SndE B T d a) (xl : SndO B T d lo) (xh : SndO B T d hi) : SndE B T d (.slc a lo hi) := by
  intro e ρ H Q z P vars sc L env A s V R hc h S
  obtain ⟨q, hc⟩ := any_inv hc
  obtain ⟨w, hc⟩ := any_inv hc
  obtain ⟨h0, h1, h2, h3⟩ := ands4 hc
  rw [q.2, w.2, isSome0_inv h0]
  refine Subscript_ (xa.then V R h1 h S fun va s₁ z₁ x H₁ le₁ S₁ r₁ h₁ => wpAny_Slice (xl.then V R h2 h₁ S₁ fun vl s₂ z₂ l H₂ le₂ S₂ r₂ h₂ => xh.then V R h3 h₂ S₂ fun vu s₃ z₃ u H₃ le₃ S₃ r₃ h₃ => wpAny_pure ?_))
  have S₄ := S₃.keeps (h' := s₃.heap.push { cls := .type "slice", data := .fields #[vl, vu, .none] }) (Nat.le_refl _) (fun xx xx e => Heap.get?_push_of_some _ e)
  exact slcK_ok h₃ (r₁.mono (le₂.trans le₃)) (r₂.mono le₃) r₃ S₄.zi (Heap.get?_push_size _ rfl)
    (fun r hq v t ht hv => ⟨z₃, r, H₃, (le₁.trans le₂).trans le₃, S₄.toks ht, hv, hq⟩)
    (fun r hq o ho hv => ⟨_, r, H₃, ((le₁.trans le₂).trans le₃).trans (zadd_le S₄.c.zfresh), S₄.pushFrozen ho, hv, hq⟩) S₄.c.zfresh
theorem attr_core {nm id : Str} {p p' : Pos} {z P : PH} {vars : List Str} {sc : Scope} {L : Addr} {env : Env} {A : Around} {s : Shared} {ρ : Loc} {H : AH} {Q : KE} (GT : GoodT B T) (xa : SndE B T d a) (V : EnvOK B T env vars sc L) (R : Room d A) (h2 : chkE a sc vars (.Name id p') = true) (h : vcE B T d (.attr a nm) Q ρ H) (S : St B z P vars L ρ H s) :
    wpAny (model B.prog B.w) A (eval (.Attribute (.Name id p') nm p) env) (PE B P vars L ρ z Q) NoExc s := by
  refine Attribute_ok (xa.then V R h2 h S fun va s₁ z₁ x H₁ le₁ S₁ r₁ h₁ => ?_)
  obtain ⟨c, fs, rfl, r, hr, hq⟩ := onNode_inv h₁
  obtain ⟨xa, dd, sl, xs, rfl, hz, hzd, hsl, hrl⟩ := r₁
  cases r with
  | slot i =>
    obtain ⟨p, hp, hq⟩ := hq
    obtain ⟨v, hv, rv⟩ := hrl.get hp
    refine GT.att _ _ _ hr A _ _ s₁ xa dd sl v S₁.c.bin (S₁.zi _ _ hz) (S₁.zi _ _ hzd) ?_ (rep_handed rv) fun t ht => ⟨z₁, p, H₁, le₁, S₁.toks ht, rv, hq⟩
    rw [← Array.getElem?_toList, hsl, List.getElem?_map, hv]
    rfl
  | val p =>
    exact GT.att _ _ _ hr A _ _ s₁ xa dd sl S₁.c.bin (S₁.zi _ _ hz) (S₁.zi _ _ hzd) fun v t ht rv => ⟨z₁, p, H₁, le₁, S₁.toks ht, rv.mono S₁.c.base, hq⟩
theorem snd_attr {nm : Str} (GT : GoodT B T) (xa : SndE B T d a) : SndE B T d (.attr a nm) := by
  intro e ρ H Q z P vars sc L env A s V R hc h S
  obtain ⟨q, hc⟩ := any_inv hc
  obtain ⟨h0, h1, h2⟩ := ands3 hc
  obtain ⟨n, _⟩ := some_inv h0
  rw [n.2] at h2
  rw [q.2, n.2, beq_iff_eq.mp h1]
  exact attr_core GT xa V R h2 h S
theorem call_out {Q : KE} {z₁ : PH} {H₁ : AH} {s₁ : Shared} {fv : Value} {ps : List PV} {vs : List Value} (h : CallSem B d fv ps H₁ Q) (R : Room d A) (le₁ : zle z z₁) (S₁ : St B z₁ P vars L ρ H₁ s₁) (r₁ : RepL B z₁ ps vs) :
    BaseIn B s₁ ∧ wpAny (model B.prog B.w) A (call fv vs) (PE B P vars L ρ z Q) NoExc s₁ := by
  refine ⟨S₁.c.bin, ?_⟩
  obtain ⟨o, SC, ho⟩ := S₁.toCall
  exact wpAny_mono (h z₁ _ s₁ A vs R SC r₁) (fun v s₂ hh => by obtain ⟨z₂, p, H₂, le₂, SC₂, rv, hq⟩ := hh; exact ⟨z₂, p, H₂, le₁.trans le₂, S₁.ofCall ho le₂ SC₂, rv, hq⟩) (fun xx xx x => x)
theorem calB_inv {nm : Str} {vs : List PV} {Q : KE} (h : calB B d nm vs Q H) : ∃ fv, B.mg nm = some fv ∧ KeepOk B fv ∧ CallSem B d fv vs H Q := by unfold calB at h; exact h
theorem snd_call {nm : Str} (G : GoodB B) (xs : SndL B T d es) : SndE B T d (.call nm es) := by
  intro e ρ H Q z P vars sc L env A s V R hc h S
  obtain ⟨q, hc⟩ := any_inv hc
  obtain ⟨n, hc⟩ := any_inv hc
  obtain ⟨h0, h1, h2, h3⟩ := ands4 hc
  obtain ⟨⟨fv, hf, hk⟩, hv⟩ := h
  rw [q.2, n.2, nil_inv h0, beq_iff_eq.mp h1]
  refine wpAny_Call_NameR (glob_ok V G S.c.bin h2 hf ?_)
  refine callWith_ok (backTo_plain (starEach_plain h3)) hk (xs.then V R h3 hv S fun vs s₁ z₁ ps H₁ xx le₁ S₁ r₁ h₁ => ?_)
  obtain ⟨fv', hf', _, hs⟩ := calB_inv h₁
  cases hf.symm.trans hf'
  exact call_out hs R le₁ S₁ r₁
theorem snd_scall {cl nm : Str} (G : GoodB B) (GT : GoodT B T) (xs : SndL B T d es) : SndE B T d (.scall cl nm es) := by
  intro e ρ H Q z P vars sc L env A s V R hc h S
  obtain ⟨q, hc⟩ := any_inv hc
  obtain ⟨o, hc⟩ := any_inv hc
  obtain ⟨n, hc⟩ := any_inv hc
  obtain ⟨h0, h1, h2, h3, h4, h5, h6⟩ := ands7 hc
  obtain ⟨⟨fv, hf, hk⟩, hv⟩ := h
  rw [q.2, o.2, n.2, nil_inv h0, beq_iff_eq.mp h1, beq_iff_eq.mp h2]
  refine scall_ok V G S.c.bin h3 (GT.stat _ _ _ hf) h4 (of_decide_eq_true h6) h5 fun t ht => ?_
  refine callWith_ok (backTo_plain (starEach_plain h4)) hk (xs.then V R h4 hv (S.toks ht) fun vs s₁ z₁ ps H₁ xx le₁ S₁ r₁ h₁ => ?_)
  obtain ⟨fv', hf', hs⟩ := h₁
  cases hf.symm.trans hf'
  exact call_out hs R le₁ S₁ r₁
theorem bi_core {f : Bi} {as : List Expr} {n p : Pos} {Q : KE} (G : GoodB B) (xs : SndL B T d es) (V : EnvOK B T env vars sc L) (R : Room d A) (h2 : glb sc f.name = true) (h3 : chkEs es sc vars as = true) (h : vcEs B T d es (kbi f Q) ρ H) (S : St B z P vars L ρ H s) :
    wpAny (model B.prog B.w) A (eval (.Call (.Name f.name n) as [] p) env) (PE B P vars L ρ z Q) NoExc s := by
  refine wpAny_Call_NameR (bi_name V G S.c.bin h2 ?_)
  have main : wpAny (model B.prog B.w) A (spliced (backTo p (starEach as env))) (fun vs s' => wpAny (model B.prog B.w) A (PySem.call f.val vs) (PE B P vars L ρ z Q) NoExc s') NoExc s :=
    xs.then V R h3 h S fun vs s₁ z₁ ps H₁ xx le₁ S₁ r₁ h₁ => biK_ok h₁ r₁ S₁.zi fun r hq v t ht hv => ⟨z₁, r, H₁, le₁, S₁.toks ht, hv, hq⟩
  have hp := backTo_plain (pos := p) (starEach_plain (env := env) h3)
  cases f with
  | int => exact PySem.callWith_type hp (spliced_all hp main)
  | len => exact callWith_builtin hp (spliced_all hp main)
  | ord => exact callWith_builtin hp (spliced_all hp main)
  | chr => exact callWith_builtin hp (spliced_all hp main)
theorem snd_bi {f : Bi} (G : GoodB B) (xs : SndL B T d es) : SndE B T d (.bi f es) := by
  intro e ρ H Q z P vars sc L env A s V R hc h S
  obtain ⟨q, hc⟩ := any_inv hc
  obtain ⟨n, hc⟩ := any_inv hc
  obtain ⟨h0, h1, h2, h3⟩ := ands4 hc
  rw [q.2, n.2, nil_inv h0, beq_iff_eq.mp h1]
  exact bi_core G xs V R h2 h3 h S
theorem meth_core {f : Mt} {o : Expr} {as : List Expr} {p p' : Pos} {Q : KE} (xa : SndE B T d a) (xs : SndL B T d es) (V : EnvOK B T env vars sc L) (R : Room d A) (h2 : plainBase o = true) (h3 : chkE a sc vars o = true) (h4 : chkEs es sc vars as = true)
    (h5 : (p'.endLine == p.line) = true) (h6 : as.length < 25) (h : vcE B T d a (kme f (vcEs B T d es) Q ρ) ρ H) (S : St B z P vars L ρ H s) :
    wpAny (model B.prog B.w) A (eval (.Call (.Attribute o f.name p') as [] p) env) (PE B P vars L ρ z Q) NoExc s := by
  have main : wpAny (model B.prog B.w) A (eval o env) (fun ov s₁ => s₁.TypeIs ov f.ty ∧ (∀ a, ov = .ref a → ∃ ob, s₁.heap.get? a = some ob ∧ ob.dict = none) ∧
      wpAny (model B.prog B.w) A (callWith p (.builtin f.id) [ov] (backTo p (starEach as env)) []) (PE B P vars L ρ z Q) NoExc s₁) NoExc s := by
    refine xa.then V R h3 h S fun ov s₁ z₁ x H₁ le₁ S₁ r₁ h₁ => ?_
    obtain ⟨t1, t2, h₁⟩ := recv_type h₁ r₁ S₁.zi
    have hp := backTo_plain (pos := p) (starEach_plain (env := env) h4)
    exact ⟨t1, t2, callWith_builtin hp (spliced_all hp (xs.then V R h4 h₁ S₁ fun vs s₂ z₂ ps H₂ xx le₂ S₂ r₂ h₂ =>
      methK_ok h₂ (r₁.mono le₂) r₂ S₂.zi R.units fun r hq v t ht hv => ⟨z₂, r, H₂, le₁.trans le₂, S₂.toks ht, hv, hq⟩))⟩
  have hb := base_plain (env := env) (name := f.name) h2
  have hf := few_ok (env := env) (pos := p) h4 h6
  cases f with
  | startswith => exact wpAny_Call_method hb hf h5 F.plainAttrs_str F.slot_str_startswith F.type_str_startswith main
  | rfind => exact wpAny_Call_method hb hf h5 F.plainAttrs_str F.slot_str_rfind F.type_str_rfind main
  | count => exact wpAny_Call_method hb hf h5 F.plainAttrs_str F.slot_str_count F.type_str_count main
  | join => exact wpAny_Call_method hb hf h5 F.plainAttrs_str F.slot_str_join F.type_str_join main
  | get => exact wpAny_Call_method hb hf h5 F.plainAttrs_dict F.slot_dict_get F.type_dict_get main
theorem snd_meth {f : Mt} (xa : SndE B T d a) (xs : SndL B T d es) : SndE B T d (.meth f a es) := by
  intro e ρ H Q z P vars sc L env A s V R hc h S
  obtain ⟨q, hc⟩ := any_inv hc
  obtain ⟨o, hc⟩ := any_inv hc
  obtain ⟨h0, h1, h2, h3, h4, h5, h6⟩ := ands7 hc
  rw [q.2, o.2, nil_inv h0, beq_iff_eq.mp h1]
  exact meth_core xa xs V R h2 h3 h4 h5 (of_decide_eq_true h6) h S
theorem repl_core {q : List Nat} {w : Nat} {o : Expr} {k1 k2 : Nat} {p p' p1 p2 : Pos} {Q : KE} (xa : SndE B T d a) (V : EnvOK B T env vars sc L) (R : Room d A) (h2 : callBase o = true) (h3 : chkE a sc vars o = true) (h7 : (p'.endLine == p.line) = true)
    (h : vcE B T d a (krepl q w Q) ρ H) (S : St B z P vars L ρ H s) :
    wpAny (model B.prog B.w) A (eval (.Call (.Attribute o ("replace" : Str) p') [.Constant (.str (sOf q)) k1 p1, .Constant (.str (sOf [w])) k2 p2] [] p) env) (PE B P vars L ρ z Q) NoExc s := by
  refine wpAny_Call_method (base_call h2) rfl h7 F.plainAttrs_str F.slot_str_replace F.type_str_replace (xa.then V R h3 h S fun ov s₁ z₁ xv H₁ le₁ S₁ r₁ h₁ => ?_)
  obtain ⟨sx, rfl, ⟨hp, hpq, hsz, hok⟩, hq⟩ := onStr_inv h₁
  obtain ⟨hsx, t, rfl⟩ := r₁
  refine ⟨typeIs_str _ _ _, fun a e => (nomatch e), callWith_builtin rfl (spliced_all rfl ?_)⟩
  refine spliced_cons (Constant_str (k := k1) (pos := p1) (spliced_cons (Constant_str (k := k2) (pos := p2) (spliced_nil ?_))))
  refine call_gives F.slot_str_replace (typeIs_str _ _ _) F.entry_str_replace (F.args_str_replace_3 _ _ _) (gives_str_replace _ _ _ _ _ _ ?_) ?_
  · intro _
    have ht := S₁.c.tk.1
    refine ⟨?_, ?_, ?_, ?_⟩
    · show ((s₁.toks == 0) || (s₁.toks + 1 == 0)) = false
      have e1 : (s₁.toks == 0) = false := beq_eq_false_iff_ne.mpr (Nat.ne_of_gt ht)
      have e2 : (s₁.toks + 1 == 0) = false := beq_eq_false_iff_ne.mpr (Nat.succ_ne_zero _)
      rw [e1, e2]; rfl
    · exact beq_eq_false_iff_ne.mpr (Nat.ne_of_lt (Nat.lt_succ_self _))
    · rw [beq_eq_false_iff_ne]; exact fun e => hpq (sOf_inj e)
    · unfold tooLong
      rw [sizeLine_is, sOf_length]
      have := StrLaws.occ_length_le (sOf sx) (sOf q) 0 sx.length (sx.length + 1)
      rw [sOf_length]
      simp only [List.length_cons, List.length_nil]
      exact decide_eq_false (by lia)
  · have he : ((sOf q).length == 0 && (sOf [w]).length == 0) = false := by simp [sOf_length]
    rw [he, Bool.or_false, sOf_length, sOf_length]
    unfold replL at hok hq
    by_cases hh : (occurrences (sOf sx) (sOf q) 0 sx.length (sx.length + 1)).isEmpty = true
    · rw [if_pos hh] at hok hq ⊢
      exact ⟨z₁, .str _, H₁, le₁, S₁.toks (Nat.le_succ_of_le (Nat.le_succ _)), ⟨hsx, _, rfl⟩, hq⟩
    · rw [if_neg hh] at hok hq ⊢
      refine ⟨?_, z₁, .str _, H₁, le₁, S₁.toks (Nat.le_succ_of_le (Nat.le_succ_of_le (Nat.le_succ _))), ⟨hok, _, rfl⟩, hq⟩
      have := hok.2
      rw [sizeLine_is]
      simpa [Str.length] using this
theorem cps_eq {x : Str} {q : List Nat} (h : (x.cps.toList == q) = true) : x = sOf q := by rw [← beq_iff_eq.mp h]
theorem snd_repl {q : List Nat} {w : Nat} (xa : SndE B T d a) : SndE B T d (.repl a q w) := by
  intro e ρ H Q z P vars sc L env A s V R hc h S
  obtain ⟨c, hc⟩ := any_inv hc
  obtain ⟨o, hc⟩ := any_inv hc
  obtain ⟨l, hc⟩ := any_inv hc
  obtain ⟨c1, hc⟩ := any_inv hc
  obtain ⟨c2, hc⟩ := any_inv hc
  obtain ⟨x, hc⟩ := any_inv hc
  obtain ⟨y, hc⟩ := any_inv hc
  obtain ⟨h0, h1, h2, h3, h4, h5, _, h7⟩ := ands8 hc
  rw [c.2, o.2, l.2, c1.2, c2.2, x.2, y.2, nil_inv h0, beq_iff_eq.mp h1, cps_eq h4, cps_eq h5]
  exact repl_core xa V R h2 h3 h7 h S
theorem appB_inv {l : Addr} {y : PV} {Q : KE} (h : appB l y Q H) : ∃ vs, H l = some (.list vs) ∧ vs.length ≤ 1000000 ∧ Q .none (H.upd l (.list (vs ++ [y]))) := by unfold appB at h; exact h
theorem app_core {o x : Expr} {p p' : Pos} {Q : KE} (xa : SndE B T d a) (xb : SndE B T d b) (V : EnvOK B T env vars sc L) (R : Room d A) (h2 : plainBase o = true) (h3 : chkE a sc vars o = true) (h4 : chkE b sc vars x = true) (h5 : (p'.endLine == p.line) = true) (h6 : star1 x = false)
    (h : vcE B T d a (kapp (vcE B T d b) Q ρ) ρ H) (S : St B z P vars L ρ H s) : wpAny (model B.prog B.w) A (eval (.Call (.Attribute o ("append" : Str) p') [x] [] p) env) (PE B P vars L ρ z Q) NoExc s := by
  have hst : backTo p (starEach [x] env) = [(false, eval x env)] := by rw [starEach_cons h6]; rfl
  refine wpAny_Call_method (T := "list") (base_plain h2) (by rw [hst]; rfl) h5 F.plainAttrs_list slot_list_append type_list_append (xa.then V R h3 h S fun ov s₁ z₁ v H₁ le₁ S₁ r₁ h₁ => ?_)
  obtain ⟨l, rfl, ⟨vs₀, hl⟩, h₁⟩ := onRef_inv h₁
  cases r₁
  obtain ⟨hz, oo, hoo, n, xs, rfl, hr, hsz⟩ := S₁.c.hin l _ hl
  refine ⟨⟨_, hoo, rfl⟩, fun a e => by cases e; exact ⟨_, hoo, rfl⟩, ?_⟩
  rw [hst]
  refine callWith_builtin rfl (spliced_all rfl (spliced_cons (xb.then V R h4 h₁ S₁ fun y s₂ z₂ yv H₂ le₂ S₂ r₂ h₂ => spliced_nil ?_)))
  obtain ⟨vs, hl2, hlen, hq⟩ := appB_inv h₂
  obtain ⟨hz2, oo2, hoo2, n2, xs2, rfl, hr2, hsz2⟩ := S₂.c.hin l _ hl2
  have hxl : xs2.size = vs.length := by have := hr2.length; rwa [Array.length_toList] at this
  refine wpAny_list_append_plain ⟨n2, hoo2⟩ ?_ hsz2
  rintro h' ⟨n3, hn3⟩ hs
  refine ⟨z₂, .none, _, le₁.trans le₂, S₂.changeOwn (Nat.le_refl _) hs.extBut hl2 hn3 (x := .list (vs ++ [yv])) ⟨n3, _, rfl, ?_, ?_⟩ trivial, rfl, hq⟩
  · rw [Array.toList_push]
    exact hr2.append (RepL.single r₂)
  · rw [Array.size_push, sizeLine_is, hxl]; exact Nat.le_trans (Nat.succ_le_succ hlen) (by lia)
theorem snd_app (xa : SndE B T d a) (xb : SndE B T d b) : SndE B T d (.app a b) := by
  intro e ρ H Q z P vars sc L env A s V R hc h S
  obtain ⟨c, hc⟩ := any_inv hc
  obtain ⟨o, hc⟩ := any_inv hc
  obtain ⟨x, hc⟩ := any_inv hc
  obtain ⟨h0, h1, h2, h3, h4, h5, h6⟩ := ands7 hc
  rw [c.2, o.2, x.2, nil_inv h0, beq_iff_eq.mp h1]
  exact app_core xa xb V R h2 h3 h4 h5 (nots h6) h S
theorem snd_frz (G : GoodB B) (xa : SndE B T d a) : SndE B T d (.frz a) := by
  intro e ρ H Q z P vars sc L env A s V R hc h S
  refine xa.then V R hc h S fun ov s₁ z₁ xv H₁ le₁ S₁ r₁ h₁ => ?_
  obtain ⟨l, rfl, x, hl, hk⟩ := onRef_inv h₁
  obtain ⟨v, hf, hq⟩ := frzQ_inv hk
  cases r₁
  obtain ⟨z₂, le₂, S₂, r⟩ := frz_ok G.sysm S₁ hl hf
  exact ⟨z₂, v, H₁.del l, le₁.trans le₂, S₂, r, hq⟩
theorem snd_frzS (G : GoodB B) (xa : SndE B T d a) : SndE B T d (.frzS a) := by
  intro e ρ H Q z P vars sc L env A s V R hc h S
  refine xa.then V R hc h S fun ov s₁ z₁ xv H₁ le₁ S₁ r₁ h₁ => ?_
  obtain ⟨l, rfl, H₂, vs, hs, hl, hq⟩ := onRef_inv h₁
  cases r₁
  obtain ⟨z₂, le₂, S₂⟩ := shut_ok G.sysm hs S₁
  obtain ⟨z₃, le₃, S₃, r⟩ := frz_ok G.sysm S₂ hl rfl
  exact ⟨z₃, .lst vs, H₂.del l, le₁.trans (le₂.trans le₃), S₃, r, hq⟩
theorem snd_cel {nm : Str} : SndE B T d (.cel nm) := by
  intro e ρ H Q z P vars sc L env A s V R hc h S
  obtain ⟨q, hc⟩ := any_inv hc
  obtain ⟨h0, h1, h2⟩ := ands3 hc
  obtain ⟨p, hT, hq⟩ := h
  rw [q.2, beq_iff_eq.mp h0]
  exact cel_ok V S.c (beq_iff_eq.mp h1) (nots h2) hT fun x r => ⟨z, p, H, zle.refl z, S, r, hq⟩
theorem snd_edct {t : Bool} : SndE B T d (.edct t) := by
  intro e ρ H Q z P vars sc L env A s V R hc h S
  obtain ⟨q, hc⟩ := any_inv hc
  obtain ⟨h0, h1⟩ := ands hc
  rw [q.2, nil_inv h0, nil_inv h1, eval_Dict_empty]
  refine wpAny_bind (wpAny_standAt (wpAny_newObj_type ?_))
  have ht : ORep B z { cls := .type "dict", data := .dict #[] } (if t = true then .tdict [] [] else .dict [] []) := by
    cases t with
    | true => exact ⟨#[], 0, [], ⟨rfl, rfl, rfl⟩, rfl, rfl, [], rfl, fun x hx => (nomatch hx), rfl, rfl, List.nodup_nil, Nat.zero_le _⟩
    | false => exact ⟨#[], 0, [], ⟨rfl, rfl, rfl⟩, rfl, fun e he => absurd he (by simp), .nil, rfl, List.nodup_nil, rfl, Nat.zero_le _⟩
  exact ⟨z, .ref s.heap.objs.size, _, zle.refl z, S.pushOwn rfl ht, rfl, h _ S.c.hfresh⟩
theorem len_core {it : Expr} {np p : Pos} {Q : KE} (G : GoodB B) (xa : SndE B T d a) (V : EnvOK B T env vars sc L) (R : Room d A) (h2 : glb sc "len" = true) (h3 : chkE a sc vars it = true) (h4 : star1 it = false) (h : vcE B T d a (klen Q) ρ H) (S : St B z P vars L ρ H s) :
    wpAny (model B.prog B.w) A (eval (.Call (.Name ("len" : Str) np) [it] [] p) env) (PE B P vars L ρ z Q) NoExc s := by
  refine wpAny_Call_NameR (bi_name (f := .len) V G S.c.bin h2 ?_)
  have hst : backTo p (starEach [it] env) = [(false, eval it env)] := by rw [starEach_cons h4]; rfl
  rw [hst]
  refine callWith_builtin rfl (spliced_all rfl (spliced_cons (xa.then V R h3 h S fun v s₁ z₁ xv H₁ le₁ S₁ r₁ h₁ => spliced_nil ?_)))
  obtain ⟨l, rfl, ks, vs, hl, hq⟩ := onRef_inv h₁
  cases r₁
  obtain ⟨hz, o, ho, es, ep, kvs, g1, g2, g3, g4, g5, g6, hr, hsz⟩ := S₁.c.hin l _ hl
  have hkl := congrArg List.length g5
  rw [List.length_map, List.length_map] at hkl
  have hel := g4.length
  rw [Array.length_toList] at hel
  refine call_len_dict (not_sysm G.sysm S₁ hz) (dict_at ho g1 g2 g3 g4 g5 g6) (by lia) ⟨z₁, .int ks.length, H₁, le₁, S₁.toks (by show s₁.toks ≤ s₁.toks + 1 + 1; lia), ⟨_, by rw [hkl]⟩, hq⟩
theorem snd_lenO (G : GoodB B) (xa : SndE B T d a) : SndE B T d (.lenO a) := by
  intro e ρ H Q z P vars sc L env A s V R hc h S
  obtain ⟨c, hc⟩ := any_inv hc
  obtain ⟨n, hc⟩ := any_inv hc
  obtain ⟨x, hc⟩ := any_inv hc
  obtain ⟨h0, h1, h2, h3, h4⟩ := ands5 hc
  rw [c.2, n.2, x.2, nil_inv h0, beq_iff_eq.mp h1]
  exact len_core G xa V R h2 h3 (nots h4) h S
theorem pop_core {o : Expr} {p p' : Pos} {Q : KE} (G : GoodB B) (xa : SndE B T d a) (V : EnvOK B T env vars sc L) (R : Room d A) (h2 : plainBase o = true) (h3 : chkE a sc vars o = true) (h5 : (p'.endLine == p.line) = true)
    (h : vcE B T d a (kpop Q) ρ H) (S : St B z P vars L ρ H s) : wpAny (model B.prog B.w) A (eval (.Call (.Attribute o ("pop" : Str) p') [] [] p) env) (PE B P vars L ρ z Q) NoExc s := by
  refine wpAny_Call_method (T := "list") (base_plain h2) rfl h5 F.plainAttrs_list F.slot_list_pop F.type_list_pop (xa.then V R h3 h S fun ov s₁ z₁ v H₁ le₁ S₁ r₁ h₁ => ?_)
  obtain ⟨l, rfl, vs, y, H₂, hl, hsh, hq⟩ := onRef_inv h₁
  cases r₁
  obtain ⟨hz, oo, hoo, n, xs, rfl, hr, hsz⟩ := S₁.c.hin l _ hl
  refine ⟨⟨_, hoo, rfl⟩, fun a e => by cases e; exact ⟨_, hoo, rfl⟩, ?_⟩
  obtain ⟨us, ws, e1, ru, w, ws', rfl, rw', e2⟩ := RepL.cut hr
  cases e2
  have hx : xs = (us ++ [w]).toArray := by rw [← e1]
  subst hx
  have hsize : (us ++ [w]).toArray.size - 1 = us.length := by rw [List.size_toArray, List.length_append]; rfl
  have hlast : (us ++ [w]).toArray[(us ++ [w]).toArray.size - 1]? = some w := by
    rw [hsize, List.getElem?_toArray, List.getElem?_append_right (Nat.le_refl _), Nat.sub_self]; rfl
  refine PySem.P.pop_list hoo hlast ?_ hsz
  have hup : (s₁.heap.update l (Obj.mapSeq fun xs => xs.eraseIdxIfInBounds ((us ++ [w]).toArray.size - 1))).get? l = some { cls := .type "list", data := .seq us.toArray (n + 1) } := by
    have hne : (us ++ [w]).toArray.size ≠ 0 := by rw [List.size_toArray, List.length_append]; exact Nat.succ_ne_zero _
    have hp : (us ++ [w]).toArray.pop = us.toArray := by rw [List.pop_toArray, List.dropLast_concat]
    have := Heap.get?_update_self (Obj.mapSeq fun xs => xs.eraseIdxIfInBounds ((us ++ [w]).toArray.size - 1)) hoo
    rw [PyProof.Rows.Copied.mapSeq_pop _ _ hne, hp] at this
    exact this rfl
  have S₂ := S₁.changeOwn (h' := s₁.heap.update l (Obj.mapSeq fun xs => xs.eraseIdxIfInBounds ((us ++ [w]).toArray.size - 1))) (t := s₁.toks) (Nat.le_refl _) (Heap.SameBut.update ..).extBut hl hup (x := .list vs) ⟨_, _, rfl, ru, by
    rw [List.size_toArray, List.length_append] at hsz; rw [List.size_toArray]; exact Nat.le_of_succ_le hsz⟩ trivial
  obtain ⟨z₂, le₂, S₃⟩ := shut_ok G.sysm hsh S₂
  exact ⟨z₂, y, H₂, le₁.trans le₂, S₃, rw'.mono le₂, hq⟩
theorem snd_popf (G : GoodB B) (xa : SndE B T d a) : SndE B T d (.popf a) := by
  intro e ρ H Q z P vars sc L env A s V R hc h S
  obtain ⟨c, hc⟩ := any_inv hc
  obtain ⟨o, hc⟩ := any_inv hc
  obtain ⟨h0, h1, h2, h3, h4, h5⟩ := ands6 hc
  rw [c.2, o.2, nil_inv h0, nil_inv h1, beq_iff_eq.mp h2]
  exact pop_core G xa V R h3 h4 h5 h S
theorem SndE.elt (x : SndE B T d m) (R : Room d A) {csc : Scope} {xs : List Str} (hc : chkE m csc xs e = true) {ρ' : Loc} {Q : KE} {H : AH} {z P : PH} {L' : Addr} {env' : Env} {s : Shared} (V : EnvOK B T env' xs csc L') (h : vcE B T d m Q ρ' H) (S : St B z P xs L' ρ' H s) :
    wpAny (model B.prog B.w) A (eval e env') (PE B P xs L' ρ' z Q) NoExc s := x _ _ _ _ _ _ _ _ _ _ _ _ V R hc h S
theorem one_nd (x : Str) : [x].Nodup := List.nodup_cons.mpr ⟨fun h => (by cases h), List.nodup_nil⟩
theorem one_loc {sc csc : Scope} {x : Str} (C : CompOK sc csc x) : ∀ y ∈ [x], csc.names.lookup y = some .local ∧ (y == ("__debug__" : Str)) = false := fun y hy => by
  rw [List.mem_singleton] at hy; subst hy; exact ⟨C.hx, C.dbg⟩
theorem two_nd {x y : Str} (h : x ≠ y) : [x, y].Nodup := List.nodup_cons.mpr ⟨fun q => h (List.mem_singleton.mp q), one_nd y⟩
theorem two_loc {sc csc : Scope} {x y : Str} (C : CompOK sc csc x) (C2 : CompOK sc csc y) : ∀ k ∈ [x, y], csc.names.lookup k = some .local ∧ (k == ("__debug__" : Str)) = false := fun k hk => by
  rcases List.mem_cons.mp hk with rfl | hk
  · exact ⟨C.hx, C.dbg⟩
  · exact one_loc C2 k hk
theorem comp_mid {x : Str} {el it : Expr} {csc : Scope} {p p' : Pos} {Q : KE} (xe : SndE B T d a) (xi : SndE B T d b) (V : EnvOK B T env vars sc L) (R : Room d A) (h1 : chkE b sc vars it = true) (h2 : chkE a (relab csc) [x] el = true) (C : CompOK sc csc x) (h4 : isSet it = false)
    (h : vcE B T d b (kcomp (vcE B T d a) Q) ρ H) (S : St B z P vars L ρ H s) : wpAny (model B.prog B.w) A (eval (.ListComp el [⟨.Name x p', it, [], 0⟩] csc p) env) (PE B P vars L ρ z Q) NoExc s := by
  rw [eval_ListComp]
  obtain ⟨cl, hcl, VC⟩ := comp_env V C
  refine wpAny_comprehension_free (use := none) rfl (not_set h4) hcl C.kind C.names (xi.then V R h1 h S fun v s₁ z₁ xv H₁ le₁ S₁ r₁ h₁ => ?_)
  obtain ⟨xs, hxs, hlen, hm⟩ := h₁
  refine iter_make hxs r₁ S₁.zi S₁.c.zfresh fun o stt hf IT hst => ?_
  refine comp_core (RR := fun acc C => compPost _ A NoExc none _ acc C) C.cell C.kind (fun K => VC [x] K (one_loc C) (one_nd x)) R IT (S₁.pushPin hf) S₁.c.pfresh hst hlen (fun VV hh SS => xe.elt R h2 VV hh SS) hm ?_
  intro D K z' H' s' rs vs n oK m le hDK hPD hPK SK hnK hrs hl hq
  exact ⟨m, hnK, fun h' hs => comp_done le₁ le hDK hPD hPK SK hrs hl hlen hs hq⟩
theorem snd_comp {x : Str} (xe : SndE B T d a) (xi : SndE B T d b) : SndE B T d (.comp x a b) := by
  intro e ρ H Q z P vars sc L env A s V R hc h S
  obtain ⟨q, hc⟩ := any_inv hc
  obtain ⟨g, hc⟩ := any_inv hc
  obtain ⟨n, hc⟩ := any_inv hc
  obtain ⟨h0, h1, h2, h3, h4⟩ := ands5 hc
  rw [q.2, g.2, n.2, beq_iff_eq.mp h0]
  exact comp_mid xe xi V R h1 h2 (compOk_ok h3) (nots h4) h S
theorem Joins_mono {M : Model} {A : Around} {E : Value → Shared → Prop} {Q Q' : Str → Shared → Prop} : ∀ (l : List (Sem Value)) (acc : Str) (s : Shared), Joins M A E l acc Q s → (∀ o s, Q o s → Q' o s) → Joins M A E l acc Q' s
  | [], acc, s, h, hq => hq _ _ h
  | x :: r, acc, s, h, hq => wpAny_mono h (fun v s₁ hh => by obtain ⟨y, t, e, hl, h'⟩ := hh; exact ⟨y, t, e, hl, Joins_mono r _ _ h' hq⟩) (fun xx xx x => x)
theorem snd_fstr {fs : List (Option (List Nat) × Option ME)} (xs : SndF B T d fs) : SndE B T d (.fstr fs) := by
  intro e ρ H Q z P vars sc L env A s V R hc h S
  obtain ⟨⟨⟨x, p⟩, rfl⟩, hc⟩ := any_inv hc
  obtain ⟨h1, h2⟩ := ands hc
  have hF := xs _ _ _ _ _ _ _ _ _ _ _ _ _ _ V R h1 h ⟨by simp, by simp⟩ (zle.refl z) S
  cases x with
  | nil => cases h2
  | cons a r => cases r with
    | nil => cases h2
    | cons b r =>
      refine wpAny_JoinedStr (Joins_mono _ _ _ hF fun o s₁ hh => ?_)
      obtain ⟨z', out', H', le, S', h3, hs, hq⟩ := hh
      subst h3
      exact ⟨by rw [sOf_length, sizeLine_is]; exact hs.2, z', .str out', H', le, S'.toks (Nat.le_succ _), ⟨hs, _, rfl⟩, hq⟩
theorem snd_no (h : ∀ Q ρ H, ¬ vcE B T d m Q ρ H) : SndE B T d m := by
  intro e ρ H Q z P vars sc L env A s V R hc h' S
  exact (h _ _ _ h').elim
theorem snd_nil : SndL B T d [] := by
  intro xs pos ρ H Q z P vars sc L env A s V R hc h S
  cases nil_inv hc
  exact spliced_nil ⟨rfl, z, [], H, zle.refl z, S, rfl, h⟩
theorem snd_cons (xa : SndE B T d a) (xs : SndL B T d es) : SndL B T d (a :: es) := by
  intro xs' pos ρ H Q z P vars sc L env A s V R hc h S
  cases xs' with
  | nil => cases hc
  | cons e r =>
    obtain ⟨h1, h2, h3⟩ := ands3 hc
    rw [starEach_cons (nots h3), backTo_cons]
    exact spliced_cons (xa.then V R h1 h S fun v s₁ z₁ p H₁ le₁ S₁ r₁ h₁ => xs.then V R h2 h₁ S₁ fun vs s₂ z₂ ps H₂ hl le₂ S₂ r₂ hq =>
      ⟨congrArg (· + 1) hl, z₂, p :: ps, H₂, le₁.trans le₂, S₂, ⟨v, vs, rfl, r₁.mono le₂, r₂⟩, hq⟩)
theorem snd_on : SndO B T d none := by
  intro e ρ H Q z P vars sc L env A s V R hc h S
  cases isSome0_inv hc
  exact wpAny_pure ⟨z, .none, H, zle.refl z, S, rfl, h⟩
theorem snd_os (xa : SndE B T d a) : SndO B T d (some a) := by
  intro e ρ H Q z P vars sc L env A s V R hc h S
  obtain ⟨⟨e, rfl⟩, hc⟩ := any_inv hc
  exact xa _ _ _ _ _ _ _ _ _ _ _ _ V R hc h S
theorem snd_bnil : SndB B T d [] := by
  intro op xs pos ρ H Q z P vars sc L env A s V R hc h S
  exact h.elim
theorem snd_bcons (xa : SndE B T d a) (xs : SndB B T d es) : SndB B T d (a :: es) := by
  intro op xs' pos ρ H Q z P vars sc L env A s V R hc h S
  cases xs' with
  | nil => cases hc
  | cons e r =>
    obtain ⟨h1, h2, h3⟩ := ands3 hc
    cases es with
    | nil =>
      cases nil_inv h2
      exact xa _ _ _ _ _ _ _ _ _ _ _ _ V R h1 h S
    | cons m2 ms2 =>
      cases r with
      | nil => cases h2
      | cons e2 es2 =>
        show wpAny _ _ (do
          let v ← eval e env
          standAt pos
          let t ← holding [v] (truthy v)
          match op, t with
          | .And, false | .Or, true => pure v
          | _, _ => boolOp pos op (evalEach (e2 :: es2) env)) _ _ _
        cases op with
        | And =>
          refine wpAny_bind (xa.then (Q := kand (vcB B T d .And (m2 :: ms2)) Q ρ) V R h1 h S fun v s₁ z₁ x H₁ le₁ S₁ r₁ h₁ => wpAny_bind (wpAny_standAt (wpAny_bind (wpAny_holding (tr_ok h₁ r₁ fun c hq t ht => ?_)))))
          have := tst_of hq
          cases q : c.dec with
          | true => rw [q] at this; exact wpAny_mono (xs _ _ _ _ _ _ _ _ _ _ _ _ _ _ V R h2 this (S₁.toks ht)) (fun xx xx x => x.le le₁) (fun xx xx x => x)
          | false => rw [q] at this; exact wpAny_pure ⟨z₁, x, H₁, le₁, S₁.toks ht, r₁, this⟩
        | Or =>
          refine wpAny_bind (xa.then (Q := kor (vcB B T d .Or (m2 :: ms2)) Q ρ) V R h1 h S fun v s₁ z₁ x H₁ le₁ S₁ r₁ h₁ => wpAny_bind (wpAny_standAt (wpAny_bind (wpAny_holding (tr_ok h₁ r₁ fun c hq t ht => ?_)))))
          have := tst_of hq
          cases q : c.dec with
          | false => rw [q] at this; exact wpAny_mono (xs _ _ _ _ _ _ _ _ _ _ _ _ _ _ V R h2 this (S₁.toks ht)) (fun xx xx x => x.le le₁) (fun xx xx x => x)
          | true => rw [q] at this; exact wpAny_pure ⟨z₁, x, H₁, le₁, S₁.toks ht, r₁, this⟩
theorem snd_tbnil : SndTB B T d [] := by
  intro op xs ρ H Q z P vars sc L env A s V R hc h S
  cases nil_inv hc
  cases op with
  | And => exact wpAny_allTrue_And_nil ⟨z, H, dT, zle.refl z, S, rfl, h⟩
  | Or => exact wpAny_allTrue_Or_nil ⟨z, H, dF, zle.refl z, S, rfl, h⟩
theorem snd_tbcons (xa : SndT B T d a) (xs : SndTB B T d es) : SndTB B T d (a :: es) := by
  intro op xs' ρ H Q z P vars sc L env A s V R hc h S
  cases xs' with
  | nil => cases hc
  | cons e r =>
    obtain ⟨h1, h2, h3⟩ := ands3 hc
    cases op with
    | And =>
      refine wpAny_allTrue_And_cons (xa.then (Q := ktand (vcTB B T d .And es) Q ρ) V R h1 h S fun s₁ z₁ c H₁ le₁ S₁ hq => ?_)
      have := tst_of hq
      cases q : c.dec with
      | true => rw [q] at this; exact wpAny_mono (xs _ _ _ _ _ _ _ _ _ _ _ _ _ V R h2 this S₁) (fun xx xx x => x.le le₁) (fun xx xx x => x)
      | false => rw [q] at this; exact ⟨z₁, H₁, dF, le₁, S₁, rfl, this⟩
    | Or =>
      refine wpAny_allTrue_Or_cons (xa.then (Q := ktor (vcTB B T d .Or es) Q ρ) V R h1 h S fun s₁ z₁ c H₁ le₁ S₁ hq => ?_)
      have := tst_of hq
      cases q : c.dec with
      | false => rw [q] at this; exact wpAny_mono (xs _ _ _ _ _ _ _ _ _ _ _ _ _ V R h2 this S₁) (fun xx xx x => x.le le₁) (fun xx xx x => x)
      | true => rw [q] at this; exact ⟨z₁, H₁, dT, le₁, S₁, rfl, this⟩
theorem snd_fnil : SndF B T d [] := by
  intro xs out ρ H Q z₀ z P vars sc L env A s V R hc h ho le S
  cases nil_inv hc
  exact ⟨z, out, H, le, S, rfl, ho, h⟩
theorem snd_fs {str : List Nat} {o : Option ME} {fs : List (Option (List Nat) × Option ME)} (xs : SndF B T d fs) : SndF B T d ((some str, o) :: fs) := by
  intro xs' out ρ H Q z₀ z P vars sc L env A s V R hc h ho le S
  cases xs' with
  | nil => cases hc
  | cons e es =>
    obtain ⟨hc, c4⟩ := ands hc
    obtain ⟨⟨⟨c, k, p⟩, rfl⟩, hc⟩ := any_inv hc
    obtain ⟨⟨x, e1⟩, hc⟩ := any_inv hc
    dsimp only at e1
    subst e1
    refine const_ok (B := B) (z := z) (v := .str str) hc fun v t ht hv => ?_
    obtain ⟨hs, u, rfl⟩ := hv
    refine ⟨sOf str, u, rfl, by rw [sOf_append, sOf_length, sizeLine_is, List.length_append]; exact h.1, ?_⟩
    rw [sOf_append]
    exact xs _ _ _ _ _ _ _ _ _ _ _ _ _ _ V R c4 h.2 (sok_append ho hs h.1) le (S.toks ht)
theorem snd_fe {fs : List (Option (List Nat) × Option ME)} (xa : SndE B T d a) (xs : SndF B T d fs) : SndF B T d ((none, some a) :: fs) := by
  intro xs' out ρ H Q z₀ z P vars sc L env A s V R hc h ho le S
  cases xs' with
  | nil => cases hc
  | cons e es =>
    obtain ⟨hc, c2⟩ := ands hc
    obtain ⟨⟨⟨x, cv, fsp, p⟩, rfl⟩, hc⟩ := any_inv hc
    obtain ⟨h0, h1, c1⟩ := ands3 hc
    cases beq_iff_eq.mp h0
    cases isSome0_inv h1
    refine wpAny_FormattedValue_plain (xa.then V R c1 h S fun v s₁ z₁ pv H₁ le₁ S₁ r₁ h₁ => ?_)
    obtain ⟨str, rfl, hl, hq⟩ := onStr_inv h₁
    obtain ⟨hs, u, rfl⟩ := r₁
    have key : ∀ t u, s₁.toks ≤ t → ∃ y t', Value.str (sOf str) u = .str y t' ∧ (sOf out ++ y).length ≤ sizeLine ∧
        Joins (model B.prog B.w) A NoExc (evalEach es env) (sOf out ++ y) (fun o s₁ => ∃ z' out' H', zle z₀ z' ∧ St B z' P vars L ρ H' s₁ ∧ o = sOf out' ∧ sok out' ∧ Q (.str out') H') { s₁ with toks := t } := by
      intro t u ht
      refine ⟨sOf str, u, rfl, by rw [sOf_append, sOf_length, sizeLine_is, List.length_append]; exact hl, ?_⟩
      rw [sOf_append]
      exact xs _ _ _ _ _ _ _ _ _ _ _ _ _ _ V R c2 hq (sok_append ho hs hl) (le.trans le₁) (S₁.toks ht)
    exact wpAny_formatField_str (key s₁.toks u (Nat.le_refl _)) (key _ _ (Nat.le_succ _)) (by rw [sOf_length, sizeLine_is]; exact hs.2)
theorem snd_fno {fs : List (Option (List Nat) × Option ME)} : SndF B T d ((none, none) :: fs) := by
  intro xs' out ρ H Q z₀ z P vars sc L env A s V R hc h ho le S
  exact h.elim
theorem snd_tval (he : ∀ {sc vars e}, chkE m sc vars e = true → ∀ env, isTrue e env (eval e env) = (do let v ← eval e env; standAt e.pos; holding [v] (truthy v)))
    (hv : ∀ {Q ρ H}, vcT B T d m Q ρ H → vcE B T d m (ktv Q) ρ H) (x : SndE B T d m) : SndT B T d m := by
  intro e ρ H Q z P vars sc L env A s V R hc h S
  exact wpAny_isTrue_value (x.then V R hc (hv h) S fun v s₁ z₁ p H₁ le₁ S₁ r₁ hq => tr_ok hq r₁ fun c hc t ht => ⟨z₁, H₁, c, le₁, S₁.toks ht, rfl, hc⟩) (he hc env)
theorem sndt_nt (xa : SndT B T d a) : SndT B T d (.nt a) := by
  intro e ρ H Q z P vars sc L env A s V R hc h S
  obtain ⟨⟨⟨o, x, p⟩, rfl⟩, hc⟩ := any_inv hc
  obtain ⟨h0, h1⟩ := ands hc
  cases o <;> first | (cases h0; done) | skip
  refine wpAny_isTrue_Not (xa.then V R h1 h S fun s₁ z₁ c H₁ le₁ S₁ hq => ?_)
  exact ⟨z₁, H₁, c.not, le₁, S₁, @decide_not c.p c.i (@instDecidableNot c.p c.i), hq⟩
theorem sndt_bop {op : BoolOp} (xs : SndTB B T d es) : SndT B T d (.bop op es) := by
  intro e ρ H Q z P vars sc L env A s V R hc h S
  obtain ⟨⟨⟨o, x, p⟩, rfl⟩, hc⟩ := any_inv hc
  obtain ⟨h0, h1⟩ := ands hc
  cases beq_iff_eq.mp h0
  exact wpAny_isTrue_BoolOp (xs _ _ _ _ _ _ _ _ _ _ _ _ _ V R h1 h S)
theorem sndt_cmp {op : CmpOp} (xa : SndE B T d a) (xb : SndE B T d b) : SndT B T d (.cmp op a b) := by
  intro e ρ H Q z P vars sc L env A s V R hc h S
  obtain ⟨q, hc⟩ := any_inv hc
  obtain ⟨o, hc⟩ := any_inv hc
  obtain ⟨r, hc⟩ := any_inv hc
  obtain ⟨h0, h1, h2, h3⟩ := ands4 hc
  have h3 := nots h3
  rw [beq_iff_eq.mp h0] at h3
  rw [q.2, o.2, r.2, beq_iff_eq.mp h0]
  exact wpAny_isTrue_Compare1 (xa.then V R h1 h S fun va s₁ z₁ x H₁ le₁ S₁ r₁ h₁ => xb.then V R h2 h₁ S₁ fun vb s₂ z₂ y H₂ le₂ S₂ r₂ h₂ =>
    cmpK_ok h₂ (r₁.mono le₂) r₂ S₂.zi R fun c hq t ht => wpAny_truthy_bool ⟨z₂, H₂, c, le₁.trans le₂, S₂.toks ht, rfl, hq⟩) h3
theorem sndt_cmp2 {o1 o2 : CmpOp} (xa : SndE B T d a) (xb : SndE B T d b) (xc : SndE B T d c) : SndT B T d (.cmp2 o1 o2 a b c) := by
  intro e ρ H Q z P vars sc L env A s V R hc h S
  obtain ⟨q, hc⟩ := any_inv hc
  obtain ⟨o, hc⟩ := any_inv hc
  obtain ⟨r, hc⟩ := any_inv hc
  obtain ⟨h0, h0', h1, h2, h3, h4⟩ := ands6 hc
  have h4 := nots h4
  rw [beq_iff_eq.mp h0'] at h4
  rw [q.2, o.2, r.2, beq_iff_eq.mp h0, beq_iff_eq.mp h0']
  refine testChain2 h4 (xa.then V R h1 h S fun va s₁ z₁ x H₁ le₁ S₁ r₁ h₁ => xb.then V R h2 h₁ S₁ fun vb s₂ z₂ y H₂ le₂ S₂ r₂ h₂ =>
    cmpK_ok h₂ (r₁.mono le₂) r₂ S₂.zi R fun c hq t ht => wpAny_truthy_bool ?_)
  have := tst_of hq
  cases q : c.dec with
  | false => rw [q] at this; exact ⟨z₂, H₂, dF, le₁.trans le₂, S₂.toks ht, rfl, this⟩
  | true =>
    rw [q] at this
    exact xc.then V R h3 this (S₂.toks ht) fun vc s₃ z₃ u H₃ le₃ S₃ r₃ h₃ => cmpK_ok h₃ (r₂.mono le₃) r₃ S₃.zi R fun c' hq' t ht => wpAny_truthy_bool ⟨z₃, H₃, c', (le₁.trans le₂).trans le₃, S₃.toks ht, rfl, hq'⟩
theorem sndt_no (h : ∀ Q ρ H, ¬ vcT B T d m Q ρ H) : SndT B T d m := by
  intro e ρ H Q z P vars sc L env A s V R hc h' S
  exact (h _ _ _ h').elim
theorem he_const {v : PV} {sc vars e} (hc : chkE (.const v) sc vars e = true) (env : Env) : isTrue e env (eval e env) = (do let v ← eval e env; standAt e.pos; holding [v] (truthy v)) := by
  obtain ⟨⟨⟨c, k, p⟩, rfl⟩, hc⟩ := any_inv hc; rfl
theorem he_var {i : Nat} {sc vars e} (hc : chkE (.var i) sc vars e = true) (env : Env) : isTrue e env (eval e env) = (do let v ← eval e env; standAt e.pos; holding [v] (truthy v)) := by
  obtain ⟨⟨⟨c, k⟩, rfl⟩, hc⟩ := any_inv hc; rfl
theorem he_bin {op a b} {sc vars e} (hc : chkE (.bin op a b) sc vars e = true) (env : Env) : isTrue e env (eval e env) = (do let v ← eval e env; standAt e.pos; holding [v] (truthy v)) := by
  obtain ⟨⟨⟨c, k, x, y⟩, rfl⟩, hc⟩ := any_inv hc; rfl
theorem he_call {n es} {sc vars e} (hc : chkE (.call n es) sc vars e = true) (env : Env) : isTrue e env (eval e env) = (do let v ← eval e env; standAt e.pos; holding [v] (truthy v)) := by
  obtain ⟨⟨⟨c, k, x, y⟩, rfl⟩, hc⟩ := any_inv hc; rfl
theorem he_meth {n a es} {sc vars e} (hc : chkE (.meth n a es) sc vars e = true) (env : Env) : isTrue e env (eval e env) = (do let v ← eval e env; standAt e.pos; holding [v] (truthy v)) := by
  obtain ⟨⟨⟨c, k, x, y⟩, rfl⟩, hc⟩ := any_inv hc; rfl
mutual
theorem soundE (G : GoodB B) (GT : GoodT B T) : ∀ m : ME, SndE B T d m ∧ SndT B T d m
  | .const _ => ⟨snd_const, snd_tval he_const id snd_const⟩
  | .var _ => ⟨snd_var, snd_tval he_var id snd_var⟩
  | .glob _ _ => ⟨snd_glob G, sndt_no fun xx xx xx h => h⟩
  | .bin _ a b => let x := snd_bin (soundE G GT a).1 (soundE G GT b).1; ⟨x, snd_tval he_bin id x⟩
  | .neg a => ⟨snd_neg (soundE G GT a).1, sndt_no fun xx xx xx h => h⟩
  | .nt a => ⟨snd_nt (soundE G GT a).1, sndt_nt (soundE G GT a).2⟩
  | .bop _ es => ⟨snd_bop (soundEs G GT es).2.1, sndt_bop (soundEs G GT es).2.2⟩
  | .cmp _ a b => ⟨snd_cmp (soundE G GT a).1 (soundE G GT b).1, sndt_cmp (soundE G GT a).1 (soundE G GT b).1⟩
  | .cmp2 _ _ a b c => ⟨snd_no fun xx xx xx h => h, sndt_cmp2 (soundE G GT a).1 (soundE G GT b).1 (soundE G GT c).1⟩
  | .ife t a b => ⟨snd_ife (soundE G GT t).2 (soundE G GT a).1 (soundE G GT b).1, sndt_no fun xx xx xx h => h⟩
  | .tup es => ⟨snd_tup (soundEs G GT es).1, sndt_no fun xx xx xx h => h⟩
  | .lst es => ⟨snd_lst (soundEs G GT es).1, sndt_no fun xx xx xx h => h⟩
  | .mlst es => ⟨snd_mlst (soundEs G GT es).1, sndt_no fun xx xx xx h => h⟩
  | .dct _ _ => ⟨snd_dct G, sndt_no fun xx xx xx h => h⟩
  | .idx a b => ⟨snd_idx (soundE G GT a).1 (soundE G GT b).1, sndt_no fun xx xx xx h => h⟩
  | .slc a lo hi => ⟨snd_slc (soundE G GT a).1 (soundO G GT lo) (soundO G GT hi), sndt_no fun xx xx xx h => h⟩
  | .attr a _ => ⟨snd_attr GT (soundE G GT a).1, sndt_no fun xx xx xx h => h⟩
  | .call _ es => let x := snd_call G (soundEs G GT es).1; ⟨x, snd_tval he_call id x⟩
  | .scall _ _ es => ⟨snd_scall G GT (soundEs G GT es).1, sndt_no fun xx xx xx h => h⟩
  | .bi _ es => ⟨snd_bi G (soundEs G GT es).1, sndt_no fun xx xx xx h => h⟩
  | .meth _ a es => let x := snd_meth (soundE G GT a).1 (soundEs G GT es).1; ⟨x, snd_tval he_meth id x⟩
  | .repl a _ _ => ⟨snd_repl (soundE G GT a).1, sndt_no fun xx xx xx h => h⟩
  | .app a b => ⟨snd_app (soundE G GT a).1 (soundE G GT b).1, sndt_no fun xx xx xx h => h⟩
  | .cel _ => ⟨snd_cel, sndt_no fun xx xx xx h => h⟩
  | .edct _ => ⟨snd_edct, sndt_no fun xx xx xx h => h⟩
  | .lenO a => ⟨snd_lenO G (soundE G GT a).1, sndt_no fun xx xx xx h => h⟩
  | .popf a => ⟨snd_popf G (soundE G GT a).1, sndt_no fun xx xx xx h => h⟩
  | .frzS a => ⟨snd_frzS G (soundE G GT a).1, sndt_no fun xx xx xx h => h⟩
  | .frz a => ⟨snd_frz G (soundE G GT a).1, sndt_no fun xx xx xx h => h⟩
  | .comp _ a b => ⟨snd_comp (soundE G GT a).1 (soundE G GT b).1, sndt_no fun xx xx xx h => h⟩
  | .fstr fs => ⟨snd_fstr (soundF G GT fs), sndt_no fun xx xx xx h => h⟩
  | .bad => ⟨snd_no fun xx xx xx h => h, sndt_no fun xx xx xx h => h⟩
theorem soundEs (G : GoodB B) (GT : GoodT B T) : ∀ ms : List ME, SndL B T d ms ∧ SndB B T d ms ∧ SndTB B T d ms
  | [] => ⟨snd_nil, snd_bnil, snd_tbnil⟩
  | m :: ms => ⟨snd_cons (soundE G GT m).1 (soundEs G GT ms).1, snd_bcons (soundE G GT m).1 (soundEs G GT ms).2.1, snd_tbcons (soundE G GT m).2 (soundEs G GT ms).2.2⟩
theorem soundO (G : GoodB B) (GT : GoodT B T) : ∀ m : Option ME, SndO B T d m
  | none => snd_on
  | some m => snd_os (soundE G GT m).1
theorem soundF (G : GoodB B) (GT : GoodT B T) : ∀ es : List (Option (List Nat) × Option ME), SndF B T d es
  | [] => snd_fnil
  | (some _, _) :: r => snd_fs (soundF G GT r)
  | (none, some m) :: r => snd_fe (soundE G GT m).1 (soundF G GT r)
  | (none, none) :: _ => snd_fno
end
end
end Mine
end
section
namespace Mine
open PySem PySem.W PySem.Calls PyProof.Rows PySem.Builtin PySem.Builtin.Str PySem.NumText
theorem swaps_false {e : Expr} {t : Option Expr} {l : Nat} {env : Env} (h : isComp e = false) : swapsWith e t l env = pure false := by
  cases e <;> first | rfl | cases h
theorem swapped_none {ts : List Expr} {x} {p : Pos} {e : Expr} {env : Env} (h : isTup e = false) : swappedStores [.Tuple ts x p] e env = pure none := by
  cases e <;> first | rfl | cases h
theorem sole_false {e t : Expr} {l : Nat} {env : Env} (h : isComp e = false) : swapsWithSole [t] e l env = pure false := by
  rw [show swapsWithSole [t] e l env = swapsWith e (some t) l env from rfl]; exact swaps_false h
theorem RepOL.append {B : Base} {z : PH} : ∀ {ps qs : List (Option PV)} {vs us : List (Option Value)}, RepOL B z ps vs → RepOL B z qs us → RepOL B z (ps ++ qs) (vs ++ us)
  | [], _, _, _, r, r' => by cases r; exact r'
  | _ :: _, _, _, _, ⟨v, vs, h1, h2, h3⟩, r' => by subst h1; exact ⟨v, _, rfl, h2, RepOL.append h3 r'⟩
theorem RepOL.nones {B : Base} {z : PH} : ∀ n, RepOL B z (List.replicate n none) (List.replicate n none)
  | 0 => rfl
  | n + 1 => ⟨none, _, rfl, rfl, RepOL.nones n⟩
theorem RepOL.length {B : Base} {z : PH} : ∀ {ps : List (Option PV)} {vs : List (Option Value)}, RepOL B z ps vs → vs.length = ps.length
  | [], _, r => by cases r; rfl
  | _ :: _, _, ⟨v, vs, h1, h2, h3⟩ => by subst h1; simp [RepOL.length h3]
theorem RepOL.set {B : Base} {z : PH} {p : PV} {v : Value} (hr : Rep B z p v) : ∀ {ps : List (Option PV)} {vs : List (Option Value)} {i : Nat}, RepOL B z ps vs → RepOL B z (ps.set i (some p)) (vs.set i (some v))
  | [], _, _, r => by cases r; rfl
  | _ :: _, _, 0, ⟨v, vs, h1, h2, h3⟩ => by subst h1; exact ⟨_, vs, rfl, ⟨_, rfl, hr⟩, h3⟩
  | _ :: _, _, i + 1, ⟨v, vs, h1, h2, h3⟩ => by subst h1; exact ⟨_, _, rfl, h2, RepOL.set hr h3⟩
theorem slotSet_ok {B : Base} {z : PH} {fs : List (Option PV)} {sl : Array (Option Value)} {i : Nat} {p : PV} {v : Value} (h : RepOL B z fs sl.toList) (hr : Rep B z p v) :
    RepOL B z (slotSet fs i p) ((sl ++ Array.replicate (i + 1 - sl.size) none).setIfInBounds i (some v)).toList := by
  have hl := h.length
  rw [Array.length_toList] at hl
  unfold slotSet
  rw [Array.toList_setIfInBounds, Array.toList_append, Array.toList_replicate, hl]
  exact (h.append (RepOL.nones _)).set hr
theorem St.changeOwnL {B : Base} {z P : PH} {vars : List Str} {L : Addr} {ρ : Loc} {H : AH} {s : Shared} (S : St B z P vars L ρ H s) {a : Addr} {h' : Heap} {t : Nat} {o : Obj} {x y : AO} {m : Str → Option Value} (ht : s.toks ≤ t)
    (hs : ∀ b o, b ≠ a → b ≠ L → s.heap.get? b = some o → h'.get? b = some o) (hx : H a = some y) (ho : h'.get? a = some o) (hns : h'.Ns L m) (hm : LocRep B z vars ρ m) (hr : ORep B z o x) (hy : NoTbl (some y)) :
    St B z P vars L ρ (H.upd a x) { s with heap := h', toks := t } := by
  have hz := (S.c.hin a y hx).1
  have hp : P a = none := by
    cases h : P a with
    | none => rfl
    | some o => have := (S.c.pin a o h).2.2; rw [hx] at this; cases this
  have hl : L ≠ a := by rintro rfl; rw [S.lh] at hx; cases hx
  refine ⟨⟨S.c.base, fun b o' e => ?_, fun b o' e => ?_, fun b x' e => ?_, S.c.os, S.c.gens, ⟨Nat.lt_of_lt_of_le S.c.tk.1 ht, S.c.tk.2.upd (by rw [hx]; exact hy)⟩⟩, S.lz, S.lp, by unfold AH.upd; rw [if_neg hl]; exact S.lh, m, hns, hm⟩
  · exact hs b o' (by rintro rfl; rw [hz] at e; cases e) (by rintro rfl; rw [S.lz] at e; cases e) (S.c.zin b o' e)
  · obtain ⟨a1, a2, a3⟩ := S.c.pin b o' e
    have hb : b ≠ a := by rintro rfl; rw [hp] at e; cases e
    exact ⟨hs b o' hb (by rintro rfl; rw [S.lp] at e; cases e) a1, a2, by unfold AH.upd; rw [if_neg hb]; exact a3⟩
  · unfold AH.upd at e; split at e
    · rename_i q; subst q; cases e; exact ⟨hz, o, ho, hr⟩
    · rename_i q
      obtain ⟨a1, oo, a2, a3⟩ := S.c.hin b x' e
      exact ⟨a1, oo, hs b _ q (by rintro rfl; rw [S.lh] at e; cases e) a2, a3⟩
noncomputable def MFRep (B : Base) (z : PH) : MF → Flow → Prop
  | .next, f => f = .next
  | .brk, f => f = .brk
  | .cont, f => f = .cont
  | .ret v, f => ∃ x, f = .ret x ∧ Rep B z v x
noncomputable def PS (B : Base) (P : PH) (vars : List Str) (L : Addr) (z : PH) (Q : MF → Loc → AH → Prop) : Flow → Shared → Prop :=
  fun f s' => ∃ z' m ρ' H', zle z z' ∧ St B z' P vars L ρ' H' s' ∧ MFRep B z' m f ∧ Q m ρ' H'
theorem PS.le {B : Base} {z z' P : PH} {vars : List Str} {L : Addr} {s : Shared} {Q : MF → Loc → AH → Prop} {v : Flow} (h : zle z z') (x : PS B P vars L z' Q v s) : PS B P vars L z Q v s :=
  by obtain ⟨a, p, r, H, h1, h2⟩ := x; exact ⟨a, p, r, H, h.trans h1, h2⟩
section
variable (B : Base) (T : Tab) (d : Nat)
noncomputable def SndS (m : MS) : Prop := ∀ (st : Stmt) (ρ : Loc) (H : AH) (Q : KS) (z P : PH) (vars : List Str) (sc : Scope) (L : Addr) (env : Env) (A : Around) (s : Shared),
  EnvOK B T env vars sc L → Room d A → chkS m sc vars st = true → vcS B T d m Q ρ H → St B z P vars L ρ H s → wpAny (model B.prog B.w) A (exec st env) (PS B P vars L z Q) NoExc s
noncomputable def SndSs (ms : List MS) : Prop := ∀ (sts : List Stmt) (ρ : Loc) (H : AH) (Q : KS) (z P : PH) (vars : List Str) (sc : Scope) (L : Addr) (env : Env) (A : Around) (s : Shared),
  EnvOK B T env vars sc L → Room d A → chkSs ms sc vars sts = true → vcSs B T d ms Q ρ H → St B z P vars L ρ H s → wpAny (model B.prog B.w) A (execs sts env) (PS B P vars L z Q) NoExc s
end
section
variable {B : Base} {T : Tab} {d : Nat} {z z₀ P : PH} {vars : List Str} {L : Addr} {ρ : Loc} {H : AH} {s : Shared} {A : Around} {env : Env} {sc : Scope} {m a b c : ME} {ss ss' : List MS} {e : Expr} {E : Value → Shared → Prop} {Q : KS}
theorem SndSs.then (x : SndSs B T d ss) {sts : List Stmt} {Q' : Flow → Shared → Prop} (V : EnvOK B T env vars sc L) (R : Room d A) (hc : chkSs ss sc vars sts = true) (h : vcSs B T d ss Q ρ H) (S : St B z P vars L ρ H s)
    (k : ∀ f s₁ z₁ m ρ₁ H₁, zle z z₁ → St B z₁ P vars L ρ₁ H₁ s₁ → MFRep B z₁ m f → Q m ρ₁ H₁ → Q' f s₁) : wpAny (model B.prog B.w) A (execs sts env) Q' E s :=
  wpAny_mono (x sts ρ H Q z P vars sc L env A s V R hc h S) (fun v s₁ hh => by obtain ⟨z₁, m, p, H₁, a, b, c, q⟩ := hh; exact k v s₁ z₁ m p H₁ a b c q) (fun xx xx x => x.elim)
theorem SndSs.out (x : SndSs B T d ss) {sts : List Stmt} (V : EnvOK B T env vars sc L) (R : Room d A) (hc : chkSs ss sc vars sts = true) (h : vcSs B T d ss Q ρ H) (S : St B z P vars L ρ H s) (le : zle z₀ z) : wpAny (model B.prog B.w) A (execs sts env) (PS B P vars L z₀ Q) E s :=
  x.then V R hc h S fun xx xx z₁ m p H₁ a b c q => ⟨z₁, m, p, H₁, le.trans a, b, c, q⟩
theorem targets_ok : ∀ {is : List Nat} {ts : List Expr} {vs : List PV} {xs : List Value} {ρ : Loc} {s : Shared},
    EnvOK B T env vars sc L → targets vars is ts = true → vs.length = is.length → RepL B z vs xs → St B z P vars L ρ H s → Q .next (setMany is vs ρ) H →
    wpAny (model B.prog B.w) A (assignInOrder ((assignEach ts env).map (·.2)) xs) (fun xx => PS B P vars L z Q .next) NoExc s
  | [], ts, [], xs, ρ, s, V, hc, hl, hr, S, hq => by
    cases hr
    cases nil_inv hc
    exact wpAny_assignInOrder_none ⟨z, .next, ρ, H, zle.refl z, S, rfl, hq⟩
  | [], _, _ :: _, _, _, _, _, _, hl, _, _, _ => by cases hl
  | _ :: _, _, [], _, _, _, _, _, hl, _, _, _ => by cases hl
  | _ :: _, [], _ :: _, _, _, _, _, hc, _, _, _, _ => by cases hc
  | i :: is, t :: r, v :: vs, xs, ρ, s, V, hc, hl, hr, S, hq => by
    obtain ⟨x, xs, rfl, rx, hr⟩ := hr
    obtain ⟨h1, h2⟩ := ands hc
    obtain ⟨⟨⟨n, p⟩, rfl⟩, h1⟩ := any_inv h1
    exact wpAny_assignInOrder_more (wpAny_assign_Name (store_ok V S h1 rx fun h' S' => targets_ok V h2 (Nat.succ.inj hl) hr S' hq))
theorem assignEach_len : ∀ {is : List Nat} {ts : List Expr}, targets vars is ts = true → (assignEach ts env).length = is.length ∧ (assignEach ts env).findIdx? (·.1) = none
  | [], ts, h => by cases nil_inv h; exact ⟨rfl, rfl⟩
  | _ :: _, [], h => by cases h
  | i :: is, t :: r, h => by
    obtain ⟨h1, h2⟩ := ands h
    obtain ⟨⟨⟨n, p⟩, rfl⟩, _⟩ := any_inv h1
    obtain ⟨a, b⟩ := assignEach_len h2
    refine ⟨congrArg (· + 1) a, ?_⟩
    show ((false, _) :: assignEach r env).findIdx? _ = none
    rw [List.findIdx?_cons]; simp only [b]; rfl
theorem snd_asg {i : Nat} (xa : SndE B T d a) : SndS B T d (.asg i a) := by
  intro st ρ H Q z P vars sc L env A s V R hc h S
  obtain ⟨⟨⟨ts, e, p⟩, rfl⟩, hc⟩ := any_inv hc
  obtain ⟨⟨t, e1⟩, hc⟩ := any_inv hc
  obtain ⟨⟨⟨n, p'⟩, e2⟩, hc⟩ := any_inv hc
  dsimp only at e1 e2
  subst e2; subst e1
  obtain ⟨h1, h2, h3⟩ := ands3 hc
  exact wpAny_Assign_Name (xa.then V R h2 h S fun v s₁ z₁ x H₁ le₁ S₁ r₁ hq => store_ok V S₁ h1 r₁ fun h' S' => ⟨z₁, .next, _, H₁, le₁, S', rfl, hq⟩) (swaps_false (nots h3))
theorem asg2_core {i j : Nat} {e : Expr} {n n' : Str} {p p' p'' : Pos} {z P : PH} {vars : List Str} {sc : Scope} {L : Addr} {env : Env} {A : Around} {s : Shared} {ρ : Loc} {H : AH} {Q : KS} (xa : SndE B T d a) (V : EnvOK B T env vars sc L) (R : Room d A) (h1 : locOk vars i n = true) (h2 : locOk vars j n' = true) (h3 : chkE a sc vars e = true)
    (h : vcS B T d (.asg2 i j a) Q ρ H) (S : St B z P vars L ρ H s) : wpAny (model B.prog B.w) A (exec (.Assign [.Name n p', .Name n' p''] e p) env) (PS B P vars L z Q) NoExc s :=
  wpAny_Assign_two (xa.then V R h3 h S fun v s₁ z₁ x H₁ le₁ S₁ r₁ hq => wpAny_assign_Name (store_ok V S₁ h1 r₁ fun h' S' =>
    wpAny_assign_Name (store_ok V S' h2 r₁ fun h' S' => ⟨z₁, .next, _, H₁, le₁, S', rfl, hq⟩)))
theorem snd_asg2 {i j : Nat} (xa : SndE B T d a) : SndS B T d (.asg2 i j a) := by
  intro st ρ H Q z P vars sc L env A s V R hc h S
  obtain ⟨q, hc⟩ := any_inv hc
  obtain ⟨t, hc⟩ := any_inv hc
  obtain ⟨n, hc⟩ := any_inv hc
  obtain ⟨n', hc⟩ := any_inv hc
  obtain ⟨h1, h2, h3, h4⟩ := ands4 hc
  rw [q.2, t.2, n.2, n'.2]
  exact asg2_core xa V R h1 h2 h3 h S
theorem snd_unp {is : List Nat} (xa : SndE B T d a) : SndS B T d (.unp is a) := by
  intro st ρ H Q z P vars sc L env A s V R hc h S
  obtain ⟨⟨⟨ts, e, p⟩, rfl⟩, hc⟩ := any_inv hc
  obtain ⟨⟨t, e1⟩, hc⟩ := any_inv hc
  obtain ⟨⟨⟨n', k', p'⟩, e2⟩, hc⟩ := any_inv hc
  dsimp only at e1 e2
  subst e2; subst e1
  obtain ⟨h1, h2, h3, h4, h5⟩ := ands5 hc
  refine wpAny_Assign_stores (xa.then V R h2 h S fun v s₁ z₁ x H₁ le₁ S₁ r₁ h₁ => ?_) (sole_false (nots h3)) (swapped_none (nots h4))
  obtain ⟨vs, rfl, hl, hq⟩ := onTup_inv h₁
  obtain ⟨a, n, xs, rfl, hz, hr, hsz⟩ := r₁
  show wpAny _ _ (assign (.Tuple n' k' p') env (.ref a)) _ _ _
  obtain ⟨l1, l2⟩ := assignEach_len (env := env) h1
  refine wpAny_assign_Tuple (items := xs) R.h ⟨_, S₁.c.zin _ _ hz, rfl, n, rfl⟩ ?_ l2 fun h' hx => ?_
  · rw [l1, ← hl]; have := hr.length; rwa [Array.length_toList, eq_comm] at this
  · exact wpAny_mono (targets_ok V h1 hl hr (S₁.keeps (Nat.le_refl _) fun b o e => hx b o (Nat.ne_of_lt (Heap.lt_size e)) e) hq) (fun xx xx x => x.le le₁) (fun xx xx => no _ _)
theorem aug_core {i : Nat} {op : Operator} {e : Expr} {n : Str} {p p' : Pos} {z P : PH} {vars : List Str} {sc : Scope} {L : Addr} {env : Env} {A : Around} {s : Shared} {ρ : Loc} {H : AH} {Q : KS} (xa : SndE B T d a) (V : EnvOK B T env vars sc L) (R : Room d A) (h1 : locOk vars i n = true) (h2 : chkE a sc vars e = true)
    (h : vcS B T d (.aug i op a) Q ρ H) (S : St B z P vars L ρ H s) : wpAny (model B.prog B.w) A (exec (.AugAssign (.Name n p') op e p) env) (PS B P vars L z Q) NoExc s := by
  obtain ⟨o, ho, hv⟩ := get_inv (k := fun o => vcE B T d a (kaug i op o Q ρ) ρ H) h
  refine wpAny_AugAssign_Name (ldvar_ok V S h1 ho fun x hx => xa.then V R h2 hv S fun v s₁ z₁ y H₁ le₁ S₁ r₁ h₁ => ?_)
  cases op <;> first | exact h₁.elim | skip
  exact aug_ok (show addK o y (fun r => Q .next (setL ρ i r) H₁) from h₁) (hx.mono le₁) r₁ fun r hq v t ht hv => store_ok V (S₁.toks ht) h1 hv fun h' S' => ⟨z₁, .next, _, H₁, le₁, S', rfl, hq⟩
theorem snd_aug {i : Nat} {op : Operator} (xa : SndE B T d a) : SndS B T d (.aug i op a) := by
  intro st ρ H Q z P vars sc L env A s V R hc h S
  obtain ⟨q, hc⟩ := any_inv hc
  obtain ⟨n, hc⟩ := any_inv hc
  obtain ⟨h1, h0, h2⟩ := ands3 hc
  rw [q.2, n.2, beq_iff_eq.mp h0]
  exact aug_core xa V R h1 h2 h S
theorem satB_inv {nm : Str} {l : Addr} {v : PV} {Q : AH → Prop} (h : satB T nm l v Q H) : ∃ c fs i, H l = some (.inst c fs) ∧ T.sat c nm = some i ∧ i < 1000 ∧ Q (H.upd l (.inst c (slotSet fs i v))) := by unfold satB at h; exact h
theorem sat_core {nm : Str} {o e : Expr} {p p' : Pos} {z P : PH} {vars : List Str} {sc : Scope} {L : Addr} {env : Env} {A : Around} {s : Shared} {ρ : Loc} {H : AH} {Q : KS} (GT : GoodT B T) (xa : SndE B T d a) (xb : SndE B T d b) (V : EnvOK B T env vars sc L) (R : Room d A) (h1 : chkE a sc vars o = true) (h2 : chkE b sc vars e = true) (h3 : isComp e = false)
    (h : vcS B T d (.setattr a nm b) Q ρ H) (S : St B z P vars L ρ H s) : wpAny (model B.prog B.w) A (exec (.Assign [.Attribute o nm p'] e p) env) (PS B P vars L z Q) NoExc s := by
  refine wpAny_Assign_stores (xb.then V R h2 h S fun v s₁ z₁ y H₁ le₁ S₁ r₁ h₁ => ?_) (sole_false h3) rfl
  show wpAny _ _ (assign (.Attribute _ _ _) env v) _ _ _
  rw [arm_assign_Attribute]
  refine wpAny_bind (wpAny_holding (xa.then V R h1 h₁ S₁ fun ov s₂ z₂ xx H₂ le₂ S₂ r₂ h₂ => ?_))
  obtain ⟨l, rfl, h₂⟩ := onRef_inv h₂
  obtain ⟨c, fs, i, hl, hs, hi, hq⟩ := satB_inv h₂
  cases r₂
  obtain ⟨hz, oo, ho, dd, sl, rfl, hzd, hsl⟩ := S₂.c.hin l _ hl
  have hb : B.heap.get? l = none := by
    cases hb : B.heap.get? l with
    | none => rfl
    | some o => rw [S₂.c.base _ _ hb] at hz; cases hz
  have hlL : l ≠ L := by rintro rfl; rw [S₂.lh] at hl; cases hl
  obtain ⟨m, hn, hlr⟩ := S₂.loc
  refine wpAny_bind (wpAny_standAt (wpAny_bind (wpAny_holding (GT.sat c _ i hs A _ _ s₂ l dd L m sl v S₂.c.bin hb ho (S₂.c.zin _ _ hzd) hn hlL fun h' t ht hsb hns hg => ?_))))
  exact wpAny_release ⟨z₂, .next, ρ, _, le₁.trans le₂, S₂.changeOwnL ht hsb hl hg hns hlr (x := .inst c (slotSet fs i y)) ⟨dd, _, rfl, hzd, slotSet_ok hsl (r₁.mono le₂)⟩ trivial, rfl, hq⟩
theorem snd_sat {nm : Str} (GT : GoodT B T) (xa : SndE B T d a) (xb : SndE B T d b) : SndS B T d (.setattr a nm b) := by
  intro st ρ H Q z P vars sc L env A s V R hc h S
  obtain ⟨q, hc⟩ := any_inv hc
  obtain ⟨t, hc⟩ := any_inv hc
  obtain ⟨n, hc⟩ := any_inv hc
  obtain ⟨_, h0, h1, h2, h3⟩ := ands5 hc
  rw [q.2, t.2, n.2, beq_iff_eq.mp h0]
  exact sat_core GT xa xb V R h1 h2 (nots h3) h S
theorem snd_expr (xa : SndE B T d a) : SndS B T d (.expr a) := by
  intro st ρ H Q z P vars sc L env A s V R hc h S
  obtain ⟨⟨⟨e, p⟩, rfl⟩, hc⟩ := any_inv hc
  obtain ⟨h1, h2⟩ := ands hc
  refine wpAny_Expr_any (xa.then V R h1 h S fun v s₁ z₁ y H₁ le₁ S₁ r₁ hq => ⟨z₁, .next, ρ, H₁, le₁, S₁, rfl, hq.2⟩) ?_ (swaps_false (nots h2))
  unfold interactive; rw [V.scope_kind]; rfl
theorem snd_if (xt : SndT B T d m) (xa : SndSs B T d ss) (xb : SndSs B T d ss') : SndS B T d (.ite m ss ss') := by
  intro st ρ H Q z P vars sc L env A s V R hc h S
  obtain ⟨⟨⟨e, x, y, p⟩, rfl⟩, hc⟩ := any_inv hc
  obtain ⟨h1, h2, h3⟩ := ands3 hc
  refine wpAny_If (xt.then V R h1 h S fun s₁ z₁ c H₁ le₁ S₁ h₁ => ?_)
  have := tst_of h₁
  cases q : c.dec with
  | true => rw [q] at this; exact xa.out V R h2 this S₁ le₁
  | false => rw [q] at this; exact xb.out V R h3 this S₁ le₁
theorem whB_inv {vt : VT} {vb ve : VS} (h : whB vt vb ve Q ρ H) : ∃ (I : Nat → Loc → AH → Prop) (n : Nat), I n ρ H ∧ ∀ n ρ H, I n ρ H → vt (kwh vb ve I n Q ρ) ρ H := by unfold whB at h; exact h
theorem snd_wh (xt : SndT B T d m) (xa : SndSs B T d ss) (xb : SndSs B T d ss') : SndS B T d (.wh m ss ss') := by
  intro st ρ H Q z P vars sc L env A s V R hc h S
  obtain ⟨⟨⟨e, x, y, p⟩, rfl⟩, hc⟩ := any_inv hc
  obtain ⟨h1, h2, h3⟩ := ands3 hc
  obtain ⟨I, n, hI, hstep⟩ := whB_inv h
  refine wpAny_While (codeAny_whileLoop (fun n s => ∃ z' ρ H, zle z z' ∧ St B z' P vars L ρ H s ∧ I n ρ H) ?_ n ⟨z, ρ, H, zle.refl z, S, hI⟩)
  rintro n s₁ ⟨z₁, ρ₁, H₁, le₁, S₁, hI₁⟩
  refine xt.then V R h1 (hstep n ρ₁ H₁ hI₁) S₁ fun s₂ z₂ c H₂ le₂ S₂ h₂ => ?_
  have := tst_of h₂
  cases q : c.dec with
  | true =>
    rw [q] at this
    refine xa.then V R h2 this S₂ fun f s₃ z₃ m ρ₃ H₃ le₃ S₃ hm hq => ?_
    have le := (le₁.trans le₂).trans le₃
    cases m with
    | next => cases hm; obtain ⟨m, hlt, hi⟩ := hq; exact ⟨m, hlt, z₃, ρ₃, H₃, le, S₃, hi⟩
    | cont => cases hm; obtain ⟨m, hlt, hi⟩ := hq; exact ⟨m, hlt, z₃, ρ₃, H₃, le, S₃, hi⟩
    | brk => cases hm; exact ⟨z₃, .next, ρ₃, H₃, le, S₃, rfl, hq⟩
    | ret v => obtain ⟨x, rfl, rx⟩ := hm; exact ⟨z₃, .ret v, ρ₃, H₃, le, S₃, ⟨x, rfl, rx⟩, hq⟩
  | false => rw [q] at this; exact xb.out V R h3 this S₂ (le₁.trans le₂)
theorem forB_inv {i : Nat} {xs : List PV} {vb : VS} (h : forB i xs vb Q ρ H) : ∃ I : List PV → Loc → AH → Prop, I xs ρ H ∧ (∀ x r ρ H, I (x :: r) ρ H → vb (kforb I r Q) (setL ρ i x) H) ∧ ∀ ρ H, I [] ρ H → Q .next ρ H := by unfold forB at h; exact h
theorem for_loop {i : Nat} {xs : List PV} {stt : Nat → Obj → Prop} {it : Addr} {o : Obj} {n : Str} {p' : Pos} {y : List Stmt} {I : List PV → Loc → AH → Prop} {z z₁ P : PH} {vars : List Str} {sc : Scope} {L : Addr} {env : Env} {A : Around} {s : Shared} {ρ : Loc} {H : AH} {Q : KS}
    (xb : SndSs B T d ss) (V : EnvOK B T env vars sc L) (R : Room d A) (h1 : locOk vars i n = true) (h3 : chkSs ss sc vars y = true) (IT : Iter B z₁ it xs stt) (hP : P it = none) (hst : stt 0 o) (S : St B z₁ (padd P it o) vars L ρ H s)
    (hI : I xs ρ H) (hstep : ∀ x r ρ H, I (x :: r) ρ H → vcSs B T d ss (kforb I r Q) (setL ρ i x) H) (hend : ∀ ρ H, I [] ρ H → Q .next ρ H) (le₁ : zle z z₁) :
    codeAny (model B.prog B.w) A (.forLoop (.Name n p') (.ref it) y [] env) (fun r s' => match r with
      | .ok f => PS B P vars L z Q f s'
      | .error e => cameBackBy (model B.prog B.w) A env NoExc e s') s := by
  refine codeAny_forLoop (fun n s => ∃ i z' o ρ H, zle z₁ z' ∧ St B z' (padd P it o) vars L ρ H s ∧ stt i o ∧ I (xs.drop i) ρ H ∧ n = xs.length - i) ?_ xs.length ⟨0, z₁, o, ρ, H, zle.refl _, S, hst, hI, rfl⟩
  rintro n s₃ ⟨k, z₃, o₃, ρ₃, H₃, le₃, S₃, hst₃, hI₃, rfl⟩
  have hit3 := S₃.c.pin it o₃ (padd_self ..)
  cases hk : xs[k]? with
  | none =>
    refine IT.done k z₃ s₃ A _ _ o₃ hk le₃ S₃.zi R.h hit3.1 hst₃ fun h' hx => wpAny_execs_nil ?_
    rw [List.drop_eq_nil_of_le (List.getElem?_eq_none_iff.mp hk)] at hI₃
    exact ⟨z₃, .next, ρ₃, H₃, le₁.trans le₃, S₃.unpin hP (Nat.le_refl _) hx, rfl, hend _ _ hI₃⟩
  | some p =>
    have hlt : k < xs.length := (List.getElem?_eq_some_iff.mp hk).1
    rw [List.drop_eq_getElem_cons hlt, (List.getElem?_eq_some_iff.mp hk).2] at hI₃
    refine IT.item k z₃ s₃ A _ _ p o₃ hk le₃ S₃.zi R.h hit3.1 hst₃ fun v h' t o' ht hs ho' hst' hr => ?_
    refine wpAny_assign_Name (store_ok V (S₃.repin hP ht hs ho') h1 hr fun h'' S₅ => xb.then V R h3 (hstep _ _ _ _ hI₃) S₅ fun f s₆ z₆ m ρ₆ H₆ le₆ S₆ hm hq => ?_)
    have le := le₃.trans le₆
    cases m with
    | next => cases hm; exact ⟨xs.length - (k + 1), Nat.sub_succ_lt_self _ _ hlt, k + 1, z₆, o', ρ₆, H₆, le, S₆, hst', hq, rfl⟩
    | cont => cases hm; exact ⟨xs.length - (k + 1), Nat.sub_succ_lt_self _ _ hlt, k + 1, z₆, o', ρ₆, H₆, le, S₆, hst', hq, rfl⟩
    | brk => cases hm; exact ⟨z₆, .next, ρ₆, H₆, le₁.trans le, S₆.unpin (h' := s₆.heap) (t := s₆.toks) hP (Nat.le_refl _) (fun xx xx xx e => e), rfl, hq⟩
    | ret v => obtain ⟨x, rfl, rx⟩ := hm; exact ⟨z₆, .ret v, ρ₆, H₆, le₁.trans le, S₆.unpin (h' := s₆.heap) (t := s₆.toks) hP (Nat.le_refl _) (fun xx xx xx e => e), ⟨x, rfl, rx⟩, hq⟩
theorem kfor_inv {i : Nat} {vb : VS} {Q : KS} {ρ : Loc} {x : PV} {H : AH} (h : kfor i vb Q ρ x H) : ∃ xs, pItems x = some xs ∧ forB i xs vb Q ρ H := by
  unfold kfor at h
  cases hxs : pItems x with
  | none => rw [hxs] at h; exact h.elim
  | some xs => rw [hxs] at h; exact ⟨xs, rfl, h⟩
theorem for_core {i : Nat} {e : Expr} {y : List Stmt} {n : Str} {p p' : Pos} {z P : PH} {vars : List Str} {sc : Scope} {L : Addr} {env : Env} {A : Around} {s : Shared} {ρ : Loc} {H : AH} {Q : KS} (xa : SndE B T d a) (xb : SndSs B T d ss)
    (V : EnvOK B T env vars sc L) (R : Room d A) (h1 : locOk vars i n = true) (h2 : chkE a sc vars e = true) (h3 : chkSs ss sc vars y = true) (h4 : isSet e = false) (h : vcS B T d (.for1 i a ss) Q ρ H) (S : St B z P vars L ρ H s) :
    wpAny (model B.prog B.w) A (exec (.For (.Name n p') e y [] p) env) (PS B P vars L z Q) NoExc s := by
  refine wpAny_For (xa.then V R h2 h S fun v s₁ z₁ x H₁ le₁ S₁ r₁ h₁ => ?_) (not_set h4)
  obtain ⟨xs, hxs, h₁⟩ := kfor_inv h₁
  obtain ⟨I, hI, hstep, hend⟩ := forB_inv h₁
  exact iter_make hxs r₁ S₁.zi S₁.c.zfresh fun o stt hf IT hst => for_loop xb V R h1 h3 IT S₁.c.pfresh hst (S₁.pushPin hf) hI hstep hend le₁
theorem snd_for {i : Nat} (xa : SndE B T d a) (xb : SndSs B T d ss) : SndS B T d (.for1 i a ss) := by
  intro st ρ H Q z P vars sc L env A s V R hc h S
  obtain ⟨q, hc⟩ := any_inv hc
  obtain ⟨n, hc⟩ := any_inv hc
  obtain ⟨h0, h1, h2, h3, h4⟩ := ands5 hc
  rw [q.2, n.2, nil_inv h0]
  exact for_core xa xb V R h1 h2 h3 (nots h4) h S
theorem eforB_inv {i j : Nat} {xs : List PV} {vb : VS} (h : eforB i j xs vb Q ρ H) : ∃ I : Nat → List PV → Loc → AH → Prop, I 0 xs ρ H ∧ (∀ n x r ρ H, I n (x :: r) ρ H → vb (kefb I n r Q) (setL (setL ρ i (.int n)) j x) H) ∧ ∀ n ρ H, I n [] ρ H → Q .next ρ H := by unfold eforB at h; exact h
theorem padd4 {P : PH} {e it : Addr} {a b c d' : Obj} : padd (padd (padd (padd P e a) it b) e c) it d' = padd (padd P e c) it d' := by
  funext x
  unfold padd
  by_cases h1 : x = it
  · simp only [if_pos h1]
  · by_cases h2 : x = e
    · simp only [if_neg h1, if_pos h2]
    · simp only [if_neg h1, if_neg h2]
theorem unpin2 {z P : PH} {vars : List Str} {L : Addr} {ρ : Loc} {H : AH} {s : Shared} {e it : Addr} {a b : Obj} {h' : Heap} (S : St B z (padd (padd P e a) it b) vars L ρ H s) (hne : e ≠ it) (hPe : P e = none) (hPi : P it = none)
    (hs : ∀ x o, ¬ (x = e ∨ x = it) → s.heap.get? x = some o → h'.get? x = some o) : St B z P vars L ρ H { s with heap := h', toks := s.toks } := by
  have pe : padd (padd P e a) it b e = some a := (padd_ne hne).trans (padd_self ..)
  have pi : padd (padd P e a) it b it = some b := padd_self ..
  refine S.chgI (isI := fun x => x = e ∨ x = it) (fun x o hx => ⟨fun q => ?_, ?_⟩) (fun x q => ?_) (Nat.le_refl _) hs
  · rcases q with q | q
    · rw [q, hPe] at hx; cases hx
    · rw [q, hPi] at hx; cases hx
  · have n1 : x ≠ it := fun q => by rw [q, hPi] at hx; cases hx
    have n2 : x ≠ e := fun q => by rw [q, hPe] at hx; cases hx
    exact (padd_ne n1).trans ((padd_ne n2).trans hx)
  · rcases q with q | q
    · rw [q]; exact ⟨(S.c.pin e a pe).2.1, (S.c.pin e a pe).2.2, fun q => by have := S.lp; rw [← q, pe] at this; cases this⟩
    · rw [q]; exact ⟨(S.c.pin it b pi).2.1, (S.c.pin it b pi).2.2, fun q => by have := S.lp; rw [← q, pi] at this; cases this⟩
theorem efor_loop {i j : Nat} {xs : List PV} {e it l : Addr} {oi : Obj} {vs : Array Value} {nl : Nat} {x y : Str} {p1 p2 tp : Pos} {q : Nat} {b : List Stmt} {I : Nat → List PV → Loc → AH → Prop} {z z₁ P : PH} {vars : List Str} {sc : Scope} {L : Addr} {env : Env} {A : Around} {s : Shared} {ρ : Loc} {H : AH} {Q : KS}
    (xb : SndSs B T d ss) (V : EnvOK B T env vars sc L) (R : Room d A) (h1 : locOk vars i x = true) (h2 : locOk vars j y = true) (h3 : chkSs ss sc vars b = true) (hne : e ≠ it) (hPe : P e = none) (hPi : P it = none)
    (hzl : z₁ l = some { cls := .type "list", data := .seq vs nl }) (hrl : RepL B z₁ xs vs.toList) (hoi : LIter oi l 0) (S : St B z₁ (padd (padd P e (enumObj it 0 .none)) it oi) vars L ρ H s)
    (hI : I 0 xs ρ H) (hstep : ∀ n x r ρ H, I n (x :: r) ρ H → vcSs B T d ss (kefb I n r Q) (setL (setL ρ i (.int n)) j x) H) (hend : ∀ n ρ H, I n [] ρ H → Q .next ρ H) (le₁ : zle z z₁) :
    codeAny (model B.prog B.w) A (.forLoop (.Tuple [.Name x p1, .Name y p2] q tp) (.ref e) b [] env) (fun r s' => match r with
      | .ok f => PS B P vars L z Q f s'
      | .error e => cameBackBy (model B.prog B.w) A env NoExc e s') s := by
  refine codeAny_forLoop_any (fun n s => ∃ k z' old oI ρ H, zle z₁ z' ∧ St B z' (padd (padd P e (enumObj it (k : Nat) old)) it oI) vars L ρ H s ∧ LIter oI l k ∧ I k (xs.drop k) ρ H ∧ n = xs.length - k) ?_ xs.length ⟨0, z₁, .none, oi, ρ, H, zle.refl _, S, hoi, hI, rfl⟩
  rintro n s₃ ⟨k, z₃, old, o₃, ρ₃, H₃, le₃, S₃, hst₃, hI₃, rfl⟩
  have pe : padd (padd P e (enumObj it (k : Nat) old)) it o₃ e = some (enumObj it (k : Nat) old) := (padd_ne hne).trans (padd_self ..)
  cases hk : xs[k]? with
  | none =>
    refine enum_end R.h S₃ pe (padd_self ..) hst₃ (le₃ _ _ hzl) (hrl.mono le₃) hk fun h' hx => wpAny_execs_nil ?_
    rw [List.drop_eq_nil_of_le (List.getElem?_eq_none_iff.mp hk)] at hI₃
    exact ⟨z₃, .next, ρ₃, H₃, le₁.trans le₃, unpin2 S₃ hne hPe hPi fun b o n hb => hx b o (fun q => n (.inr q)) hb, rfl, hend _ _ _ hI₃⟩
  | some p =>
    have hlt : k < xs.length := (List.getElem?_eq_some_iff.mp hk).1
    rw [List.drop_eq_getElem_cons hlt, (List.getElem?_eq_some_iff.mp hk).2] at hI₃
    refine enum_turn (fun v s₁ h => h) V h1 h2 R.h S₃ pe (padd_self ..) hst₃ hne (le₃ _ _ hzl) (hrl.mono le₃) hk fun h' t oi' old' ht hli' S₅ => xb.then V R h3 (hstep _ _ _ _ _ hI₃) S₅ fun f s₆ z₆ m ρ₆ H₆ le₆ S₆ hm hq => ?_
    have le := le₃.trans le₆
    rw [padd4] at S₆
    cases m with
    | next => cases hm; exact ⟨xs.length - (k + 1), Nat.sub_succ_lt_self _ _ hlt, k + 1, z₆, old', oi', ρ₆, H₆, le, S₆, hli', hq, rfl⟩
    | cont => cases hm; exact ⟨xs.length - (k + 1), Nat.sub_succ_lt_self _ _ hlt, k + 1, z₆, old', oi', ρ₆, H₆, le, S₆, hli', hq, rfl⟩
    | brk => cases hm; exact ⟨z₆, .next, ρ₆, H₆, le₁.trans le, unpin2 S₆ hne hPe hPi (h' := s₆.heap) (fun xx xx xx e => e), rfl, hq⟩
    | ret v => obtain ⟨x, rfl, rx⟩ := hm; exact ⟨z₆, .ret v, ρ₆, H₆, le₁.trans le, unpin2 S₆ hne hPe hPi (h' := s₆.heap) (fun xx xx xx e => e), ⟨x, rfl, rx⟩, hq⟩
theorem efor_core {i j : Nat} {it : Expr} {b : List Stmt} {x y : Str} {q : Nat} {p p1 p2 tp cp ep : Pos} {z P : PH} {vars : List Str} {sc : Scope} {L : Addr} {env : Env} {A : Around} {s : Shared} {ρ : Loc} {H : AH} {Q : KS} (G : GoodB B) (xa : SndE B T d a) (xb : SndSs B T d ss)
    (V : EnvOK B T env vars sc L) (R : Room d A) (h1 : locOk vars i x = true) (h2 : locOk vars j y = true) (h4 : glb sc "enumerate" = true) (h5 : star1 it = false) (h6 : chkE a sc vars it = true) (h3 : chkSs ss sc vars b = true)
    (h : vcE B T d a (kefor i j (vcSs B T d ss) Q ρ) ρ H) (S : St B z P vars L ρ H s) :
    wpAny (model B.prog B.w) A (exec (.For (.Tuple [.Name x p1, .Name y p2] q tp) (.Call (.Name "enumerate" ep) [it] [] cp) b [] p) env) (PS B P vars L z Q) NoExc s := by
  refine wpAny_For (wpAny_Call_NameR (en_name V G S.c.bin h4 ?_)) (fun xx => rfl)
  refine PySem.callWith_type (by rw [starEach_cons h5, backTo_cons]; rfl) ?_
  rw [starEach_cons h5, backTo_cons]
  refine spliced_all (by rfl) (spliced_cons (xa.then V R h6 h S fun v s₁ z₁ xv H₁ le₁ S₁ r₁ h₁ => spliced_nil ?_))
  obtain ⟨xs, rfl, hlen, hm⟩ := onLst_inv h₁
  obtain ⟨I, hI, hstep, hend⟩ := eforB_inv hm
  refine enum_make S₁ r₁ fun e it l oi vs n h' hne hPe hPi hzl hrl hoi S₂ => ?_
  have ie := S₂.c.pin e (enumObj it 0 .none) (by rw [padd_ne hne, padd_self])
  exact wpAny_pyIter_enum ie.1 (efor_loop xb V R h1 h2 h3 hne hPe hPi hzl hrl hoi S₂ hI hstep hend le₁)
theorem snd_efor {i j : Nat} (G : GoodB B) (xa : SndE B T d a) (xb : SndSs B T d ss) : SndS B T d (.efor i j a ss) := by
  intro st ρ H Q z P vars sc L env A s V R hc h S
  obtain ⟨q, hc⟩ := any_inv hc
  obtain ⟨t, hc⟩ := any_inv hc
  obtain ⟨n, hc⟩ := any_inv hc
  obtain ⟨n1, hc⟩ := any_inv hc
  obtain ⟨n2, hc⟩ := any_inv hc
  obtain ⟨c, hc⟩ := any_inv hc
  obtain ⟨en, hc⟩ := any_inv hc
  obtain ⟨it, hc⟩ := any_inv hc
  obtain ⟨hc, g9⟩ := ands hc
  obtain ⟨hc, g8⟩ := ands hc
  obtain ⟨h0, h1, h2, h3, h4, h5, h6, h7⟩ := ands8 hc
  rw [q.2, t.2, n.2, n1.2, n2.2, c.2, en.2, it.2, nil_inv h0, nil_inv h3, beq_iff_eq.mp h4]
  exact efor_core G xa xb V R h1 h2 h5 (nots h6) h7 g8 h S
theorem seti_core {o k e : Expr} {p p' : Pos} {b c : ME} {z P : PH} {vars : List Str} {sc : Scope} {L : Addr} {env : Env} {A : Around} {s : Shared} {ρ : Loc} {H : AH} {Q : KS} (xa : SndE B T d a) (xk : SndE B T d b) (xv : SndE B T d c) (V : EnvOK B T env vars sc L) (R : Room d A)
    (h1 : chkE a sc vars o = true) (h2 : chkE b sc vars k = true) (h3 : chkE c sc vars e = true) (h4 : isComp e = false) (h : vcE B T d c (kset (vcE B T d a) (vcE B T d b) Q ρ) ρ H) (S : St B z P vars L ρ H s) :
    wpAny (model B.prog B.w) A (exec (.Assign [.Subscript o k p'] e p) env) (PS B P vars L z Q) NoExc s := by
  refine wpAny_Assign_Subscript (xv.then V R h3 h S fun v s₁ z₁ y H₁ le₁ S₁ r₁ h₁ => xa.then V R h1 h₁ S₁ fun ov s₂ z₂ xx H₂ le₂ S₂ r₂ h₂ => ?_) (swaps_false h4)
  obtain ⟨l, rfl, h₂⟩ := onRef_inv h₂
  cases r₂
  refine xk.then V R h2 h₂ S₂ fun kv s₃ z₃ yk H₃ le₃ S₃ r₃ h₃ => ?_
  have rv := r₁.mono (le₂.trans le₃)
  have le := le₁.trans (le₂.trans le₃)
  rcases setB_inv h₃ with ⟨ks, vs, sk, rfl, hl, hn, _, hc, hq⟩ | ⟨ks, vs, sk, rfl, hl, hn, hc, hq⟩
  · obtain ⟨_, t, rfl⟩ := r₃
    exact dict_put S₃ hl hn hc rv fun h' t S₄ => ⟨z₃, .next, ρ, _, le, S₄, rfl, hq⟩
  · obtain ⟨ka, rfl, tk⟩ := tkey_of r₃
    exact tdict_put S₃ hl hn hc R.units tk rv fun h' t S₄ => ⟨z₃, .next, ρ, _, le, S₄, rfl, hq⟩
theorem snd_seti {b c : ME} (xa : SndE B T d a) (xk : SndE B T d b) (xv : SndE B T d c) : SndS B T d (.seti a b c) := by
  intro st ρ H Q z P vars sc L env A s V R hc h S
  obtain ⟨q, hc⟩ := any_inv hc
  obtain ⟨t, hc⟩ := any_inv hc
  obtain ⟨n, hc⟩ := any_inv hc
  obtain ⟨h1, h2, _, h3, h4⟩ := ands5 hc
  rw [q.2, t.2, n.2]
  exact seti_core xa xk xv V R h1 h2 h3 (nots h4) h S
theorem snd_ret (xa : SndE B T d a) : SndS B T d (.ret a) := by
  intro st ρ H Q z P vars sc L env A s V R hc h S
  obtain ⟨⟨⟨e, p⟩, rfl⟩, hc⟩ := any_inv hc
  obtain ⟨⟨e, e1⟩, hc⟩ := any_inv hc
  dsimp only at e1
  subst e1
  exact wpAny_Return_some (xa.then V R hc h S fun v s₁ z₁ y H₁ le₁ S₁ r₁ hq => ⟨z₁, .ret y, ρ, H₁, le₁, S₁, ⟨v, rfl, r₁⟩, hq⟩)
theorem snd_brk : SndS B T d .brk := by
  intro st ρ H Q z P vars sc L env A s V R hc h S
  obtain ⟨⟨p, rfl⟩, _⟩ := some_inv hc
  exact wpAny_Break ⟨z, .brk, ρ, H, zle.refl z, S, rfl, h⟩
theorem snd_cont : SndS B T d .cont := by
  intro st ρ H Q z P vars sc L env A s V R hc h S
  obtain ⟨⟨p, rfl⟩, _⟩ := some_inv hc
  exact wpAny_Continue ⟨z, .cont, ρ, H, zle.refl z, S, rfl, h⟩
theorem snd_pass : SndS B T d .pass := by
  intro st ρ H Q z P vars sc L env A s V R hc h S
  obtain ⟨⟨p, rfl⟩, _⟩ := some_inv hc
  exact wpAny_Pass ⟨z, .next, ρ, H, zle.refl z, S, rfl, h⟩
theorem snd_try (xs : SndSs B T d ss) : SndS B T d (.try1 ss) := by
  intro st ρ H Q z P vars sc L env A s V R hc h S
  obtain ⟨⟨⟨b, hs, o, f, p⟩, rfl⟩, hc⟩ := any_inv hc
  obtain ⟨h0, h1, h2, h3⟩ := ands4 hc
  cases nil_inv h1
  cases nil_inv h2
  cases hs with
  | nil => cases h0
  | cons a r =>
    refine wpAny_Try_except (wpAny_mono (xs _ _ _ _ _ _ _ _ _ _ _ _ V R h3 h S) (fun f s₁ hp => ?_) (fun xx xx => no _ _))
    cases f <;> first | exact wpAny_execs_nil hp | exact hp
theorem snd_asrt (xt : SndT B T d m) : SndS B T d (.asrt m) := by
  intro st ρ H Q z P vars sc L env A s V R hc h S
  obtain ⟨⟨⟨e, o, p⟩, rfl⟩, hc⟩ := any_inv hc
  obtain ⟨h0, h1⟩ := ands hc
  cases isSome0_inv h0
  exact wpAny_Assert_holds (xt.then V R h1 h S fun s₁ z₁ c H₁ le₁ S₁ hq => ⟨@decide_eq_true c.p c.i hq.1, z₁, .next, ρ, H₁, le₁, S₁, rfl, hq.2⟩)
theorem snd_sno {m : MS} (h : ∀ Q ρ H, ¬ vcS B T d m Q ρ H) : SndS B T d m := by
  intro st ρ H Q z P vars sc L env A s V R hc h' S
  exact (h _ _ _ h').elim
theorem snd_snil : SndSs B T d [] := by
  intro sts ρ H Q z P vars sc L env A s V R hc h S
  cases nil_inv hc
  exact wpAny_execs_nil ⟨z, .next, ρ, H, zle.refl z, S, rfl, h⟩
theorem snd_scons {m : MS} (xa : SndS B T d m) (xs : SndSs B T d ss) : SndSs B T d (m :: ss) := by
  intro sts ρ H Q z P vars sc L env A s V R hc h S
  cases sts with
  | nil => cases hc
  | cons st r =>
    obtain ⟨h1, h2⟩ := ands hc
    refine wpAny_execs_cons (wpAny_mono (xa _ _ _ (kseq (vcSs B T d ss) Q) _ _ _ _ _ _ _ _ V R h1 h S) (fun f s₁ hh => ?_) (fun xx xx => no _ _))
    obtain ⟨z₁, m, ρ₁, H₁, le₁, S₁, hm, hq⟩ := hh
    cases m with
    | next => cases hm; exact xs.out V R h2 hq S₁ le₁
    | cont => cases hm; exact ⟨z₁, .cont, ρ₁, H₁, le₁, S₁, rfl, hq⟩
    | brk => cases hm; exact ⟨z₁, .brk, ρ₁, H₁, le₁, S₁, rfl, hq⟩
    | ret v => obtain ⟨x, rfl, rx⟩ := hm; exact ⟨z₁, .ret v, ρ₁, H₁, le₁, S₁, ⟨x, rfl, rx⟩, hq⟩
mutual
theorem soundS (G : GoodB B) (GT : GoodT B T) : ∀ m : MS, SndS B T d m
  | .asg _ e => snd_asg (soundE G GT e).1
  | .asg2 _ _ e => snd_asg2 (soundE G GT e).1
  | .unp _ e => snd_unp (soundE G GT e).1
  | .aug _ _ e => snd_aug (soundE G GT e).1
  | .setattr a _ e => snd_sat GT (soundE G GT a).1 (soundE G GT e).1
  | .expr e => snd_expr (soundE G GT e).1
  | .ite t a b => snd_if (soundE G GT t).2 (soundSs G GT a) (soundSs G GT b)
  | .wh t a b => snd_wh (soundE G GT t).2 (soundSs G GT a) (soundSs G GT b)
  | .efor _ _ e b => snd_efor G (soundE G GT e).1 (soundSs G GT b)
  | .seti a k v => snd_seti (soundE G GT a).1 (soundE G GT k).1 (soundE G GT v).1
  | .for1 _ e b => snd_for (soundE G GT e).1 (soundSs G GT b)
  | .ret e => snd_ret (soundE G GT e).1
  | .brk => snd_brk
  | .cont => snd_cont
  | .pass => snd_pass
  | .try1 b => snd_try (soundSs G GT b)
  | .asrt t => snd_asrt (soundE G GT t).2
  | .bad => snd_sno fun xx xx xx h => h
theorem soundSs (G : GoodB B) (GT : GoodT B T) : ∀ ms : List MS, SndSs B T d ms
  | [] => snd_snil
  | m :: ms => snd_scons (soundS G GT m) (soundSs G GT ms)
end
end
end Mine
end
section
namespace Mine
open PySem PySem.W PySem.Calls PyProof.Rows PySem.Builtin PySem.Builtin.Str PySem.NumText
structure FnOK (B : Base) (fv : Value) (params : List Str) (np : Nat) (exP : List PV) (vars : List Str) (ms : List MS) : Prop where
  it : ∃ a o fd body exV, fv = .ref a ∧ B.heap.get? a = some o ∧ o.data = .func fd ∧ B.heap.CodeRec fd.code fd.qualname ∧ fd.body = .stmts body ∧
    fd.scope.isCoroutine = false ∧ fd.scope.isGenerator = false ∧ fd.scope.kind = .function ∧ fd.globals = mainGlobals ∧ fd.builtins = builtinsNs ∧
    (∀ x ∈ fd.scope.names, x.2 ≠ .cell) ∧ (∀ x ∈ vars, fd.scope.names.lookup x = some .local ∧ (x == ("__debug__" : Str)) = false) ∧
    RepL B B.heap.get? exP exV ∧ (∀ (s : Shared) (vals : List Value), BaseIn B s → vals.length = np → BindsTo s fd ⟨vals, []⟩ (params.zip (vals ++ exV))) ∧
    chkSs ms fd.scope vars body = true
  nd : vars.Nodup
  pre : ∃ r, vars = params ++ r
  len : params.length = np + exP.length
noncomputable def initLoc (ps : List PV) (n : Nat) : Loc := ps.map some ++ List.replicate (n - ps.length) none
noncomputable def kdef (Q : KE) : KS := fun f xx H' => match f with
  | .ret v => Q v H'
  | .next => Q .none H'
  | _ => False
theorem lookup_mem {α : Type} {k : Str} {v : α} : ∀ {l : List (Str × α)}, (l.map (·.1)).Nodup → (k, v) ∈ l → l.lookup k = some v
  | [], _, h => by simp at h
  | (a, b) :: r, nd, h => by
    simp only [List.map_cons, List.nodup_cons] at nd
    rcases List.mem_cons.mp h with h' | h'
    · cases h'; simp [List.lookup_cons]
    · have hne : k ≠ a := by
        intro e
        exact nd.1 (List.mem_map.mpr ⟨(k, v), h', e⟩)
      have : (k == a) = false := by simpa using hne
      simp only [List.lookup_cons, this]
      exact lookup_mem nd.2 h'
theorem bind_loc {B : Base} {z : PH} {vars params r : List Str} {ps : List PV} {vals : List Value} (nd : vars.Nodup) (hp : vars = params ++ r) (hl : params.length = ps.length) (hr : RepL B z ps vals) :
    LocRep B z vars (initLoc ps vars.length) (fun x => (params.zip vals).reverse.lookup x) := by
  intro i x p hx hi
  have hlen := hr.length
  unfold initLoc at hi
  rw [List.getElem?_append] at hi
  split at hi
  · rename_i hlt
    simp only [List.length_map] at hlt
    rw [List.getElem?_map, Option.map_eq_some_iff] at hi
    obtain ⟨q, hq, e⟩ := hi
    cases e
    obtain ⟨v, hv, rv⟩ := hr.get hq
    have hpx : params[i]? = some x := by
      rw [hp, List.getElem?_append_left (by lia)] at hx; exact hx
    have hz : (params.zip vals)[i]? = some (x, v) := List.getElem?_zip_eq_some.mpr ⟨hpx, hv⟩
    refine ⟨v, lookup_mem ?_ (List.mem_reverse.mpr (List.mem_of_getElem? hz)), rv⟩
    rw [List.map_reverse, List.map_fst_zip (by lia)]
    rw [hp] at nd
    exact ((List.reverse_perm _).nodup_iff).mpr (List.nodup_append.mp nd).1
  · exfalso
    rw [List.getElem?_replicate] at hi
    split at hi <;> cases hi
theorem FnOK.keep {B : Base} {fv : Value} {params : List Str} {np : Nat} {exP : List PV} {vars : List Str} {ms : List MS} (F : FnOK B fv params np exP vars ms) : KeepOk B fv := by
  obtain ⟨a, o, fd, body, exV, rfl, ho, hd, _⟩ := F.it
  intro A s E Q hb hq
  unfold keeperOf
  refine wpAny_bind (wpAny_load (hb a o ho) ?_)
  rw [hd]
  exact wpAny_pure (hq _ (.inl rfl))
noncomputable def CallCode (B : Base) (d : Nat) (fv : Value) (vs : List PV) (H : AH) (Q : PV → AH → Prop) : Prop :=
  ∀ z P s A vals, Room d A → StC B z P H s → RepL B z vs vals → codeAny (model B.prog B.w) A (.call fv ⟨vals, []⟩) (fun r s' => match r with | .ok (.ret v) => Post B P z Q v s' | .ok _ => False | .error e => NoExc e s') s
theorem CallCode.sem {B : Base} {d : Nat} {fv : Value} {vs : List PV} {H : AH} {Q : PV → AH → Prop} (h : CallCode B d fv vs H Q) : CallSem B d fv vs H Q :=
  fun z P s A vals R SC hr => wpAny_call (h z P s A vals R SC hr)
noncomputable def FlowPost (B : Base) (P z : PH) (Q : PV → AH → Prop) : Flow → Shared → Prop
  | .ret v => Post B P z Q v
  | .next => Post B P z Q .none
  | _ => fun xx => False
theorem callCore {B : Base} {d : Nat} (G : GoodB B) {fv : Value} {params : List Str} {np : Nat} {exP : List PV} {vars : List Str} {ms : List MS} (F : FnOK B fv params np exP vars ms)
    {vs : List PV} {H : AH} {Q : PV → AH → Prop} (hl : vs.length = np) {z P : PH} {s : Shared} {A : Around} {vals : List Value} {k : Nat} (R : Room (d + 1) A) (hkn : k ≤ np) (SC : StC B z P H { s with toks := s.toks + k }) (hr : RepL B z vs vals)
    (hx : ∀ {a : Addr} {o : Obj} {fd : FuncData} {body : List Stmt} {env : Env} {L : Addr} {s' : Shared} {A' : Around}, fv = .ref a → B.heap.get? a = some o → o.data = .func fd → fd.body = .stmts body → chkSs ms fd.scope vars body = true → env.code = fd.code → EnvOK B T env vars fd.scope L → Room d A' →
      St B z P vars L (initLoc (vs ++ exP) vars.length) H s' → wpAny (model B.prog B.w) A' (execs body env) (FlowPost B P z Q) NoExc s') :
    codeAny (model B.prog B.w) A (.call fv ⟨vals, []⟩) (fun r s' => match r with | .ok (.ret v) => Post B P z Q v s' | .ok _ => False | .error e => NoExc e s') s := by
  obtain ⟨a, o, fd, body, exV, rfl, ho, hd, hcr, hbody, hco, hgen, hk, hg, hbi, hcell, hloc, hex, hbind, hchk⟩ := F.it
  obtain ⟨r, hpre⟩ := F.pre
  have hvl : vals.length = np := by rw [← hl]; first | exact hr.length | exact hr.length.symm
  have hb : BaseIn B s := SC.bin
  have hlen : np ≤ (params.zip (vals ++ exV)).length := by
    rw [List.length_zip, List.length_append, F.len, ← hex.length, hvl, Nat.min_self]; exact Nat.le_add_right _ _
  refine codeAny_call_def R.lt (hb a o ho) hd (G.nolimit.keeps hb) (hcr.keeps hb) hbody (hbind s vals hb hvl) hcell (fun x hx => (hloc _ (by rw [hpre]; exact List.mem_append_left _ (List.of_mem_zip hx).1)).1) (fun h₀ hns hkeep => ?_) hco hgen hk
  refine wpAny_mono (hx rfl ho hd hbody hchk rfl ⟨rfl, hk, rfl, hg, hbi, hloc, F.nd, fun nm h => (hcell _ (mem_of_lookup h) rfl).elim, fun nm p a h => (hcell _ (mem_of_lookup h) rfl).elim⟩ ⟨R.h, R.nx.1, R.nx.2⟩
    ((SC.keeps (Nat.add_le_add_left (Nat.le_trans hkn hlen) _) hkeep).toSt SC.zfresh SC.pfresh SC.hfresh hns (bind_loc F.nd hpre (by rw [F.len, List.length_append, hl]) (hr.append (hex.mono SC.base))))) (fun f s' h => ?_) (fun xx xx => no _ _)
  cases f with
  | next => exact h
  | ret v => exact h
  | brk => exact h.elim
  | cont => exact h.elim
theorem callDefG {B : Base} {T : Tab} {d : Nat} (G : GoodB B) (GT : GoodT B T) {fv : Value} {params : List Str} {np : Nat} {exP : List PV} {vars : List Str} {ms : List MS} (F : FnOK B fv params np exP vars ms)
    {vs : List PV} {H : AH} {Q : PV → AH → Prop} (hl : vs.length = np)
    (h : vcSs B T d ms (kdef Q) (initLoc (vs ++ exP) vars.length) H) {z P : PH} {s : Shared} {A : Around} {vals : List Value} {k : Nat} (R : Room (d + 1) A) (hk : k ≤ np) (SC : StC B z P H { s with toks := s.toks + k }) (hr : RepL B z vs vals) :
    codeAny (model B.prog B.w) A (.call fv ⟨vals, []⟩) (fun r s' => match r with | .ok (.ret v) => Post B P z Q v s' | .ok _ => False | .error e => NoExc e s') s := by
  refine callCore (T := T) G F hl R hk SC hr fun xx xx xx xx hchk xx V R' S => ?_
  refine (soundSs G GT ms).then V R' hchk h S fun f s₁ z₁ m ρ₁ H₁ le₁ S₁ hm hq => ?_
  cases m with
  | next => cases hm; exact ⟨z₁, .none, H₁, le₁, S₁.c, rfl, hq⟩
  | ret v => obtain ⟨x, rfl, rx⟩ := hm; exact ⟨z₁, v, H₁, le₁, S₁.c, rx, hq⟩
  | brk => exact hq.elim
  | cont => exact hq.elim
theorem callDefC {B : Base} {T : Tab} {d : Nat} (G : GoodB B) (GT : GoodT B T) {fv : Value} {params : List Str} {np : Nat} {exP : List PV} {vars : List Str} {ms : List MS} (F : FnOK B fv params np exP vars ms)
    {vs : List PV} {H : AH} {Q : PV → AH → Prop} (hl : vs.length = np)
    (h : vcSs B T d ms (kdef Q) (initLoc (vs ++ exP) vars.length) H) : CallCode B (d + 1) fv vs H Q := fun xx xx xx xx xx R SC hr => callDefG (k := 0) G GT F hl h R (Nat.zero_le _) SC hr
theorem callDef {B : Base} {T : Tab} {d : Nat} (G : GoodB B) (GT : GoodT B T) {fv : Value} {params : List Str} {np : Nat} {exP : List PV} {vars : List Str} {ms : List MS} (F : FnOK B fv params np exP vars ms)
    {vs : List PV} {H : AH} {Q : PV → AH → Prop} (hl : vs.length = np)
    (h : vcSs B T d ms (kdef Q) (initLoc (vs ++ exP) vars.length) H) : CallSem B (d + 1) fv vs H Q := (callDefC G GT F hl h).sem
theorem CallSem.mono {B : Base} {d : Nat} {fv : Value} {vs : List PV} {H : AH} {Q Q' : PV → AH → Prop} (h : CallSem B d fv vs H Q) (hq : ∀ v H, Q v H → Q' v H) : CallSem B d fv vs H Q' :=
  fun z P s A vals R SC hr => wpAny_mono (h z P s A vals R SC hr) (fun _ _ hh => by obtain ⟨z', p, H', a, b, c, e⟩ := hh; exact ⟨z', p, H', a, b, c, hq _ _ e⟩) (fun xx xx x => x)
theorem CallSem.le {B : Base} {d d' : Nat} {fv : Value} {vs : List PV} {H : AH} {Q : PV → AH → Prop} (h : CallSem B d fv vs H Q) (hd : d ≤ d') : CallSem B d' fv vs H Q :=
  fun z P s A vals R SC hr => h z P s A vals ⟨R.h, by have := R.dep; lia, by have := R.un; lia⟩ SC hr
section
variable {B : Base} {K : Frag} {C p fI : Addr} {nm : Str} {i : Nat}
theorem att_slot (X : K.In B.heap) (hg : plainGet K C nm = true) (hc : isClsIn K C = true) (ha : findIn K (.ref C) nm = some (some (.ref p)))
    (hn : specialIn K (.ref p) "__get__" = some (some (.builtin "member_descriptor.__get__"))) (ht : takesIn K (.ref p) = some true) (hp : slotIn K p C = some i) : AttSem B C nm (.slot i) := by
  intro A E Q s x d sl v hb hx hd hv hh hq
  have X' := X.keeps hb
  have I : InstAt s.heap x ⟨.ref C, some d, .plain, sl⟩ C (some emptyDict) := ⟨hx, rfl, rfl, hd⟩
  exact get_bind X' I (plainGet_of hg).1 (findObj_data hc ha hn ht) (plainGet_of hg).2
    (wpAny_call (slot_get (s := { s with toks := s.toks + 1 }) X' I hp (by show (sl[i]?).join = some v; rw [hv]; rfl) (handed_on hh (hq _ (Nat.le_succ _)))))
theorem att_val {v0 : Value} {pv : PV} (X : K.In B.heap) (hg : plainGet K C nm = true) (hf : findObj K C (some emptyDict) nm = some (.value v0)) (hh : handedIn v0 = true) (hr : Rep B B.heap.get? pv v0) : AttSem B C nm (.val pv) := by
  intro A E Q s x d sl hb hx hd hq
  exact get_value (X.keeps hb) ⟨hx, rfl, rfl, hd⟩ (plainGet_of hg).1 hf hh (hq _ _ (Nat.le_succ _) hr)
theorem sat_slot (X : K.In B.heap) (hs : findIn K (.ref C) "__setattr__" = some (some (.builtin "object.__setattr__"))) (hp : plainOver K C = true) (ht : takerIn K C nm = some (some (.ref p)))
    (hT : typeIn K (.ref p) = some (.type "member_descriptor")) (hi : slotIn K p C = some i) (hz : i < 1000) : SatSem B C nm i := by
  intro A E Q s x d L m sl v hb hbx hx hd hn hxL hq
  have X' := X.keeps hb
  have I : InstAt s.heap x ⟨.ref C, some d, .plain, sl⟩ C (some emptyDict) := ⟨hx, rfl, rfl, hd⟩
  let pre : List (Addr × Obj) := (List.range s.heap.objs.size).filterMap fun b => if b = x ∨ b = L then none else (s.heap.get? b).map fun o => (b, o)
  have hpre : ∀ q ∈ pre, s.heap.get? q.1 = some q.2 ∧ q.1 ≠ x ∧ q.1 ≠ L := by
    intro q hq
    obtain ⟨b, _, hb⟩ := List.mem_filterMap.mp hq
    split at hb
    · cases hb
    · rename_i h
      obtain ⟨o, ho, rfl⟩ := Option.map_eq_some_iff.mp hb
      exact ⟨ho, fun e => h (.inl e), fun e => h (.inr e)⟩
  have hmem : ∀ b o, b ≠ x → b ≠ L → s.heap.get? b = some o → (b, o) ∈ pre := by
    intro b o h1 h2 ho
    refine List.mem_filterMap.mpr ⟨b, List.mem_range.mpr (Heap.lt_size ho), ?_⟩
    rw [if_neg (fun h => h.elim h1 h2), ho]; rfl
  have h0 : ∀ b, (({} : Heap).get? b) = none := fun b => by simp [Heap.get?]
  have F : Fr {} L s.heap m := ⟨hn, (fun b o e => by rw [h0] at e; cases e), Nat.zero_le _⟩
  have N : News {} L s.heap (pre ++ (x, (⟨.ref C, some d, .plain, sl⟩ : Obj)) :: []) := by
    intro q hq
    rcases List.mem_append.mp hq with h | h
    · exact ⟨(hpre q h).1, (hpre q h).2.2, h0 _⟩
    · rw [List.mem_singleton] at h; subst h; exact ⟨hx, hxL, h0 _⟩
  refine set_plain X' I hs (osa_descr (s := { s with toks := s.toks + 1 }) KF.slot_mset X' I hp ht hT
    (slot_set (s := { s with toks := s.toks + 1 }) F N X' I hi hz (fun q h => (hpre q h).2.1) (fun xx h => nomatch h) rfl rfl fun h' F' N' => ?_))
  refine hq h' (s.toks + 1) (Nat.le_succ _) (fun b o h1 h2 ho => (N' (b, o) (List.mem_append_left _ (hmem b o h1 h2 ho))).1) F'.ns ?_
  exact (N' (x, _) (List.mem_append_right _ (List.mem_singleton.mpr rfl))).1
theorem stat_fn {mc fv : Value} {cls : Str} (X : K.In B.heap) (hC : B.mg cls = some (.ref C)) (hg : specialIn K (.ref C) "__getattribute__" = some (some (.builtin "type.__getattribute__")))
    (hr : readsIn K C mc = true) (e : findCls K (.ref C) mc nm = some (.val fv)) (hh : handedIn fv = true) : StatSem B cls nm fv := by
  refine ⟨C, hC, fun A E Q s pl hb hq => ?_⟩
  have X' := X.keeps hb
  exact method_cls X' hg (cls_value X' hr e hh (hq _ (Nat.le_succ _)))
theorem cls_keep (X : K.In B.heap) (hm : makesIn K C = true) : KeepOk B (.ref C) := by
  intro A s E Q hb hq
  obtain ⟨⟨oc, od, cd, sl, ho, _⟩, _, _, _, _, hc, _⟩ := makes_of (M := model B.prog B.w) (X.keeps hb) hm
  unfold keeperOf
  refine wpAny_bind (wpAny_load ho ?_)
  dsimp only
  refine wpAny_bind (hc.here ?_)
  exact wpAny_pure (hq _ (.inr rfl))
theorem slots_full {z : PH} : ∀ {fs : List PV} {sl : List (Option Value)}, RepOL B z (fs.map some) sl → ∃ xs, sl = xs.map some ∧ RepL B z fs xs
  | [], _, h => by cases h; exact ⟨[], rfl, rfl⟩
  | f :: fs, _, ⟨v, vs, e, hv, h⟩ => by
    obtain ⟨x, e', hx⟩ := hv
    obtain ⟨xs, e'', hr⟩ := slots_full h
    subst e e' e''
    exact ⟨x :: xs, rfl, x, xs, rfl, hx, hr⟩
theorem callCls {d : Nat} (X : K.In B.heap) (hm : makesIn K C = true) (hi : findIn K (.ref C) "__init__" = some (some (.ref fI))) (hf : typeIn K (.ref fI) = some (.type "function"))
    {vs : List PV} {H : AH} {Q : PV → AH → Prop}
    (h : ∀ x, H x = none → CallCode B d (.ref fI) (.ref x :: vs) (H.upd x (.inst C [])) (fun v H' => v = .none ∧ ∃ fs : List PV, H' x = some (.inst C (fs.map some)) ∧ Q (.node C fs) (H'.del x))) :
    CallCode B (d + 1) (.ref C) vs H Q := by
  intro z P s A vals R SC hr
  obtain ⟨hp, g, dr, t, os⟩ := s
  have X' := X.keeps SC.bin
  have SC1 := SC.pushFrozen (o := emptyDict) rfl
  have hzd : zadd z hp.objs.size emptyDict hp.objs.size = some emptyDict := zadd_self _ _ _
  have SC2 := SC1.pushOwn (o := instObj C hp.objs.size) (x := .inst C []) rfl ⟨hp.objs.size, #[], rfl, hzd, rfl⟩
  have hfr := SC1.hfresh
  dsimp only at SC2 hfr
  rw [Heap.size_push] at SC2 hfr
  refine make_core (makes_of X' hm) (looks_findIn X' hi) (fun self => bind_fn X' self hf) (.inl rfl) ?_
  have R' : Room d (A.under (.builtin "type.__call__" ⟨.ref C :: vals, []⟩)) :=
    ⟨R.h, R.nx.1, Nat.le_trans (Nat.add_le_add_right (Nat.add_le_add_right (Nat.add_le_add_left (Nat.le_add_right 1 2) A.units) _) _) R.nx.2⟩
  refine codeAny_mono (h _ hfr _ P _ _ (.ref (hp.objs.size + 1) :: vals) R' SC2 ⟨_, _, rfl, rfl, hr.mono (zadd_le SC.zfresh)⟩) ?_
  rintro r s' hrs
  rcases r with e | (v | _ | _ | _) <;> first | exact hrs.elim | skip
  obtain ⟨z', p, H', le, S', rv, rfl, fs, hx, hq⟩ := hrs
  cases rv
  obtain ⟨hz, o, ho, dd, sl, rfl, hzd', hsl⟩ := S'.hin _ _ hx
  obtain ⟨xs, hxs, hrl⟩ := slots_full hsl
  have hP : P (hp.objs.size + 1) = none := by
    cases hP : P (hp.objs.size + 1) with
    | none => rfl
    | some o => have := (S'.pin _ o hP).2.2; rw [hx] at this; cases this
  refine ⟨rfl, _, .node C fs, H'.del _, ((zadd_le SC.zfresh).trans le).trans (zadd_le hz), (S'.drop _ (by rw [hx]; exact trivial)).freeze ho hz hP (by simp [AH.del]), ⟨_, dd, sl, xs, rfl, zadd_self _ _ _, zadd_le hz _ _ hzd', hxs, hrl.mono (zadd_le hz)⟩, hq⟩
end
noncomputable def Con (B : Base) (d : Nat) (nm : Str) (vs : List PV) (r : PV) : Prop :=
  ∃ fv, B.mg nm = some fv ∧ KeepOk B fv ∧ ∀ H, CallSem B d fv vs H (fun v H' => v = r ∧ H' = H)
structure FnAt (B : Base) (nm : Str) (params : List Str) (np : Nat) (exP : List PV) (vars : List Str) (ms : List MS) : Prop where
  it : ∃ fv, B.mg nm = some fv ∧ FnOK B fv params np exP vars ms
noncomputable def keq (r : PV) (H : AH) : KE := fun v H' => v = r ∧ H' = H
noncomputable def isRet (r : PV) (H : AH) : KS := kdef (keq r H)
theorem conDef {B : Base} {T : Tab} {d : Nat} (G : GoodB B) (GT : GoodT B T) {nm : Str} {params : List Str} {np : Nat} {exP : List PV} {vars : List Str} {ms : List MS} (F : FnAt B nm params np exP vars ms) {vs : List PV} {r : PV}
    (hl : vs.length = np) (h : ∀ H, vcSs B T d ms (isRet r H) (initLoc (vs ++ exP) vars.length) H) : Con B (d + 1) nm vs r := by
  obtain ⟨fv, hm, F⟩ := F.it
  exact ⟨fv, hm, F.keep, fun H => callDef G GT F hl (h H)⟩
theorem Con.le {B : Base} {d d' : Nat} {nm : Str} {vs : List PV} {r : PV} (h : Con B d nm vs r) (hd : d ≤ d') : Con B d' nm vs r :=
  by obtain ⟨fv, a, b, c⟩ := h; exact ⟨fv, a, b, fun H => (c H).le hd⟩
theorem Con.b {B : Base} {d : Nat} {nm : Str} {vs : List PV} {r : PV} (h : Con B d nm vs r) : ∃ fv, B.mg nm = some fv ∧ KeepOk B fv := by obtain ⟨fv, a, b, _⟩ := h; exact ⟨fv, a, b⟩
theorem Con.use {B : Base} {d : Nat} {nm : Str} {vs : List PV} {r : PV} (h : Con B d nm vs r) {H : AH} {Q : KE} (q : Q r H) : calB B d nm vs Q H := by
  obtain ⟨fv, a, b, c⟩ := h
  unfold calB
  exact ⟨fv, a, b, (c H).mono (by rintro _ _ ⟨rfl, rfl⟩; exact q)⟩
theorem upd_self (H : AH) (a : Addr) (o : AO) : (H.upd a o) a = some o := by simp [AH.upd]
theorem upd_upd (H : AH) (a : Addr) (o p : AO) : (H.upd a o).upd a p = H.upd a p := by
  funext b; unfold AH.upd; split <;> rfl
theorem del_upd {H : AH} {a : Addr} (h : H a = none) (o : AO) : (H.upd a o).del a = H := by
  funext b
  by_cases e : b = a
  · subst e; simp [AH.upd, AH.del, h]
  · simp [AH.upd, AH.del, e]
theorem drop_get {α : Type} {s : List α} {a : Nat} {c : α} (h : s[a]? = some c) : s.drop a = c :: s.drop (a + 1) := by
  obtain ⟨hl, rfl⟩ := List.getElem?_eq_some_iff.mp h
  exact List.drop_eq_getElem_cons hl
theorem drop_none {α : Type} {s : List α} {a : Nat} (h : s[a]? = none) : s.drop a = [] := List.drop_eq_nil_of_le (List.getElem?_eq_none_iff.mp h)
theorem take1_drop {s : List Nat} {a : Nat} : (s.drop a).take 1 = match s[a]? with | some c => [c] | none => [] := by
  cases h : s[a]? with
  | none => rw [drop_none h]; rfl
  | some c => rw [drop_get h]; rfl
theorem sw1 (s : List Nat) (c i : Nat) : startsAt s [c] i = decide (s[i]? = some c) := by
  unfold startsAt
  rw [Bool.eq_iff_iff]
  simp only [List.length_cons, List.length_nil, Bool.and_eq_true, beq_iff_eq, decide_eq_true_eq]
  rw [take1_drop]
  cases h : s[i]? with
  | none => simp
  | some x =>
    have := (List.getElem?_eq_some_iff.mp h).1
    simp; lia
noncomputable def chPV (ch : List (List Nat)) : List PV := ch.map PV.str
theorem chPV_snoc (ch : List (List Nat)) (x : List Nat) : chPV ch ++ [.str x] = chPV (ch ++ [x]) := by simp [chPV]
theorem chPV_len (ch : List (List Nat)) : (chPV ch).length = ch.length := by simp [chPV]
theorem allStr_chPV : ∀ ch : List (List Nat), allStr (chPV ch) = some ch
  | [] => rfl
  | x :: r => by
    show (allStr (chPV r)).map _ = _
    rw [allStr_chPV r]; rfl
theorem take_snoc {s : List Nat} {a p c : Nat} (h : s[p]? = some c) (ha : a ≤ p) : (s.drop a).take (p + 1 - a) = (s.drop a).take (p - a) ++ [c] := by
  rw [show p + 1 - a = p - a + 1 by lia, List.take_succ, List.getElem?_drop, show a + (p - a) = p by lia, h]; rfl
end Mine
end
section
namespace Mine
open PySem PySem.W PySem.Calls PyProof.Rows PySem.Builtin PySem.Builtin.Str PySem.NumText
section
variable {B : Base} {T : Tab} {d : Nat} {z P : PH} {vars : List Str} {L : Addr} {ρ : Loc} {H : AH} {s : Shared} {A : Around} {E : Value → Shared → Prop}
theorem keepsToks {s : Shared} {t : Nat} : Keeps s { s with toks := t } := ⟨s.heap, t, rfl, fun xx xx e => e⟩
theorem keepsTrans {s s' s'' : Shared} (a : Keeps s s') (b : Keeps s' s'') : Keeps s s'' := by
  obtain ⟨h, t, rfl, k⟩ := a
  obtain ⟨h', t', rfl, k'⟩ := b
  exact ⟨h', t', rfl, fun b o e => k' b o (k b o e)⟩
theorem ifG_inv {sc : Scope} {x : Str} {t : List Nat} {a b : GE} {e : Expr} (h : chkG sc x (.ifeq t a b) e = true) :
    ∃ p c k p2 p3 ea eb p4, e = .IfExp (.Compare (.Name x p) [.Eq] [.Constant c k p2] p3) ea eb p4 ∧ cPV (.str t) c = true ∧ chkG sc x a ea = true ∧ chkG sc x b eb = true := by
  obtain ⟨q, h⟩ := any_inv h
  obtain ⟨h1, h0, h2, h3, h4⟩ := ands5 h
  exact ⟨_, _, _, _, _, _, _, _, q.2.trans (congrArg (fun y => Expr.IfExp y _ _ _) (cmp_eq (congrArg (Expr.Name · _) (beq_iff_eq.mp h1)) (congrArg (fun z => [z]) (beq_iff_eq.mp h0)) rfl)), h2, h3, h4⟩
theorem getG_inv {sc : Scope} {x nm : Str} {ks vs : List (List Nat)} {e : Expr} (h : chkG sc x (.get nm ks vs) e = true) :
    ∃ p p1 p2 p3 p4, e = .Call (.Attribute (.Name nm p) ("get" : Str) p1) [.Name x p2, .Name x p3] [] p4 ∧ glb sc nm = true ∧ (p1.endLine == p4.line) = true := by
  obtain ⟨q, h⟩ := any_inv h
  obtain ⟨g0, g1, g2, g3, g4, h5, h6⟩ := ands7 h
  exact ⟨_, _, _, _, _, q.2.trans (call_eq (attr_eq (congrArg (Expr.Name · _) (beq_iff_eq.mp g1)) (beq_iff_eq.mp g2)) (two_eq (congrArg (Expr.Name · _) (beq_iff_eq.mp g3)) (congrArg (Expr.Name · _) (beq_iff_eq.mp g4))) (nil_inv g0)), h5, h6⟩
noncomputable def GEv (g : GE) (c : Nat) (s : Shared) : Value → Shared → Prop := fun y s₃ => (∃ t, y = .str (sOf (g.val c)) t) ∧ Keeps s s₃
section
variable {csc : Scope} {x : Str} {C : Addr} {cenv : Env} {c : Nat} {u : Tok} {m : Str → Option Value}
theorem nmG {p : Pos} {Q : Value → Shared → Prop} (V : EnvOK B T cenv [x] csc C) (hn : s.heap.Ns C m) (hx : m x = some (.str (sOf [c]) u)) (hq : Q (.str (sOf [c]) u) s) : wpAny (model B.prog B.w) A (eval (.Name x p) cenv) Q E s :=
  wpAny_Name (wpAny_loadName_local V.scope_kind (V.local List.mem_cons_self) (by rw [V.hL]; exact hn) hx hq) (V.loc _ List.mem_cons_self).2
theorem get_ok {nm : Str} {ks vs : List (List Nat)} {p p1 p2 p3 p4 : Pos} (G : GoodB B) (V : EnvOK B T cenv [x] csc C) (hu : A.units + 64 < cLine) (hc : c < 1114112) (ho : GE.ok B (.get nm ks vs)) (hb : BaseIn B s) (hn : s.heap.Ns C m) (hx : m x = some (.str (sOf [c]) u))
    (h5 : glb csc nm = true) (h6 : (p1.endLine == p4.line) = true) : wpAny (model B.prog B.w) A (eval (.Call (.Attribute (.Name nm p) ("get" : Str) p1) [.Name x p2, .Name x p3] [] p4) cenv) (GEv (.get nm ks vs) c s) E s := by
  obtain ⟨gv, hg, hr⟩ := ho
  have rc : Rep B B.heap.get? (.str [c]) (.str (sOf [c]) u) := ⟨sok_one hc, u, rfl⟩
  have hm := recv_type (f := .get) (o := .dct ks (vs.map .str)) (P := True) trivial hr hb
  refine wpAny_Call_method (base_plain rfl) rfl h6 F.plainAttrs_dict F.slot_dict_get F.type_dict_get (glob_ok V G hb h5 hg ⟨hm.1, hm.2.1, ?_⟩)
  refine callWith_builtin rfl (spliced_all rfl (spliced_cons (nmG V hn hx (spliced_cons (nmG V hn hx (spliced_nil ?_))))))
  refine methK_ok (f := .get) (ps := [.str [c], .str [c]]) (o := .dct ks (vs.map .str)) (K := fun r => r = (assocP [c] ks (vs.map .str)).getD (.str [c])) (Eq.refl ((assocP [c] ks (vs.map PV.str)).getD (PV.str [c]))) hr ⟨_, _, rfl, rc, _, _, rfl, rc, rfl⟩ hb hu fun r hr0 v t ht hv => ?_
  rw [hr0, assocS_P] at hv
  refine ⟨?_, s.heap, t, rfl, fun xx xx e => e⟩
  show ∃ t, v = .str (sOf ((assocS [c] ks vs).getD [c])) t
  cases hk : assocS [c] ks vs with
  | none => rw [hk] at hv; exact hv.2
  | some w => rw [hk] at hv; exact hv.2
theorem if_ok {t : List Nat} {a b : GE} {p p2 p3 p4 : Pos} {k : Nat} {cst : Const} {ea eb : Expr} (V : EnvOK B T cenv [x] csc C) (R : Room d A) (hc : c < 1114112) (hn : s.heap.Ns C m) (hx : m x = some (.str (sOf [c]) u)) (h2 : cPV (.str t) cst = true)
    (ha : ∀ t, wpAny (model B.prog B.w) A (eval ea cenv) (GEv a c { s with toks := t }) E { s with toks := t }) (hb : ∀ t, wpAny (model B.prog B.w) A (eval eb cenv) (GEv b c { s with toks := t }) E { s with toks := t }) :
    wpAny (model B.prog B.w) A (eval (.IfExp (.Compare (.Name x p) [.Eq] [.Constant cst k p2] p3) ea eb p4) cenv) (GEv (.ifeq t a b) c s) E s := by
  refine wpAny_IfExp (wpAny_isTrue_Compare1 (nmG V hn hx (const_ok (B := B) (z := fun xx => none) h2 fun v k ht hr => ?_)) rfl)
  refine cmpK_ok (z := fun xx => none) (op := .Eq) (a := .str [c]) (b := .str t) (K := fun x => x = ⟨[c] = t, inferInstance⟩) rfl ⟨sok_one hc, u, rfl⟩ hr (fun a o e => by cases e) R fun k' hk' ht' hle => wpAny_truthy_bool ?_
  subst hk'
  by_cases q : [c] = t
  · rw [show DP.dec ⟨[c] = t, inferInstance⟩ = true from decide_eq_true q, if_pos rfl]
    refine wpAny_mono (ha ht') (fun y s' h => ⟨?_, keepsTrans keepsToks h.2⟩) (fun xx xx e => e)
    rw [show GE.val (.ifeq t a b) c = a.val c from if_pos q]; exact h.1
  · rw [show DP.dec ⟨[c] = t, inferInstance⟩ = false from decide_eq_false q, if_neg Bool.false_ne_true]
    refine wpAny_mono (hb ht') (fun y s' h => ⟨?_, keepsTrans keepsToks h.2⟩) (fun xx xx e => e)
    rw [show GE.val (.ifeq t a b) c = b.val c from if_neg q]; exact h.1
theorem gE_ok (G : GoodB B) (V : EnvOK B T cenv [x] csc C) (R : Room d A) (hc : c < 1114112) (hx : m x = some (.str (sOf [c]) u)) {E : Value → Shared → Prop} (g : GE) : ∀ {e : Expr} {s : Shared},
    chkG csc x g e = true → g.ok B → BaseIn B s → s.heap.Ns C m → wpAny (model B.prog B.w) A (eval e cenv) (GEv g c s) E s := by
  induction g with
  | arg =>
    intro e s h _ _ hn
    obtain ⟨q, h⟩ := any_inv h
    rw [q.2, beq_iff_eq.mp h]
    exact nmG V hn hx ⟨⟨u, rfl⟩, s.heap, s.toks, rfl, fun xx xx e => e⟩
  | str t =>
    intro e s h _ _ _
    obtain ⟨q, h⟩ := any_inv h
    rw [q.2]
    refine const_ok (B := B) (z := fun xx => none) h fun v k ht hr => ?_
    exact ⟨hr.2, s.heap, k, rfl, fun xx xx e => e⟩
  | ifeq t a b iha ihb =>
    intro e s h ho hb hn
    obtain ⟨p, cst, k, p2, p3, ea, eb, p4, rfl, h2, h3, h4⟩ := ifG_inv h
    exact if_ok V R hc hn hx h2 (fun t => iha (s := { s with toks := t }) h3 ho.1 hb hn) (fun t => ihb (s := { s with toks := t }) h4 ho.2 hb hn)
  | get nm ks vs =>
    intro e s h ho hb hn
    obtain ⟨p, p1, p2, p3, p4, rfl, h5, h6⟩ := getG_inv h
    exact get_ok G V R.units hc ho hb hn hx h5 h6
end
theorem StC.growTbl {p : Addr} {c : Addr} {ps : Array Value} {h' : Heap} {t : Nat} {o : Obj} (S : StC B z P H s) (hH : H p = some (.tbl c p ps)) (ht : s.toks ≤ t) (hs : Heap.ExtBut p s.heap h') (ho : h'.get? p = some o) (hr : ORep B z o (.tbl c p ps)) :
    StC B z P H { s with heap := h', toks := t } := by
  have hz := (S.hin p _ hH).1
  have hp : P p = none := by
    cases h : P p with
    | none => rfl
    | some o => have := (S.pin p o h).2.2; rw [hH] at this; cases this
  refine ⟨S.base, fun b x e => ?_, fun b x e => ?_, fun b x e => ?_, S.os, S.gens, Nat.lt_of_lt_of_le S.tk.1 ht, S.tk.2⟩
  · exact hs b x (by rintro rfl; rw [hz] at e; cases e) (S.zin b x e)
  · have := S.pin b x e
    exact ⟨hs b x (by rintro rfl; rw [hp] at e; cases e) this.1, this.2⟩
  · obtain ⟨a1, oo, a2, a3⟩ := S.hin b x e
    by_cases q : b = p
    · subst q; rw [hH] at e; cases e; exact ⟨a1, o, ho, hr⟩
    · exact ⟨a1, oo, hs b _ q a2, a3⟩
theorem St.growTbl {p : Addr} {c : Addr} {ps : Array Value} {h' : Heap} {t : Nat} {o : Obj} (S : St B z P vars L ρ H s) (hH : H p = some (.tbl c p ps)) (ht : s.toks ≤ t) (hs : Heap.ExtBut p s.heap h') (ho : h'.get? p = some o) (hr : ORep B z o (.tbl c p ps)) :
    St B z P vars L ρ H { s with heap := h', toks := t } := by
  have hl : L ≠ p := by rintro rfl; have := S.lh; rw [hH] at this; cases this
  exact ⟨S.c.growTbl hH ht hs ho hr, S.lz, S.lp, S.lh, by obtain ⟨m, a1, a2⟩ := S.loc; exact ⟨m, a1.extBut hs hl, a2⟩⟩
theorem codeHead_isCode {c p : Addr} {ps : Array Value} {h : Heap} {z : PH} (K : CodeHead z c p) (hb : ∀ a o, z a = some o → h.get? a = some o) (ho : h.get? p = some { cls := .none, data := .fields ps }) (ht : TriplesOk ps.toList) :
    h.IsCode c p ps ∧ h.TableAt c p ps := by
  obtain ⟨hne, o, vs, file, tf, flags, tg, inF, text, tt, h1, h2, h3, h4, h5, h6, h7, h8, h9⟩ := K
  exact ⟨⟨o, vs, file, tf, flags, tg, inF, text, tt, _, hb _ _ h1, h3, h5, h6, h7, h8, h9, ho, rfl, ht, hne⟩, ⟨o, vs, hb _ _ h1, h2, h3, h4⟩, ho⟩
theorem genCode_ok {env : Env} {c p : Addr} {ps : Array Value} {pos : Pos} {qn : Str} {scope : Scope} {Q : Value → Shared → Prop} (S : St B z P vars L ρ H s) (hcode : env.code = .ref c) (ht : (c, p, ps) ∈ B.tabs)
    (hq : ∀ code h' t, s.toks ≤ t → Heap.ExtBut p s.heap h' → s.heap.objs.size ≤ h'.objs.size → St B z P vars L ρ H { s with heap := h', toks := t } → Q code { s with heap := h', toks := t }) :
    wpAny (model B.prog B.w) A (genexprCode env pos qn scope) Q E s := by
  have hH := S.c.tk.2 _ ht
  dsimp only at hH
  obtain ⟨hz, o, ho, K, more, rfl, htr⟩ := S.c.hin p _ hH
  obtain ⟨hic, hta⟩ := codeHead_isCode K (fun a o e => S.c.zin _ _ e) ho htr
  cases hnf : codeAmong pos (ps ++ more).toList with
  | some c' => exact wpAny_genexprCode_hit hcode hic hnf (hq _ s.heap s.toks (Nat.le_refl _) (fun xx xx xx e => e) (Nat.le_refl _) S)
  | none =>
    refine wpAny_with_toks (Nat.le_refl _) (wpAny_genexprCodeX hcode hic hta hnf fun c' h' tk hx hge hlt hic' hrec hta' hP htk => ?_)
    obtain ⟨_, _, _, _, _, _, _, _, _, op, _, _, _, _, _, _, _, g1, g2, g3, _⟩ := hic'
    rw [hta'.2] at g1
    cases g1
    refine hq _ h' tk htk hx (Nat.le_trans hge (Nat.le_of_lt hlt)) (S.growTbl hH htk hx hta'.2 ⟨K, more ++ #[rawInt pos.line, rawInt pos.col, .ref c'], by rw [Array.append_assoc], ?_⟩)
    cases g2
    rw [← Array.append_assoc]; exact g3
noncomputable def GoodM (B : Base) : Prop := ∃ bm o, B.mg "__builtins__" = some (.ref bm) ∧ bm ≠ builtinsNs ∧ B.heap.get? bm = some o ∧ o.cls = .type "module" ∧ o.dict = some builtinsNs ∧ o.data = .plain
theorem St.retok {t : Nat} (S : St B z P vars L ρ H s) (h : 0 < t) : St B z P vars L ρ H { s with toks := t } :=
  ⟨⟨S.c.base, S.c.zin, S.c.pin, S.c.hin, S.c.os, S.c.gens, h, S.c.tk.2⟩, S.lz, S.lp, S.lh, S.loc⟩
theorem range_get? (n j : Nat) : (List.range n)[j]? = if j < n then some j else none := by
  by_cases h : j < n
  · simp [h]
  · simp [h]
theorem passing_all (n : Nat) : passing (fun xx => true) n 0 = List.range n := by
  unfold passing; simp
theorem flat_len {f : Nat → List Nat} (w : List Nat) : (∀ k ∈ w, (f k).length ≤ 100) → (w.flatMap f).length ≤ 100 * w.length := by
  induction w with
  | nil => intro _; exact Nat.le_refl _
  | cons a r ih =>
    intro h
    have h1 := h a List.mem_cons_self
    have h2 := ih fun k hk => h k (List.mem_cons_of_mem _ hk)
    rw [List.flatMap_cons, List.length_append, List.length_cons]
    lia
theorem join_words {v : List Nat} {g : GE} {n : Nat} {l : List (Str × Tok)} (h1 : (strValues l).length = (passing (fun xx => true) n 0).length) (hn : n = v.length)
    (h2 : ∀ (j : Nat) (y : Value), (strValues l)[j]? = some y → ∃ i, (passing (fun xx => true) n 0)[j]? = some i ∧ ∃ k t, v[i]? = some k ∧ y = Value.str (sOf (g.val k)) t) : l.map (·.1) = (v.map g.val).map sOf := by
  subst hn
  rw [passing_all] at h1 h2
  have hsz : l.length = v.length := by simpa [strValues] using h1
  refine List.ext_getElem? fun j => ?_
  by_cases hj : j < v.length
  · have hj' : j < l.length := hsz ▸ hj
    obtain ⟨i, hi1, k, t, hk, e⟩ := h2 j (.str l[j].1 l[j].2) (by simp [strValues, List.getElem?_eq_getElem hj'])
    rw [range_get?, if_pos hj] at hi1
    obtain rfl := Option.some.inj hi1
    rw [List.getElem?_map, List.getElem?_eq_getElem hj', List.map_map, List.getElem?_map, hk]
    exact congrArg some (Value.str.inj e).1
  · rw [List.getElem?_eq_none (by rw [List.length_map, hsz]; exact Nat.le_of_not_lt hj), List.getElem?_eq_none (by rw [List.length_map, List.length_map]; exact Nat.le_of_not_lt hj)]
theorem genjoin_core {c p : Addr} {ps : Array Value} {sc : Scope} {env : Env} {i : Nat} {v : List Nat} {g : GE} {o elt : Expr} {x vn : Str} {px ip gp apos pos : Pos} {csc : Scope} {Q : PV → AH → Prop}
    (G : GoodB B) (GM : GoodM B) (V : EnvOK B T env vars sc L) (R : Room (d + 1) A) (S : St B z P vars L ρ H s) (hcode : env.code = .ref c) (htab : (c, p, ps) ∈ B.tabs)
    (ho : ∃ k p0, o = .Constant (.str (sOf [])) k p0) (h4 : (apos.endLine == pos.line) = true) (hc : chkG csc x g elt = true) (hg : g.ok B) (hco : compOk0 csc x = true) (hcr : csc.isCoroutine = false) (h0 : csc.names.lookup (".0" : Str) = some NameKind.local)
    (hv : getL ρ i = some (.str v)) (hi : locOk vars i vn = true) (hlen : v.length ≤ 100000) (hval : ∀ k ∈ v, (g.val k).length ≤ 100 ∧ ∀ y ∈ g.val k, y < 1114112)
    (hq : Q (.str (v.flatMap g.val)) H) :
    wpAny (model B.prog B.w) A (eval (.Call (.Attribute o ("join" : Str) apos) [.GeneratorExp elt [⟨.Name x px, .Name vn ip, [], 0⟩] csc gp] [] pos) env) (PE B P vars L ρ z Q) E s := by
  obtain ⟨k0, p0, rfl⟩ := ho
  have C := compOk_ok hco
  have hfree : ∀ y ∈ csc.names, y.2 ≠ .free := fun y hy e => nomatch C.free y hy e
  obtain ⟨bm, ob, b1, b2, b3, b4, b5, b6⟩ := GM
  refine wpAny_with_toks (n := s.toks) (Nat.le_refl _) ?_
  refine wpAny_Call_method (base_plain rfl) rfl h4 F.plainAttrs_str F.slot_str_join F.type_str_join ?_
  refine const_ok (B := B) (z := z) (v := .str []) rfl fun ov t0 ht0 rov => ?_
  obtain ⟨_, u0, rfl⟩ := rov
  have S0 := S.toks ht0
  refine And.intro (typeIs_str _ _ _) (And.intro (fun a e => nomatch e) ?_)
  refine callWith_builtin rfl (spliced_all rfl (spliced_cons ?_))
  have hdep : A.depth < recursionLimit := R.lt
  refine wpAny_GeneratorExp_walksQD R.h hcr (closure_none hfree) C.cell h0 C.hx C.kind hdep ?_ (fun xx => rfl)
  refine var_ok V S0 hi hv fun xv rxv => ?_
  obtain ⟨sv, tv, rfl⟩ := rxv
  refine wpAny_pyIter_str fun oI StI W hst => ?_
  dsimp only
  generalize hI : s.heap.objs.size = I at *
  have S1 := S0.keeps (t := t0) (h' := s.heap.push oI) (Nat.le_refl _) fun xx xx e => Heap.get?_push_of_some oI e
  have hb1 := S1.c.bin
  refine ⟨G.nolimit.keeps hb1, genCode_ok S1 hcode htab fun code h3 t3 ht3 hx3 hsz3 S3 => ?_⟩
  have hb3 := S3.c.bin
  have hpI : p ≠ I := by
    have hH := S.c.tk.2 _ htab
    obtain ⟨_, o', ho', _⟩ := S.c.hin p _ hH
    rw [← hI]; exact Nat.ne_of_lt (Heap.lt_size ho')
  have hsz1 : (s.heap.push oI).objs.size = I + 1 := by rw [Heap.size_push, hI]
  have hI3 : I < h3.objs.size := Nat.lt_of_lt_of_le (by show I < (s.heap.push oI).objs.size; rw [hsz1]; exact Nat.lt_succ_self _) hsz3
  refine wpAny_builtinsFor (by rw [V.g]; exact G.mg.keeps hb3) b1 b2 (hb3 _ _ b3) b4 b5 b6 ?_
  have hst3 : StI 0 h3 := (W A R.h).frame _ _ _ hst fun b hb o e => by
    rw [List.mem_singleton] at hb; subst hb
    exact hx3 _ o (Ne.symm hpI) e
  have hcs : cStatics < I := by
    obtain ⟨_, hn, _⟩ := G.nolimit
    have := (hn.keeps S.c.bin).lt
    rw [← hI]; exact this
  have VC : EnvOK B T (genEnv csc [] h3.objs.size code builtinsNs env) [x] csc h3.objs.size := by
    refine ⟨rfl, C.kind, rfl, V.g, rfl, fun y hy => ?_, by simp, fun nm h => (C.cell _ (mem_of_lookup h) rfl).elim, fun nm p a h => (C.cell _ (mem_of_lookup h) rfl).elim⟩
    rw [List.mem_singleton] at hy; subst hy
    exact ⟨C.hx, C.dbg⟩
  refine ⟨I, [I], [I], (sOf v).cps.size, SignAt (sOf v), StI, fun xx => true, fun j y => ∃ k t, v[j]? = some k ∧ y = .str (sOf (g.val k)) t, rfl, W, hst3, ?_, G.nolimit.keeps hb3, ?_, ?_, ?_⟩
  · intro b hb
    rw [List.mem_singleton] at hb; subst hb; exact hI3
  · intro hm
    rw [List.mem_singleton] at hm; rw [hm] at hcs; exact Nat.lt_irrefl _ hcs
  · intro href hh
    refine ⟨fun A' E' j y s2 m2 hA hD hU hP hn hx hk => wpAny_pure ⟨rfl, s2.heap, s2.toks, rfl, fun xx xx e => e⟩, fun A' E' j y s2 m2 hA hD hU hP xx hn hx hk => ?_⟩
    obtain ⟨k, u, hk1, rfl⟩ := hP
    have hk2 : v[j]? = some k := by simpa using hk1
    have R' : Room d A' := ⟨hA, by have := R.dep; omega, by have := R.un; omega⟩
    refine wpAny_mono (gE_ok G VC R' (sv.1 k (List.mem_of_getElem? hk2)) hx g hc hg (fun a o e => ?_) hn) ?_ (fun xx xx e => e)
    · have hl := Heap.lt_size (hb3 a o e)
      refine hk a (List.mem_range.mpr hl) ?_ o (hh _ _ (hb3 a o e))
      intro hm
      rw [List.mem_singleton] at hm
      have := Heap.lt_size (S.c.bin a o e)
      rw [hI, hm] at this
      exact Nat.lt_irrefl _ this
    · rintro y s3 ⟨⟨t, rfl⟩, hkp⟩
      exact ⟨⟨k, t, hk2, rfl⟩, hkp⟩
  · intro a h5 tk gs hgb hag hsz5 hk5 W5 hat
    refine spliced_nil ?_
    have hn : (passing (fun xx => true) (sOf v).cps.size 0).length = v.length := by rw [passing_all]; simp
    have hz : zle z z := zle.refl z
    refine SC.joinGen W5.in4_2 (fun i s' st => st.1.typeIs) hat ?_ List.mem_cons_self (fun j y hy => ?_) (fun s' l hm hacc => ?_) ?_
    · intro b hb
      show b < h5.objs.size
      rw [hsz5]
      rcases List.mem_cons.mp hb with rfl | hb
      · exact Nat.lt_succ_self _
      · rcases List.mem_cons.mp hb with rfl | hb
        · exact Nat.lt_succ_of_lt hag
        · exact Nat.lt_succ_of_lt (Nat.lt_trans (List.mem_range.mp hb) hag)
    · obtain ⟨i, _, k, t, _, rfl⟩ := hy
      exact ⟨_, _, rfl⟩
    · have hl := join_words (v := v) (g := g) hacc.1 (by simp) (fun j y e => hacc.2 j y ((List.getElem?_toArray ..).trans e))
      have hfl : (v.map g.val).flatten = v.flatMap g.val := by rw [List.flatMap_def]
      have hL := flat_len v fun k hk => (hval k hk).1
      rw [hl]
      refine ⟨?_, fun t' k hk => ?_⟩
      · unfold JoinOk
        rw [fold_len, Nat.zero_add, hfl]
        unfold tooLong
        rw [sizeLine_is, Bool.not_eq_true', decide_eq_false_iff_not]
        omega
      · have hj : Txt.join (sOf []) ((v.map g.val).map sOf) = sOf (v.flatMap g.val) := by
          show glued _ _ = _
          rw [glued_empty, hfl]
        rw [hj]
        have hzI : z I = none := by rw [← hI]; exact S.c.zfresh
        have hPI : P I = none := by rw [← hI]; exact S.c.pfresh
        have hHI : H I = none := by rw [← hI]; exact S.c.hfresh
        have hLI : L ≠ I := by rw [← hI]; exact Nat.ne_of_lt S.llt
        have hkk : 0 < k := Nat.lt_of_lt_of_le S.c.tk.1 hk
        have S6 := (S3.retok hkk).chg (a := I) (P' := P) (h' := s'.heap) (t := k) (fun xx xx e => e) hPI hzI hHI hLI (Nat.le_refl _) fun b o hb hbo => ?_
        · exact ⟨z, .str (v.flatMap g.val), H, hz, S6.ofHeap (s' := { s' with toks := k }) rfl (hm.os.trans rfl) ((S3.c.gens.push hgb).moved hm.gens) (Nat.le_refl _), ⟨⟨fun y hy => by
            obtain ⟨k, hk, hy⟩ := List.mem_flatMap.mp hy
            exact (hval k hk).2 y hy, by omega⟩, t', rfl⟩, hq⟩
        · refine hm.heap b o (fun hmem => ?_) (hk5 b o hbo)
          rcases List.mem_cons.mp hmem with e | hmem
          · exact Nat.lt_irrefl _ (e ▸ Heap.lt_size hbo)
          · rw [List.mem_singleton] at hmem; exact hb hmem
    · rw [hn, sizeLine_is]; omega
structure JoinFn (B : Base) (fv : Value) (g : GE) (vn : Str) (c p : Addr) (ps : Array Value) : Prop where
  fn : FnOK B fv [vn] 1 [] [vn] [.ret .bad]
  tab : (c, p, ps) ∈ B.tabs
  it : ∀ a o fd, fv = .ref a → B.heap.get? a = some o → o.data = .func fd → fd.code = .ref c ∧ ∀ body, fd.body = .stmts body → joinChk g vn body = true
  ok : g.ok B
theorem joinChk_inv {g : GE} {vn : Str} {body : List Stmt} (h : joinChk g vn body = true) : ∃ k p0 apos elt x px ip csc gp pos rp,
    body = [.Return (some (.Call (.Attribute (.Constant (.str (sOf [])) k p0) ("join" : Str) apos) [.GeneratorExp elt [⟨.Name x px, .Name vn ip, [], 0⟩] csc gp] [] pos)) rp] ∧ (apos.endLine == pos.line) = true ∧ chkG csc x g elt = true ∧ compOk0 csc x = true ∧ csc.isCoroutine = false ∧ csc.names.lookup (".0" : Str) = some NameKind.local := by
  obtain ⟨q, h⟩ := any_inv h
  obtain ⟨k1, k2⟩ := ands h
  obtain ⟨j0, j1, j2, j3, j4⟩ := ands5 k1
  obtain ⟨j5, j6, j7, j8⟩ := ands4 k2
  exact ⟨_, _, _, _, _, _, _, _, _, _, _, q.2.trans (congrArg (fun z => [Stmt.Return (some z) _]) (call_eq (attr_eq (congrArg (fun z => Expr.Constant (.str z) _ _) (beq_iff_eq.mp j1)) (beq_iff_eq.mp j2)) (congrArg (fun z => [Expr.GeneratorExp _ [⟨_, .Name z _, [], 0⟩] _ _]) (beq_iff_eq.mp j3)) (nil_inv j0))), j4, j5, j6, nots j7, beq_iff_eq.mp j8⟩
theorem callJoin (G : GoodB B) (GM : GoodM B) {fv : Value} {g : GE} {vn : Str} {c p : Addr} {ps : Array Value} (F : JoinFn B fv g vn c p ps) {v : List Nat} (hlen : v.length ≤ 100000) (hval : ∀ k ∈ v, (g.val k).length ≤ 100 ∧ ∀ y ∈ g.val k, y < 1114112) (H : AH) :
    CallSem B (d + 2) fv [.str v] H (fun r H' => r = .str (v.flatMap g.val) ∧ H' = H) := by
  refine CallCode.sem fun z P s A vals R SC hr => callCore (T := ⟨fun xx xx => none, fun xx xx => none, fun xx xx => none, fun xx => none⟩) (k := 0) G F.fn rfl R (Nat.zero_le _) SC hr fun ha ho hd hbody xx hc V R' S => ?_
  obtain ⟨hcode, hjn⟩ := F.it _ _ _ ha ho hd
  obtain ⟨k0, p0, apos, elt, x, px, ip, csc, gp, pos, rp, rfl, j4, j5, j6, j7, j8⟩ := joinChk_inv (hjn _ hbody)
  refine wpAny_execs_cons (wpAny_Return_some (wpAny_mono (genjoin_core (E := NoExc) (Q := fun r H' => r = .str (v.flatMap g.val) ∧ H' = H) (i := 0) (v := v) G GM V R' S (hc.trans hcode) F.tab ⟨_, _, rfl⟩ j4 j5 F.ok j6 j7 j8 rfl (loc1 _) hlen hval ⟨rfl, rfl⟩) ?_ (fun xx xx => no _ _)))
  rintro y s₁ ⟨z₁, r, H₁, le₁, S₁, ry, hq⟩
  exact ⟨z₁, r, H₁, le₁, S₁.c, ry, hq⟩
theorem conJoin (G : GoodB B) (GM : GoodM B) {nm : Str} {fv : Value} {g : GE} {vn : Str} {c p : Addr} {ps : Array Value} (hm : B.mg nm = some fv) (F : JoinFn B fv g vn c p ps) {v : List Nat} (hlen : v.length ≤ 100000) (hval : ∀ k ∈ v, (g.val k).length ≤ 100 ∧ ∀ y ∈ g.val k, y < 1114112) :
    Con B (d + 2) nm [.str v] (.str (v.flatMap g.val)) := ⟨fv, hm, F.fn.keep, callJoin G GM F hlen hval⟩
end
end Mine
end
section
namespace Mine
open PySem PySem.W PySem.Calls PyProof.Rows PySem.Builtin PySem.Builtin.Str PySem.NumText
noncomputable def rb (B : Base) (h : Heap) : Base := { B with heap := h }
section
variable {B : Base} {h : Heap} {z P : PH}
mutual
theorem Rep.up : ∀ {p : PV} {v : Value}, Rep B z p v → Rep (rb B h) z p v
  | .none, _, r => r
  | .bool _, _, r => r
  | .int _, _, r => r
  | .str _, _, r => r
  | .tup _, _, r => by obtain ⟨a, n, xs, h1, h2, h3, h4⟩ := r; exact ⟨a, n, xs, h1, h2, RepL.up h3, h4⟩
  | .lst _, _, r => by obtain ⟨a, n, xs, h1, h2, h3, h4⟩ := r; exact ⟨a, n, xs, h1, h2, RepL.up h3, h4⟩
  | .node _ _, _, r => by obtain ⟨a, d, sl, xs, h1, h2, h5, h3, h4⟩ := r; exact ⟨a, d, sl, xs, h1, h2, h5, h3, RepL.up h4⟩
  | .dct _ _, _, r => by obtain ⟨a, xs, h1, h2, h3, h4, h5⟩ := r; exact ⟨a, xs, h1, h2, h3, RepL.up h4, h5⟩
  | .tdc _ _, _, r => by obtain ⟨a, xs, h1, h2, h3, h4⟩ := r; exact ⟨a, xs, h1, h2, RepL.up h3, h4⟩
  | .ref _, _, r => r
theorem RepL.up : ∀ {ps : List PV} {vs : List Value}, RepL B z ps vs → RepL (rb B h) z ps vs
  | [], _, r => r
  | _ :: _, _, r => by obtain ⟨v, vs, h1, h2, h3⟩ := r; exact ⟨v, vs, h1, Rep.up h2, RepL.up h3⟩
end
theorem Rep.dn {p : PV} {v : Value} (r : Rep (rb B h) z p v) : Rep B z p v := Rep.up (B := rb B h) (h := B.heap) r
theorem RepOL.up : ∀ {ps : List (Option PV)} {vs : List (Option Value)}, RepOL B z ps vs → RepOL (rb B h) z ps vs
  | [], _, r => r
  | none :: _, _, r => by obtain ⟨v, vs, h1, h2, h3⟩ := r; exact ⟨v, vs, h1, h2, RepOL.up h3⟩
  | some _ :: _, _, r => by obtain ⟨v, vs, h1, ⟨x, h2, h4⟩, h3⟩ := r; exact ⟨v, vs, h1, ⟨x, h2, Rep.up h4⟩, RepOL.up h3⟩
theorem ORep.up {o : Obj} : ∀ {x : AO}, ORep B z o x → ORep (rb B h) z o x
  | .list _, r => by obtain ⟨n, xs, a, b, c⟩ := r; exact ⟨n, xs, a, b.up, c⟩
  | .dict _ _, r => by obtain ⟨es, ep, xs, a, b, c, d, e, f, g, i⟩ := r; exact ⟨es, ep, xs, a, b, c, d, e, f, g.up, i⟩
  | .tdict _ _, r => by obtain ⟨es, ep, xs, a, b, c, d⟩ := r; exact ⟨es, ep, xs, a, b, c.up, d⟩
  | .inst _ _, r => by obtain ⟨d, sl, a, e, b⟩ := r; exact ⟨d, sl, a, e, RepOL.up b⟩
  | .tbl _ _ _, r => r
theorem StC.up {H : AH} {s : Shared} (S : StC B z P H s) (hb : ∀ a o, h.get? a = some o → z a = some o) : StC (rb B h) z P H s :=
  ⟨hb, S.zin, S.pin, fun a x e => by obtain ⟨h1, o, h2, h3⟩ := S.hin a x e; exact ⟨h1, o, h2, h3.up⟩, S.os, S.gens, S.tk⟩
theorem StC.dn {H : AH} {s : Shared} (S : StC (rb B h) z P H s) (hb : ∀ a o, B.heap.get? a = some o → z a = some o) : StC B z P H s := StC.up (B := rb B h) (h := B.heap) S hb
variable (hx : ∀ a o, B.heap.get? a = some o → h.get? a = some o)
include hx
theorem BaseIn.dn {s : Shared} (b : BaseIn (rb B h) s) : BaseIn B s := fun a o e => b a o (hx a o e)
theorem GoodB.up (G : GoodB B) : GoodB (rb B h) := by
  obtain ⟨o, ho⟩ := G.sysm
  exact ⟨G.mg.keeps hx, G.mb.keeps hx, G.nolimit.keeps hx, G.bi, G.en, ⟨o, hx _ o ho⟩⟩
theorem free_dn {x : Addr} (e : h.get? x = none) : B.heap.get? x = none := by
  cases q : B.heap.get? x with
  | none => rfl
  | some o => rw [hx x o q] at e; cases e
theorem GoodT.up {T : Tab} (G : GoodT B T) {c : Str → Option PV} : GoodT (rb B h) { T with cel := c } := by
  refine ⟨fun c nm r e => ?_, fun c nm i e => ?_, fun c nm v e => ?_⟩
  · have := G.att c nm r e
    cases r with
    | slot i => exact fun A E Q s x d sl v hb => this A E Q s x d sl v (BaseIn.dn hx hb)
    | val p => exact fun A E Q s x d sl hb h1 h2 hq => this A E Q s x d sl (BaseIn.dn hx hb) h1 h2 fun v t ht r => hq v t ht (r.mono hx).up
  · exact fun A E Q s x d L m sl v hb hf => G.sat c nm i e A E Q s x d L m sl v (BaseIn.dn hx hb) (free_dn hx hf)
  · obtain ⟨C, h1, h2⟩ := G.stat c nm v e
    exact ⟨C, h1, fun A E Q s pl hb => h2 A E Q s pl (BaseIn.dn hx hb)⟩
end
noncomputable def cutz (h : Heap) (z : PH) : Heap := { h with objs := h.objs.mapIdx fun a o => if (z a).isSome then o else { o with data := .freed } }
theorem cutz_get {h : Heap} {z : PH} (zi : ∀ a o, z a = some o → h.get? a = some o) (a : Addr) : (cutz h z).get? a = z a := by
  unfold cutz Heap.get?
  simp only [Array.getElem?_mapIdx]
  cases hz : z a with
  | some o =>
    have := zi a o hz
    unfold Heap.get? at this
    cases ho : h.objs[a]? with
    | none => rw [ho] at this; cases this
    | some x => rw [ho] at this; rw [Option.map_some]; exact this
  | none =>
    cases ho : h.objs[a]? with
    | none => rfl
    | some x => obtain ⟨c, d, dt, sl⟩ := x; rfl
end Mine
end
section
namespace Mine
open PySem PySem.W PySem.Calls PyProof.Rows PySem.Builtin PySem.Builtin.Str PySem.NumText
structure FnOKc (B : Base) (fv : Value) (x cn y : Str) (vars : List Str) (ms : List MS) : Prop where
  it : ∃ a o fd body, fv = .ref a ∧ B.heap.get? a = some o ∧ o.data = .func fd ∧ B.heap.CodeRec fd.code fd.qualname ∧ fd.body = .stmts body ∧
    fd.scope.isCoroutine = false ∧ fd.scope.isGenerator = false ∧ fd.scope.kind = .function ∧ fd.globals = mainGlobals ∧ fd.builtins = builtinsNs ∧ fd.closure = [] ∧
    (∀ k ∈ fd.scope.names, k.2 = .cell → k.1 = cn) ∧ fd.scope.names.lookup cn = some .cell ∧ (∀ k ∈ vars, fd.scope.names.lookup k = some .local ∧ (k == ("__debug__" : Str)) = false) ∧
    (∀ u v w, bindArgs fd ⟨[u, v, w], []⟩ = pure [(x, u), (cn, v), (y, w)]) ∧ chkSs ms fd.scope vars body = true
  nd : vars.Nodup
  pre : ∃ r, vars = x :: y :: r
theorem FnOKc.up {B : Base} {h : Heap} {fv : Value} {x cn y : Str} {vars : List Str} {ms : List MS} (hx : ∀ a o, B.heap.get? a = some o → h.get? a = some o) (F : FnOKc B fv x cn y vars ms) : FnOKc (rb B h) fv x cn y vars ms := by
  obtain ⟨a, o, fd, body, h1, h2, h3, h4, h5⟩ := F.it
  exact ⟨⟨a, o, fd, body, h1, hx _ _ h2, h3, h4.keeps hx, h5⟩, F.nd, F.pre⟩
theorem FnOKc.keep {B : Base} {fv : Value} {x cn y : Str} {vars : List Str} {ms : List MS} (F : FnOKc B fv x cn y vars ms) : KeepOk B fv := by
  obtain ⟨a, o, fd, body, rfl, ho, hd, _⟩ := F.it
  intro A s E Q hb hq
  unfold keeperOf
  refine wpAny_bind (wpAny_load (hb a o ho) ?_)
  rw [hd]
  exact wpAny_pure (hq _ (.inl rfl))
theorem cells_mono {k : Str} : ∀ (l : List (Str × NameKind)) (n : Nat) (acc : List (Str × Addr)), (acc.lookup k).isSome = true → ((cellsFrom n l acc).lookup k).isSome = true
  | [], _, _, h => h
  | (m, kd) :: l, n, acc, h => by
    unfold cellsFrom
    by_cases e : (kd == NameKind.cell) = true
    · rw [if_pos e]
      refine cells_mono l _ _ ?_
      rw [List.lookup_cons]
      cases k == m with
      | true => rfl
      | false => exact h
    · rw [if_neg e]; exact cells_mono l _ _ h
theorem cells_has {k : Str} : ∀ (l : List (Str × NameKind)) (n : Nat) (acc : List (Str × Addr)), (k, NameKind.cell) ∈ l → ((cellsFrom n l acc).lookup k).isSome = true
  | (m, kd) :: l, n, acc, h => by
    unfold cellsFrom
    rcases List.mem_cons.mp h with e | h
    · cases e
      rw [if_pos (show (NameKind.cell == NameKind.cell) = true from rfl)]
      refine cells_mono l _ _ ?_
      rw [List.lookup_cons, beq_self_eq_true]; rfl
    · by_cases e : (kd == NameKind.cell) = true
      · rw [if_pos e]; exact cells_has l _ _ h
      · rw [if_neg e]; exact cells_has l _ _ h
theorem env_cell {M : Model} {A : Around} {E : Value → Shared → Prop} {s : Shared} {scope : Scope} {globals : Addr} {x cn y : Str} {v0 vm v2 : Value} {qual : Str} {func : Option Addr} {code : Value} {builtins : Addr} {Q : Env → Shared → Prop}
    (hk : scope.kind = .function) (hx : scope.names.lookup x = some .local) (hcn : scope.names.lookup cn = some .cell) (hy : scope.names.lookup y = some .local) (hxy : x ≠ y)
    (hQ : ∀ c h' m, (cellsFrom (s.heap.objs.size + 1) scope.names []).lookup cn = some c → s.heap.objs.size < c → h'.IsCell c (some vm) → h'.Ns s.heap.objs.size m → m x = some v0 → m y = some v2 → (∀ b o, s.heap.get? b = some o → h'.get? b = some o) →
      Q (newEnv scope s.heap.objs.size globals (cellsFrom (s.heap.objs.size + 1) scope.names []) qual func code none builtins) { s with heap := h', toks := s.toks + 1 + 1 }) :
    wpAny M A (newFunctionEnv scope globals [] [(x, v0), (cn, vm), (y, v2)] qual func code none builtins) Q E s := by
  obtain ⟨c, hc⟩ := Option.isSome_iff_exists.mp (cells_has (k := cn) scope.names (s.heap.objs.size + 1) [] (mem_of_lookup hcn))
  simp only [newFunctionEnv, Option.isSome_none, Bool.false_eq_true, if_false]
  refine wpAny_bind (wpAny_alloc ?_)
  refine wpAny_bind (wpAny_layCells _ (fun name kind cells => by cases hkc : kind == NameKind.cell <;> simp [hkc]) _ _ _ _ ?_)
  have hsz : (s.heap.push { cls := .type "frame", data := .dict #[] }).objs.size = s.heap.objs.size + 1 := Heap.size_push ..
  have ok := cellsFrom_ok scope.names (s.heap.push { cls := .type "frame", data := .dict #[] }) (s.heap.objs.size + 1) [] ⟨fun xx xx hm => (nomatch hm), List.Pairwise.nil⟩ (by rw [hsz]; exact Nat.le_refl _)
  rw [hsz] at ok
  show wpAny M A (forIn [(x, v0), (cn, vm), (y, v2)] PUnit.unit _ >>= _) Q E { s with heap := pushCells (s.heap.push { cls := .type "frame", data := .dict #[] }) scope.names }
  rw [show ({ s with heap := s.heap.push { cls := .type "frame", data := .dict #[] } } : Shared).heap.objs.size = s.heap.objs.size + 1 from hsz]
  have hcl := (ok.empty cn c (mem_of_lookup hc))
  have keep2 : ∀ b o, s.heap.get? b = some o → (pushCells (s.heap.push { cls := .type "frame", data := .dict #[] }) scope.names).get? b = some o := fun b o e => pushCells_keeps _ _ b o (Heap.get?_push_of_some _ e)
  have hns : (pushCells (s.heap.push { cls := .type "frame", data := .dict #[] }) scope.names).Ns s.heap.objs.size fun xx => none := (Heap.Ns.new s.heap (.type "frame")).keeps (pushCells_keeps _ _)
  have hLc : s.heap.objs.size ≠ c := Nat.ne_of_lt hcl.2
  have hp : ((newEnv scope s.heap.objs.size globals (cellsFrom (s.heap.objs.size + 1) scope.names []) qual func code none builtins).scope.kind == .class || ((newEnv scope s.heap.objs.size globals (cellsFrom (s.heap.objs.size + 1) scope.names []) qual func code none builtins).scope.kind == .module && (newEnv scope s.heap.objs.size globals (cellsFrom (s.heap.objs.size + 1) scope.names []) qual func code none builtins).locals != globals)) = false := by
    show (scope.kind == .class || (scope.kind == .module && _)) = false
    rw [hk]; rfl
  rw [List.forIn_cons]
  refine wpAny_bind (wpAny_bind (wpAny_bind (wpAny_storeName_local (m := fun xx => none) hx hns (fun h3 hn3 hs3 => wpAny_pure ?_) hp)))
  dsimp only at hn3 hs3 ⊢
  rw [List.forIn_cons]
  refine wpAny_bind (wpAny_bind (wpAny_storeName_cell hk hcn hc (hcl.1.sameBut hs3 (Ne.symm hLc)) (fun h4 hc4 hs4 => wpAny_pure ?_)))
  dsimp only at hc4 hs4 ⊢
  have hn4 := hn3.sameBut hs4 hLc
  rw [List.forIn_cons]
  refine wpAny_bind (wpAny_bind (wpAny_storeName_local hy hn4 (fun h5 hn5 hs5 => wpAny_pure ?_) hp))
  show wpAny M A (forIn ([] : List (Str × Value)) PUnit.unit _) _ _ _
  rw [List.forIn_nil]
  refine wpAny_pure (wpAny_pure ?_)
  dsimp only at hn5 hs5 ⊢
  refine hQ c h5 _ hc hcl.2 (hc4.sameBut hs5 (Ne.symm hLc)) hn5 ?_ (if_pos rfl) fun b o e => ?_
  · show (if x = y then some v2 else if x = x then some v0 else none) = some v0
    rw [if_neg hxy, if_pos rfl]
  · have hb := Heap.lt_size e
    have h1 : b ≠ s.heap.objs.size := Nat.ne_of_lt hb
    have h2 : b ≠ c := Nat.ne_of_lt (Nat.lt_trans hb hcl.2)
    exact (hs5.2 b h1).trans ((hs4.2 b h2).trans ((hs3.2 b h1).trans (keep2 b o e)))
theorem callCell {B : Base} {T : Tab} {d : Nat} (G : GoodB B) (GT : GoodT B T) {fv : Value} {x cn y : Str} {vars : List Str} {ms : List MS} (F : FnOKc B fv x cn y vars ms) {p0 pm p2 : PV} {H : AH} {Q : PV → AH → Prop}
    (hb : ∀ h, (∀ a o, B.heap.get? a = some o → h.get? a = some o) → vcSs (rb B h) { T with cel := fun nm => if nm = cn then some pm else none } d ms (kdef Q) (initLoc [p0, p2] vars.length) H) : CallCode B (d + 1) fv [p0, pm, p2] H Q := by
  intro z P s A vals R SC hr
  obtain ⟨a, o, fd, body, rfl, ho, hd, hcr, hbody, hco, hgen, hk, hg, hbi, hcl, hcell, hcn, hloc, hbind, hchk⟩ := F.it
  obtain ⟨r, hpre⟩ := F.pre
  obtain ⟨v0, vs, rfl, r0, hr⟩ := hr
  obtain ⟨vm, vs, rfl, rm, hr⟩ := hr
  obtain ⟨v2, vs, rfl, r2, hr⟩ := hr
  cases hr
  have nd := F.nd
  rw [hpre] at nd hloc
  have hx := (hloc x (.head _)).1
  have hy := (hloc y (.tail _ (.head _))).1
  have hxy : x ≠ y := fun e => (List.nodup_cons.mp nd).1 (e ▸ .head _)
  have hxc : x ≠ cn := fun e => by rw [e, hcn] at hx; cases hx
  have hyc : y ≠ cn := fun e => by rw [e, hcn] at hy; cases hy
  have hmem : (cn, NameKind.cell) ∈ fd.scope.names := mem_of_lookup hcn
  refine codeAny_call_function R.lt (SC.bin a o ho) hd hco hgen hbody (hcr.keeps SC.bin) ?_
  rw [hbind, hcl]
  refine wpAny_pure (env_cell hk hx hcn hy hxy fun c h' m hc hLc hcc hn hm0 hm2 hkeep => ⟨(G.nolimit.keeps SC.bin).keeps hkeep, codeAny_func ?_⟩)
  obtain ⟨oc, hoc, hocd⟩ := hcc
  have SC1 : StC B z P H { s with heap := h', toks := s.toks + 1 + 1 } := SC.keeps (Nat.le_add_right _ 2) hkeep
  have nlt : ∀ b, s.heap.objs.size ≤ b → z b = none ∧ P b = none ∧ H b = none := fun b hb => by
    refine ⟨?_, ?_, ?_⟩
    · cases q : z b with
      | none => rfl
      | some o => exact absurd (SC.zlt q) (Nat.not_lt.mpr hb)
    · cases q : P b with
      | none => rfl
      | some o => exact absurd (Heap.lt_size (SC.pin b o q).1) (Nat.not_lt.mpr hb)
    · cases q : H b with
      | none => rfl
      | some o => obtain ⟨_, o, h, _⟩ := SC.hin b _ q; exact absurd (Heap.lt_size h) (Nat.not_lt.mpr hb)
  obtain ⟨zc, pc, hc0⟩ := nlt c (Nat.le_of_lt hLc)
  obtain ⟨zL, pL, hL⟩ := nlt _ (Nat.le_refl s.heap.objs.size)
  have S2 := SC1.freeze hoc zc pc hc0
  have le : zle z (zadd z c oc) := zadd_le zc
  have hbz : ∀ b o, (cutz h' (zadd z c oc)).get? b = some o → zadd z c oc b = some o := fun b o e => by rw [← cutz_get S2.zin b]; exact e
  have hsub : ∀ b o, B.heap.get? b = some o → (cutz h' (zadd z c oc)).get? b = some o := fun b o e => (cutz_get S2.zin b).trans (S2.base b o e)
  have S3 := S2.up hbz
  have hloc' : LocRep (rb B (cutz h' (zadd z c oc))) (zadd z c oc) vars (initLoc [p0, p2] vars.length) m := by
    intro i nm p hi hp
    rw [hpre] at hi hp
    match i, hi, hp with
    | 0, hi, hp => cases hi; cases hp; exact ⟨v0, hm0, (r0.mono le).up⟩
    | 1, hi, hp => cases hi; cases hp; exact ⟨v2, hm2, (r2.mono le).up⟩
    | i + 2, hi, hp =>
      exfalso
      unfold initLoc at hp
      rw [List.getElem?_append_right (Nat.le_add_left 2 i)] at hp
      rw [List.getElem?_replicate] at hp
      split at hp <;> cases hp
  have S4 := S3.toSt (L := s.heap.objs.size) (vars := vars) (ρ := initLoc [p0, p2] vars.length) (by unfold zadd; rw [if_neg (Nat.ne_of_lt hLc)]; exact zL) pL hL hn hloc'
  refine wpAny_mono ((soundSs (G.up hsub) (GT.up hsub) ms).then (E := NoExc) (sc := fd.scope) ⟨rfl, hk, rfl, hg, hbi, fun k hk' => hloc k (hpre ▸ hk'), F.nd, fun nm hnm => ?_, fun nm p b hnm hb' hT => ?_⟩
    (⟨R.h, R.nx.1, R.nx.2⟩) hchk (hb _ hsub) S4
    fun f s₁ z₁ mf ρ₁ H₁ le₁ S₁ hm hq => (show FlowPost B P z Q f s₁ from ?_)) ?_ ?_
  · have e : nm = cn := hcell _ (mem_of_lookup hnm) rfl
    exact ⟨c, e ▸ hc⟩
  · have e : nm = cn := hcell _ (mem_of_lookup hnm) rfl
    subst e
    have e1 : some c = some b := hc.symm.trans hb'
    cases e1
    replace hT : (if nm = nm then some pm else none) = some p := hT
    rw [if_pos rfl] at hT
    cases hT
    exact ⟨vm, ⟨oc, (cutz_get S2.zin c).trans (zadd_self _ _ _), hocd⟩, ((rm.mono le).mono fun k o e => (cutz_get S2.zin k).trans e).up⟩
  · have hbk : ∀ b o, B.heap.get? b = some o → z₁ b = some o := fun b o e => le₁ _ _ (S2.base b o e)
    cases mf with
    | next => cases hm; exact ⟨z₁, .none, H₁, le.trans le₁, S₁.c.dn hbk, rfl, hq⟩
    | ret v => obtain ⟨x, rfl, rx⟩ := hm; exact ⟨z₁, v, H₁, le.trans le₁, S₁.c.dn hbk, rx.dn, hq⟩
    | brk => exact hq.elim
    | cont => exact hq.elim
  · intro f s' h
    cases f with
    | next => exact h
    | ret v => exact h
    | brk => exact h.elim
    | cont => exact h.elim
  · exact fun xx xx => no _ _
end Mine
end
section
set_option backward.match.sparseCases false
namespace Mine
open PySem PySem.W
theorem tst_iff {c : DP} {b : Bool} {X Y : Prop} (e : c.p ↔ b = true) (x : b = true → X) (y : b = false → Y) : tst c X Y := by
  cases b with
  | true => exact tst_both (fun xx => x rfl) (fun n => (n (e.mpr rfl)).elim)
  | false => exact tst_both (fun h => nomatch e.mp h) (fun xx => y rfl)
theorem tst_dT {X Y : Prop} (x : X) : tst dT X Y := tst_pos trivial x
theorem tst_dF {X Y : Prop} (y : Y) : tst dF X Y := tst_neg id y
theorem dec_eq {p : Prop} {i : Decidable p} {b : Bool} (h : p ↔ b = true) : DP.dec ⟨p, i⟩ = b := by
  cases b with
  | true => exact decide_eq_true (h.mpr rfl)
  | false => exact decide_eq_false fun x => nomatch h.mp x
theorem dec_not (c : DP) : c.not.dec = !c.dec := @decide_not c.p c.i (@instDecidableNot c.p c.i)
theorem tst_dec {p : Prop} {i : Decidable p} {X Y : Prop} (x : p → X) (y : ¬ p → Y) : tst (dB (DP.dec ⟨p, i⟩)) X Y := tst_both (fun h => x (of_decide_eq_true h)) (fun h => y fun q => h (decide_eq_true q))
theorem tst_decp {p : Prop} {i : Decidable p} {X Y : Prop} (h : p) (x : X) : tst (dB (DP.dec ⟨p, i⟩)) X Y := tst_pos (decide_eq_true h) x
theorem tst_decn {p : Prop} {i : Decidable p} {X Y : Prop} (h : ¬ p) (y : Y) : tst (dB (DP.dec ⟨p, i⟩)) X Y := tst_neg (fun q => h (of_decide_eq_true q)) y
theorem wh_mk {vt : VT} {vb ve : VS} {Q : KS} {ρ : Loc} {H : AH} (I : Nat → Loc → AH → Prop) (n : Nat) (h : I n ρ H) (st : ∀ n ρ H, I n ρ H → vt (kwh vb ve I n Q ρ) ρ H) : whB vt vb ve Q ρ H := by
  unfold whB; exact ⟨I, n, h, st⟩
theorem for_mk {i : Nat} {xs : List PV} {vb : VS} {Q : KS} {ρ : Loc} {H : AH} (I : List PV → Loc → AH → Prop) (h : I xs ρ H) (st : ∀ x r ρ H, I (x :: r) ρ H → vb (kforb I r Q) (setL ρ i x) H) (e : ∀ ρ H, I [] ρ H → Q .next ρ H) : forB i xs vb Q ρ H := by
  unfold forB; exact ⟨I, h, st, e⟩
theorem app_mk {l : Addr} {y : PV} {Q : KE} {H : AH} {vs : List PV} (h : H l = some (.list vs)) (hl : vs.length ≤ 1000000) (q : Q .none (H.upd l (.list (vs ++ [y])))) : appB l y Q H := by
  unfold appB; exact ⟨vs, h, hl, q⟩
theorem sat_mk {T : Tab} {nm : Str} {l : Addr} {v : PV} {Q : AH → Prop} {H : AH} {c : Addr} {fs : List (Option PV)} {i : Nat} (h : H l = some (.inst c fs)) (hs : T.sat c nm = some i) (hi : i < 1000) (q : Q (H.upd l (.inst c (slotSet fs i v)))) : satB T nm l v Q H := by
  unfold satB; exact ⟨c, fs, i, h, hs, hi, q⟩
theorem slice1_some {s : List Nat} {a c : Nat} (h : s[a]? = some c) : (s.drop a).take (a + 1 - a) = [c] := by
  rw [Nat.add_sub_cancel_left, take1_drop, h]
theorem slice1_none {s : List Nat} {a : Nat} (h : s[a]? = none) : (s.drop a).take (a + 1 - a) = [] := by
  rw [Nat.add_sub_cancel_left, take1_drop, h]
theorem get_lt {α : Type} {s : List α} {a : Nat} {c : α} (h : s[a]? = some c) : a < s.length := (List.getElem?_eq_some_iff.mp h).1
theorem get_ge {α : Type} {s : List α} {a : Nat} (h : s[a]? = none) : s.length ≤ a := List.getElem?_eq_none_iff.mp h
theorem cons1 {a b : Nat} (h : [a] = [b]) : a = b := (List.cons.inj h).1
theorem tst_bf {b : Bool} {X Y : Prop} (h : b = false) (y : Y) : tst (dB b) X Y := tst_neg (by rw [h]; exact Bool.false_ne_true) y
theorem tst_bt {b : Bool} {X Y : Prop} (h : b = true) (x : X) : tst (dB b) X Y := tst_pos h x
theorem tst_b {b : Bool} {X Y : Prop} (x : b = true → X) (y : b = false → Y) : tst (dB b) X Y := tst_iff Iff.rfl x y
theorem sw_t {s : List Nat} {c i : Nat} (h : s[i]? = some c) : startsAt s [c] i = true := by rw [sw1]; exact decide_eq_true h
theorem sw_f {s : List Nat} {c i : Nat} (h : ¬ s[i]? = some c) : startsAt s [c] i = false := by rw [sw1]; exact decide_eq_false h
theorem ne_none {c : Nat} {o : Option Nat} (h : o = none) : ¬ o = some c := by rw [h]; exact fun h => nomatch h
theorem ne_some {a c : Nat} {o : Option Nat} (h : o = some a) (n : ¬ a = c) : ¬ o = some c := by rw [h]; exact fun h => n (Option.some.inj h)
theorem lt_no {s : List Nat} {a : Nat} (h : s[a]? = none) : ¬ (a : Int) < (s.length : Int) := fun q => Nat.not_le.mpr (Int.ofNat_lt.mp q) (get_ge h)
theorem lt_yes {s : List Nat} {a c : Nat} (h : s[a]? = some c) : (a : Int) < (s.length : Int) := Int.ofNat_lt.mpr (get_lt h)
theorem upd_snoc {H : AH} {l : Addr} {ch : List (List Nat)} {x : List Nat} : (H.upd l (.list (chPV ch))).upd l (.list (chPV ch ++ [.str x])) = H.upd l (.list (chPV (ch ++ [x]))) := by
  rw [upd_upd, chPV_snoc]
theorem upd_snoc2 {H : AH} {l : Addr} {ch : List (List Nat)} {x y : List Nat} : ((H.upd l (.list (chPV ch))).upd l (.list (chPV ch ++ [.str x]))).upd l (.list (chPV ch ++ [.str x] ++ [.str y])) = H.upd l (.list (chPV (ch ++ [x] ++ [y]))) := by
  rw [upd_upd, upd_upd, chPV_snoc, chPV_snoc]
theorem del_upd2 {H : AH} {l : Addr} (h : H l = none) {o p : AO} : ((H.upd l o).upd l p).del l = H := by rw [upd_upd, del_upd h]
theorem allStr_snoc {ch : List (List Nat)} {x : List Nat} : allStr (chPV ch ++ [.str x]) = some (ch ++ [x]) := by rw [chPV_snoc, allStr_chPV]
theorem flat_snoc {ch : List (List Nat)} {x : List Nat} : (ch ++ [x]).flatten = ch.flatten ++ x := by rw [List.flatten_append, List.flatten_singleton]
theorem chPV_le {ch : List (List Nat)} {n : Nat} (h : ch.length ≤ 2 * n) (hn : n ≤ 100000) : (chPV ch).length ≤ 1000000 := by rw [chPV_len]; lia
theorem chPV_le1 {ch : List (List Nat)} {x : PV} {n : Nat} (h : ch.length ≤ 2 * n) (hn : n ≤ 100000) : (chPV ch ++ [x]).length ≤ 1000000 := by rw [List.length_append, chPV_len, List.length_singleton]; lia
theorem Con.run {B : Base} {d : Nat} {nm : Str} {vs : List PV} {r : PV} {H : AH} {Q : KE} (h : Con B d nm vs r) (q : Q r H) : (∃ fv, B.mg nm = some fv ∧ KeepOk B fv) ∧ calB B d nm vs Q H := ⟨h.b, h.use q⟩
theorem seq_nil {B : Base} {T : Tab} {d : Nat} {vr : VS} {Q : KS} {ρ : Loc} {H : AH} (h : vr Q ρ H) : vcSs B T d [] (kseq vr Q) ρ H := h
theorem seq_next {vr : VS} {Q : KS} {ρ : Loc} {H : AH} (h : vr Q ρ H) : kseq vr Q .next ρ H := h
end Mine
end
section
set_option backward.match.sparseCases false
namespace Mine
open PySem PySem.W
noncomputable def hexRun : Nat → List Nat → Nat
  | 0, _ => 0
  | _, [] => 0
  | k + 1, c :: r => if isHex c then hexRun k r + 1 else 0
theorem mem_below {l : List Nat} {p : Nat → Bool} (h : ∀ c, c < 128 → decide (c ∈ l) = p c) (hl : ∀ c ∈ l, c < 128) (hp : ∀ c, 128 ≤ c → p c = false) (c : Nat) : c ∈ l ↔ p c = true := by
  by_cases hc : c < 128
  · rw [← h c hc]; simp
  · constructor
    · intro hm; exact absurd (hl c hm) hc
    · intro hm; rw [hp c (Nat.le_of_not_lt hc)] at hm; cases hm
theorem hexChars_is (c : Nat) : c ∈ ([48, 49, 50, 51, 52, 53, 54, 55, 56, 57, 97, 98, 99, 100, 101, 102, 65, 66, 67, 68, 69, 70] : List Nat) ↔ isHex c = true := by
  refine mem_below (by decide) (by decide) (fun c h => ?_) c
  unfold isHex hexV
  rw [if_neg (by lia), if_neg (by lia), if_neg (by lia)]; rfl
noncomputable def isNS0 (c : Nat) : Bool := decide (97 ≤ c ∧ c ≤ 122 ∨ 65 ≤ c ∧ c ≤ 90 ∨ c = 95)
noncomputable def isNS (c : Nat) : Bool := isNS0 c || decide (127 < c)
noncomputable def isNC0 (c : Nat) : Bool := isNS0 c || decide (48 ≤ c ∧ c ≤ 57 ∨ c = 45)
noncomputable def isNC (c : Nat) : Bool := isNC0 c || decide (127 < c)
theorem nsChars_is (c : Nat) : c ∈ ([97, 98, 99, 100, 101, 102, 103, 104, 105, 106, 107, 108, 109, 110, 111, 112, 113, 114, 115, 116, 117, 118, 119, 120, 121, 122, 65, 66, 67, 68, 69, 70, 71, 72, 73, 74, 75, 76, 77, 78, 79, 80, 81, 82, 83, 84, 85, 86, 87, 88, 89, 90, 95] : List Nat) ↔ isNS0 c = true := by
  exact mem_below (p := isNS0) (by decide) (by decide) (fun c h => decide_eq_false (by lia)) c
variable {B : Base} {T : Tab} {d : Nat}
theorem hex_end_ok (G : GoodB B) (GT : GoodT B T) (F : FnAt B "_hex_end" p_hex_end 2 [] v_hex_end m_hex_end) {css : List Nat} {pos : Nat} :
    Con B (d + 1) "_hex_end" [.str css, .int pos] (.int (pos + hexRun 6 (css.drop pos) : Nat)) := by
  refine conDef G GT F rfl fun H => ?_
  generalize hr : pos + hexRun 6 (css.drop pos) = r
  refine wh_mk (fun n ρ H' => ∃ e, ρ = [some (.str css), some (.int pos), some (.int (pos + e : Nat))] ∧ H' = H ∧ pos + e + hexRun (6 - e) (css.drop (pos + e)) = r ∧ n = 6 - e) 6 ⟨0, rfl, rfl, hr, rfl⟩ ?_
  rintro n ρ H' ⟨e, rfl, rfl, he, rfl⟩
  by_cases h6 : e < 6
  · obtain ⟨k, hk, hk'⟩ := six h6
    refine tst_pos (Int.ofNat_lt.mpr (Nat.add_lt_add_left h6 pos)) ?_
    rw [hk] at he ⊢
    cases hg : css[pos + e]? with
    | none =>
      rw [drop_none hg] at he
      exact tst_neg (fun h => h (slice1_none hg)) (tst_dF ⟨by rw [← he]; rfl, rfl⟩)
    | some c =>
      rw [drop_get hg] at he
      refine tst_pos (by rw [slice1_some hg]; exact List.cons_ne_nil _ _) ⟨c, hg, tst_iff (hexChars_is c) (fun hc => tst_dT ?_) (fun hc => tst_dF ⟨?_, rfl⟩)⟩
      · rw [hexRun, if_pos hc] at he
        exact ⟨k, Nat.lt_succ_self _, e + 1, rfl, rfl, by rw [← he, hk']; show pos + e + 1 + _ = _; rw [Nat.add_assoc (pos + e), Nat.add_comm 1]; rfl, hk'.symm⟩
      · rw [hexRun, if_neg (by rw [hc]; exact Bool.false_ne_true)] at he
        rw [← he]; rfl
  · refine tst_neg (fun h => h6 (Nat.lt_of_add_lt_add_left (Int.ofNat_lt.mp h))) (tst_dF ⟨?_, rfl⟩)
    rw [six0 h6] at he
    rw [← he]; rfl
theorem name_start_ok (G : GoodB B) (GT : GoodT B T) (F : FnAt B "_is_name_start" p_is_name_start 2 [] v_is_name_start m_is_name_start) {css : List Nat} {pos c : Nat} (hg : css[pos]? = some c) :
    Con B (d + 1) "_is_name_start" [.str css, .int pos] (.bool (isNS c)) := by
  refine conDef G GT F rfl fun H => ⟨c, hg, ?_⟩
  generalize hr : isNS c = r
  unfold isNS at hr
  refine tst_iff (b := isNS0 c) (decide_eq_true_iff.trans (nsChars_is c)) (fun h => ⟨?_, rfl⟩) (fun h => ⟨?_, rfl⟩)
  · rw [h] at hr; rw [dec_eq (nsChars_is c), h]; exact congrArg PV.bool hr
  · rw [h] at hr; rw [← hr, Bool.false_or]; exact congrArg PV.bool (decide_eq_decide.mpr (by lia))
noncomputable def blankAt (s : List Nat) (i : Nat) : Bool := match s[i]? with
  | some c => decide (c ∈ [32, 10, 9])
  | none => false
theorem blank_iff (s : List Nat) (a : Nat) : (s.drop a).take (a + 1 - a) ∈ ([[32], [10], [9]] : List (List Nat)) ↔ blankAt s a = true := by
  rw [Nat.add_sub_cancel_left, take1_drop]; unfold blankAt
  cases s[a]? <;> simp
theorem blankAt_drop (s : List Nat) (p n : Nat) : blankAt (s.drop p) n = blankAt s (p + n) := by
  unfold blankAt; rw [List.getElem?_drop]
noncomputable def escSpec (r : List Nat) : Nat × Nat :=
  if 0 < hexRun 6 r then (if 0 < hexNum (r.take (hexRun 6 r)) ∧ hexNum (r.take (hexRun 6 r)) ≤ 1114111 then hexNum (r.take (hexRun 6 r)) else 65533,
    if blankAt r (hexRun 6 r) then hexRun 6 r + 1 else hexRun 6 r)
  else match r with
    | c :: _ => (c, 1)
    | [] => (65533, 0)
theorem hexRun_le : ∀ (k : Nat) (s : List Nat), hexRun k s ≤ k ∧ hexRun k s ≤ s.length ∧ ∀ c ∈ s.take (hexRun k s), isHex c = true
  | 0, s => by simp [hexRun]
  | k + 1, [] => by simp [hexRun]
  | k + 1, c :: r => by
    unfold hexRun
    split
    · rename_i h
      obtain ⟨h1, h2, h3⟩ := hexRun_le k r
      refine ⟨Nat.succ_le_succ h1, Nat.succ_le_succ h2, ?_⟩
      intro x hx
      rw [List.take_succ_cons] at hx
      rcases List.mem_cons.mp hx with rfl | hx
      · exact h
      · exact h3 x hx
    · simp
theorem escape_ok (G : GoodB B) (GT : GoodT B T) (F : FnAt B "_consume_escape" p_consume_escape 2 [] v_consume_escape m_consume_escape)
    (hh : ∀ (css : List Nat) (pos : Nat), Con B d "_hex_end" [.str css, .int pos] (.int (pos + hexRun 6 (css.drop pos) : Nat))) {css : List Nat} {pos : Nat} :
    Con B (d + 1) "_consume_escape" [.str css, .int pos] (.tup [.str [(escSpec (css.drop pos)).1], .int (pos + (escSpec (css.drop pos)).2 : Nat)]) := by
  refine conDef G GT F rfl fun H => ?_
  generalize hr : PV.tup [.str [(escSpec (css.drop pos)).1], .int (pos + (escSpec (css.drop pos)).2 : Nat)] = r
  refine ⟨(hh css pos).b, (hh css pos).use ?_⟩
  obtain ⟨h1, h2, h3⟩ := hexRun_le 6 (css.drop pos)
  by_cases hn : 0 < hexRun 6 (css.drop pos)
  · have e : pos + hexRun 6 (css.drop pos) - pos = hexRun 6 (css.drop pos) := Nat.add_sub_cancel_left ..
    have hl : ((css.drop pos).take (hexRun 6 (css.drop pos))).length = hexRun 6 (css.drop pos) := by rw [List.length_take]; exact Nat.min_eq_left h2
    unfold escSpec at hr
    rw [if_pos hn, blankAt_drop] at hr
    generalize hexRun 6 (css.drop pos) = m at *
    have hs : ((css.drop pos).take (pos + m - pos)).length ≤ 640 ∧ (css.drop pos).take (pos + m - pos) ≠ [] ∧ (16 : Int) = 16 ∧ ((css.drop pos).take (pos + m - pos)).all isHex = true := by
      rw [e, hl]; exact ⟨Nat.le_trans h1 (by decide), fun h => by rw [h] at hl; exact absurd (hl ▸ hn : 0 < ([] : List Nat).length) (Nat.lt_irrefl 0), rfl, List.all_eq_true.mpr h3⟩
    refine tst_pos (Int.ofNat_lt.mpr (Nat.lt_add_of_pos_right hn)) ⟨hs, ?_⟩
    rw [← e] at hr
    generalize hexNum ((css.drop pos).take (pos + m - pos)) = num at *
    rw [e] at hr
    by_cases q1 : 0 < num
    · refine tst_pos (Int.ofNat_lt.mpr q1) ?_
      by_cases q2 : num ≤ 1114111
      · refine tst_pos (Int.ofNat_le.mpr q2) ⟨Nat.lt_succ_of_le q2, tst_iff (blank_iff css (pos + m)) (fun hb => ⟨?_, rfl⟩) (fun hb => ⟨?_, rfl⟩)⟩
        · rw [if_pos ⟨q1, q2⟩, if_pos hb] at hr; exact hr
        · rw [if_pos ⟨q1, q2⟩, hb] at hr; exact hr
      · refine tst_neg (fun h => q2 (Int.ofNat_le.mp h)) (tst_iff (blank_iff css (pos + m)) (fun hb => ⟨?_, rfl⟩) (fun hb => ⟨?_, rfl⟩))
        · rw [if_neg (fun h => q2 h.2), if_pos hb] at hr; exact hr
        · rw [if_neg (fun h => q2 h.2), hb] at hr; exact hr
    · refine tst_neg (fun h => q1 (Int.ofNat_lt.mp h)) (tst_dF (tst_iff (blank_iff css (pos + m)) (fun hb => ⟨?_, rfl⟩) (fun hb => ⟨?_, rfl⟩)))
      · rw [if_neg (fun h => q1 h.1), if_pos hb] at hr; exact hr
      · rw [if_neg (fun h => q1 h.1), hb] at hr; exact hr
  · have h0 : hexRun 6 (css.drop pos) = 0 := Nat.eq_zero_of_not_pos hn
    unfold escSpec at hr
    rw [if_neg hn] at hr
    rw [h0]
    refine tst_neg (Int.lt_irrefl _) ?_
    cases hg : css[pos]? with
    | none =>
      rw [drop_none hg] at hr
      exact tst_neg (fun h => Nat.not_le.mpr (Int.ofNat_lt.mp h) (get_ge hg)) ⟨hr, rfl⟩
    | some c =>
      rw [drop_get hg] at hr
      exact tst_pos (Int.ofNat_lt.mpr (get_lt hg)) ⟨c, hg, hr, rfl⟩
noncomputable def identStart : List Nat → Bool
  | [] => false
  | c :: r => if isNS c then true else if c = 45 then (match r with
      | [] => false
      | c2 :: r2 => isNS c2 || decide (c2 = 45) || (decide (c2 = 92) && !decide (r2.head? = some 10)))
    else if c = 92 then !decide (r.head? = some 10) else false
theorem sw2 (s : List Nat) (a b i : Nat) : startsAt s [a, b] i = (decide (s[i]? = some a) && decide (s[i + 1]? = some b)) := by
  unfold startsAt
  rw [Bool.eq_iff_iff]
  simp only [List.length_cons, List.length_nil, Bool.and_eq_true, beq_iff_eq, decide_eq_true_eq]
  cases h : s[i]? with
  | none => rw [drop_none h]; simp
  | some x =>
    rw [drop_get h]
    have h0 := (List.getElem?_eq_some_iff.mp h).1
    cases h' : s[i + 1]? with
    | none => rw [drop_none h']; simp
    | some y =>
      rw [drop_get h']
      have h1 := (List.getElem?_eq_some_iff.mp h').1
      simp; lia
theorem ident_start_ok (G : GoodB B) (GT : GoodT B T) (F : FnAt B "_is_ident_start" p_is_ident_start 2 [] v_is_ident_start m_is_ident_start)
    (hn : ∀ (css : List Nat) (pos c : Nat), css[pos]? = some c → Con B d "_is_name_start" [.str css, .int pos] (.bool (isNS c))) {css : List Nat} {pos : Nat} (hp : pos < css.length) :
    Con B (d + 1) "_is_ident_start" [.str css, .int pos] (.bool (identStart (css.drop pos))) := by
  refine conDef G GT F rfl fun H => ?_
  generalize hr : identStart (css.drop pos) = r
  obtain ⟨c, hg⟩ : ∃ c, css[pos]? = some c := ⟨_, List.getElem?_eq_getElem hp⟩
  refine ⟨(hn css pos c hg).b, (hn css pos c hg).use ?_⟩
  rw [drop_get hg] at hr
  unfold identStart at hr
  dsimp only at hr
  cases h1 : isNS c with
  | true => rw [h1] at hr; exact tst_t ⟨congrArg PV.bool hr, rfl⟩
  | false =>
    rw [h1, if_neg Bool.false_ne_true] at hr
    refine tst_f ⟨c, hg, ?_⟩
    by_cases h2 : c = 45
    · subst h2
      rw [if_pos rfl] at hr
      refine tst_pos rfl ?_
      cases hg2 : css[pos + 1]? with
      | none =>
        rw [drop_none hg2] at hr
        refine tst_decn (lt_no hg2) (tst_decn (lt_no hg2) (tst_bf (sw_f (ne_none hg2)) ⟨?_, rfl⟩))
        rw [sw_f (ne_none hg2)]; exact congrArg PV.bool hr
      | some c2 =>
        rw [drop_get hg2] at hr
        dsimp only at hr
        rw [List.head?_drop] at hr
        refine tst_decp (lt_yes hg2) ⟨(hn css (pos + 1) c2 hg2).b, (hn css (pos + 1) c2 hg2).use ?_⟩
        cases h4 : isNS c2 with
        | true => rw [h4] at hr; exact tst_t (tst_t ⟨congrArg PV.bool hr, rfl⟩)
        | false =>
          rw [h4, Bool.false_or] at hr
          refine tst_f ⟨c2, hg2, ?_⟩
          by_cases h5 : c2 = 45
          · subst h5
            exact tst_decp rfl ⟨congrArg PV.bool hr, rfl⟩
          · rw [decide_eq_false h5, Bool.false_or] at hr
            refine tst_decn (fun h => h5 (cons1 h)) ?_
            by_cases h6 : c2 = 92
            · subst h6
              rw [decide_eq_true rfl] at hr
              refine tst_bt (sw_t hg2) ⟨congrArg PV.bool (Eq.trans ?_ hr), rfl⟩
              rw [sw2, hg2, dec_not, dec_B]; rfl
            · rw [decide_eq_false h6, Bool.false_and] at hr
              exact tst_bf (sw_f (ne_some hg2 h6)) ⟨congrArg PV.bool ((sw_f (ne_some hg2 h6)).trans hr), rfl⟩
    · rw [if_neg h2] at hr
      refine tst_neg (fun h => h2 (cons1 h)) ⟨c, hg, ?_⟩
      by_cases h3 : c = 92
      · subst h3
        rw [if_pos rfl, List.head?_drop] at hr
        refine tst_pos rfl ⟨congrArg PV.bool (Eq.trans ?_ hr), rfl⟩
        rw [sw2, hg, dec_not, dec_B]; rfl
      · rw [if_neg h3] at hr
        exact tst_neg (fun h => h3 (cons1 h)) ⟨congrArg PV.bool hr, rfl⟩
end Mine
end
section
set_option backward.match.sparseCases false
namespace Mine
open PySem PySem.W
variable {B : Base} {T : Tab} {d : Nat}
noncomputable def isDig (c : Nat) : Bool := decide (48 ≤ c ∧ c ≤ 57)
noncomputable def digAt (s : List Nat) (i : Nat) : Bool := match s[i]? with
  | some c => isDig c
  | none => false
noncomputable def digRun : List Nat → Nat
  | [] => 0
  | c :: r => if isDig c then digRun r + 1 else 0
noncomputable def signAt (s : List Nat) (i : Nat) : Bool := match s[i]? with
  | some c => decide (c = 45 ∨ c = 43)
  | none => false
noncomputable def eAt (s : List Nat) (i : Nat) : Bool := match s[i]? with
  | some c => decide (c = 101 ∨ c = 69)
  | none => false
theorem mem_one {c : Nat} {l : List Nat} : [c] ∈ l.map (fun x => [x]) ↔ c ∈ l := by
  rw [List.mem_map]
  exact ⟨fun hh => by obtain ⟨x, h, e⟩ := hh; exact cons1 e ▸ h, fun h => ⟨c, h, rfl⟩⟩
theorem slice_mem {s : List Nat} {a : Nat} {l : List Nat} {f : Nat → Bool} {b : Bool} (hf : ∀ c, c ∈ l ↔ f c = true) (hs : ∀ c, s[a]? = some c → b = f c) (hn : s[a]? = none → b = false) : (s.drop a).take (a + 1 - a) ∈ l.map (fun x => [x]) ↔ b = true := by
  cases h : s[a]? with
  | none => rw [slice1_none h, hn h, List.mem_map]; exact ⟨fun hh => by obtain ⟨_, _, e⟩ := hh; exact (nomatch e), fun h => nomatch h⟩
  | some c => rw [slice1_some h, hs c h, mem_one, hf]
theorem dig_iff (s : List Nat) (a : Nat) : (s.drop a).take (a + 1 - a) ∈ ([[48], [49], [50], [51], [52], [53], [54], [55], [56], [57]] : List (List Nat)) ↔ digAt s a = true :=
  slice_mem (l := [48, 49, 50, 51, 52, 53, 54, 55, 56, 57]) (mem_below (p := isDig) (by decide) (by decide) fun c h => decide_eq_false (by lia)) (fun c h => by unfold digAt; rw [h]) (fun h => by unfold digAt; rw [h])
theorem sign_iff (s : List Nat) (a : Nat) : (s.drop a).take (a + 1 - a) ∈ ([[45], [43]] : List (List Nat)) ↔ signAt s a = true :=
  slice_mem (l := [45, 43]) (mem_below (p := fun c => decide (c = 45 ∨ c = 43)) (by decide) (by decide) fun c h => decide_eq_false (by lia)) (fun c h => by unfold signAt; rw [h]) (fun h => by unfold signAt; rw [h])
theorem e_iff (s : List Nat) (a : Nat) : (s.drop a).take (a + 1 - a) ∈ ([[101], [69]] : List (List Nat)) ↔ eAt s a = true :=
  slice_mem (l := [101, 69]) (mem_below (p := fun c => decide (c = 101 ∨ c = 69)) (by decide) (by decide) fun c h => decide_eq_false (by lia)) (fun c h => by unfold eAt; rw [h]) (fun h => by unfold eAt; rw [h])
theorem one_iff (s : List Nat) (a c : Nat) : (s.drop a).take (a + 1 - a) = [c] ↔ s[a]? = some c := by
  cases h : s[a]? with
  | none => rw [slice1_none h]; exact ⟨fun h => (nomatch h), fun h => nomatch h⟩
  | some x => rw [slice1_some h]; exact ⟨fun h => congrArg some (cons1 h), fun h => by rw [Option.some.inj h]⟩
theorem digAt_lt {s : List Nat} {a : Nat} (h : digAt s a = true) : a < s.length := by
  unfold digAt at h
  cases hc : s[a]? with
  | none => rw [hc] at h; cases h
  | some c => exact get_lt hc
theorem meas {n p : Nat} (h : p < n) : n - (p + 1) < n - p := Nat.sub_succ_lt_self _ _ h
theorem digRun_at (s : List Nat) (e : Nat) : digRun (s.drop e) = if digAt s e then digRun (s.drop (e + 1)) + 1 else 0 := by
  unfold digAt
  cases h : s[e]? with
  | none => rw [drop_none h]; rfl
  | some c => rw [drop_get h]; rfl
noncomputable def digs : PV := .tup [.str [48], .str [49], .str [50], .str [51], .str [52], .str [53], .str [54], .str [55], .str [56], .str [57]]
noncomputable def GlobIs (B : Base) (nm : Str) (v : PV) : Prop := ∃ x, B.mg nm = some x ∧ Rep B B.heap.get? v x
theorem dig_loop (hD : GlobIs B "_DIGITS" digs) {css : List Nat} {e : Nat} {p q1 q2 q3 : Option PV} {H : AH} {Q : KS}
    (hq : Q .next [some (.str css), p, some (.int (e + digRun (css.drop e) : Nat)), q1, q2, q3] H) : vcS B T d w_number_end_1 Q [some (.str css), p, some (.int e), q1, q2, q3] H := by
  generalize hr : e + digRun (css.drop e) = r at hq
  refine wh_mk (fun n ρ' H' => ∃ k, ρ' = [some (.str css), p, some (.int (e + k : Nat)), q1, q2, q3] ∧ H' = H ∧ e + k + digRun (css.drop (e + k)) = r ∧ n = css.length - (e + k)) (css.length - e) ⟨0, rfl, rfl, hr, rfl⟩ ?_
  rintro n ρ' H' ⟨k, rfl, rfl, hk, rfl⟩
  rw [digRun_at] at hk
  refine ⟨hD, tst_iff (dig_iff css (e + k)) (fun hd => ⟨css.length - (e + (k + 1)), meas (digAt_lt hd), k + 1, rfl, rfl, ?_, rfl⟩) (fun hd => ?_)⟩
  · rw [hd] at hk; exact (Nat.succ_add_eq_add_succ ..).trans hk
  · rw [hd] at hk
    replace hk : e + k = r := hk
    subst hk; exact hq
noncomputable def numExp (css : List Nat) (e : Nat) (pl : Bool) : Nat × Bool :=
  if eAt css e then (if digAt css (if signAt css (e + 1) then e + 2 else e + 1) then
    ((if signAt css (e + 1) then e + 2 else e + 1) + digRun (css.drop (if signAt css (e + 1) then e + 2 else e + 1)), false) else (e, pl)) else (e, pl)
noncomputable def numFrom (css : List Nat) (pos : Nat) : Option (Nat × Bool) :=
  let e0 := if signAt css pos then pos + 1 else pos
  let e1 := e0 + digRun (css.drop e0)
  if css[e1]? = some 46 ∧ digAt css (e1 + 1) = true then some (numExp css (e1 + 2 + digRun (css.drop (e1 + 2))) false)
  else if e1 = e0 then none else some (numExp css e1 true)
noncomputable def numPV : Option (Nat × Bool) → PV
  | none => .tup [.none, .bool false]
  | some (e, pl) => .tup [.int e, .bool pl]
theorem number_tail {css : List Nat} {pos e : Nat} {pl : Bool} {st : PV} {pw : Option PV} {H : AH} {r : PV} (hr : numPV (some (numExp css e pl)) = r) (hD : GlobIs B "_DIGITS" digs) :
    vcSs B T d r_number_end_3 (isRet r H) [some (.str css), some (.int pos), some (.int e), some st, some (.bool pl), pw] H := by
  unfold numExp at hr
  refine tst_iff (e_iff css e) (fun he => ?_) (fun he => ⟨?_, rfl⟩)
  · rw [he, if_pos rfl] at hr
    refine tst_iff (sign_iff css (e + 1)) (fun hg => ?_) (fun hg => ?_)
    · rw [hg, if_pos rfl] at hr
      refine ⟨hD, tst_iff (dig_iff css (e + 2)) (fun hd => ?_) (fun hd => ⟨?_, rfl⟩)⟩
      · rw [hd, if_pos rfl] at hr
        exact dig_loop hD ⟨hr, rfl⟩
      · rw [hd] at hr; exact hr
    · rw [hg] at hr
      refine ⟨hD, tst_iff (dig_iff css (e + 1)) (fun hd => ?_) (fun hd => ⟨?_, rfl⟩)⟩
      · replace hr : numPV (some (if digAt css (e + 1) = true then (e + 1 + digRun (css.drop (e + 1)), false) else (e, pl))) = r := hr
        rw [hd, if_pos rfl] at hr
        exact dig_loop hD ⟨hr, rfl⟩
      · replace hr : numPV (some (if digAt css (e + 1) = true then (e + 1 + digRun (css.drop (e + 1)), false) else (e, pl))) = r := hr
        rw [hd] at hr; exact hr
  · rw [he] at hr; exact hr
theorem number_end_ok (G : GoodB B) (GT : GoodT B T) (F : FnAt B "_number_end" p_number_end 2 [] v_number_end m_number_end) (hD : GlobIs B "_DIGITS" digs) {css : List Nat} {pos : Nat} :
    Con B (d + 1) "_number_end" [.str css, .int pos] (numPV (numFrom css pos)) := by
  refine conDef G GT F rfl fun H => ?_
  generalize hr : numPV (numFrom css pos) = r
  have main : ∀ {e0 : Nat} (_ : (if signAt css pos then pos + 1 else pos) = e0) {st : Option PV},
      vcSs B T d r_number_end_5 (isRet r H) [some (.str css), some (.int pos), some (.int e0), st, none, none] H := by
    intro e0 he0 st
    unfold numFrom at hr
    rw [he0] at hr
    dsimp only at hr
    refine dig_loop hD ?_
    generalize e0 + digRun (css.drop e0) = e1 at *
    by_cases hdot : css[e1]? = some 46
    · refine tst_pos ((one_iff css e1 46).mpr hdot) ⟨hD, tst_iff (dig_iff css (e1 + 1)) (fun hd => ?_) (fun hd => ?_)⟩
      · rw [if_pos ⟨hdot, hd⟩] at hr
        refine tst_dT (dig_loop hD ?_)
        exact number_tail hr hD
      · rw [if_neg (fun h => by rw [hd] at h; exact Bool.false_ne_true h.2)] at hr
        refine tst_dF (tst_both (fun hz => ⟨?_, rfl⟩) (fun hz => ?_))
        · rw [if_pos (Int.ofNat.inj hz)] at hr; exact hr
        · rw [if_neg (fun h => hz (congrArg Int.ofNat h))] at hr
          exact number_tail hr hD
    · rw [if_neg (fun h => hdot h.1)] at hr
      refine tst_neg (fun h => hdot ((one_iff css e1 46).mp h)) (tst_dF (tst_both (fun hz => ⟨?_, rfl⟩) (fun hz => ?_)))
      · rw [if_pos (Int.ofNat.inj hz)] at hr; exact hr
      · rw [if_neg (fun h => hz (congrArg Int.ofNat h))] at hr
        exact number_tail hr hD
  refine tst_iff (sign_iff css pos) (fun h => main (by rw [if_pos h])) (fun h => main (by rw [h]; rfl))
end Mine
end
section
set_option backward.match.sparseCases false
namespace Mine
open PySem PySem.W
variable {B : Base} {T : Tab} {d : Nat}
theorem rlt {c : Nat} {r : List Nat} : r.length < (c :: r).length := Nat.lt_succ_self _
theorem dlt {c k : Nat} {r : List Nat} : (r.drop k).length < (c :: r).length := Nat.lt_succ_of_le (by rw [List.length_drop]; exact Nat.sub_le _ _)
noncomputable def identF (s : List Nat) (f : (t : List Nat) → t.length < s.length → List Nat × Nat) : List Nat × Nat := match s, f with
  | [], _ => ([], 0)
  | c :: r, f => if isNC c then (c :: (f r rlt).1, (f r rlt).2 + 1)
    else if c = 92 ∧ ¬ r.head? = some 10 then ((escSpec r).1 :: (f (r.drop (escSpec r).2) dlt).1, (f (r.drop (escSpec r).2) dlt).2 + (escSpec r).2 + 1)
    else ([], 0)
@[irreducible] noncomputable def identSpec : List Nat → List Nat × Nat := WellFounded.fix (measure List.length).wf identF
theorem identSpec_nil : identSpec [] = ([], 0) := by
  delta identSpec; exact WellFounded.fix_eq _ _ _
theorem identSpec_cons (c : Nat) (r : List Nat) : identSpec (c :: r) = if isNC c then (c :: (identSpec r).1, (identSpec r).2 + 1)
    else if c = 92 ∧ ¬ r.head? = some 10 then ((escSpec r).1 :: (identSpec (r.drop (escSpec r).2)).1, (identSpec (r.drop (escSpec r).2)).2 + (escSpec r).2 + 1)
    else ([], 0) := by
  delta identSpec; exact WellFounded.fix_eq _ _ _
theorem ncChars_is (c : Nat) : c ∈ ([97, 98, 99, 100, 101, 102, 103, 104, 105, 106, 107, 108, 109, 110, 111, 112, 113, 114, 115, 116, 117, 118, 119, 120, 121, 122, 45, 95, 48, 49, 50, 51, 52, 53, 54, 55, 56, 57, 65, 66, 67, 68, 69, 70, 71, 72, 73, 74, 75, 76, 77, 78, 79, 80, 81, 82, 83, 84, 85, 86, 87, 88, 89, 90] : List Nat) ↔ isNC0 c = true := by
  refine mem_below (p := isNC0) (by decide) (by decide) (fun c h => ?_) c
  unfold isNC0 isNS0
  rw [decide_eq_false (by lia), decide_eq_false (by lia)]; rfl
theorem escSpec_le (r : List Nat) : (escSpec r).2 ≤ r.length ∧ (r ≠ [] → 1 ≤ (escSpec r).2) := by
  unfold escSpec
  have h := hexRun_le 6 r
  split
  · rename_i hn
    refine ⟨?_, fun xx => ?_⟩
    · dsimp only
      split
      · rename_i hb
        unfold blankAt at hb
        cases hc : r[hexRun 6 r]? with
        | none => rw [hc] at hb; cases hb
        | some c => exact (List.getElem?_eq_some_iff.mp hc).1
      · exact h.2.1
    · dsimp only
      split
      · exact Nat.succ_pos _
      · exact hn
  · cases r <;> simp
theorem identSpec_len : ∀ (n : Nat) (s : List Nat), s.length ≤ n → (identSpec s).1.length ≤ s.length ∧ (identSpec s).2 ≤ s.length
  | _, [], _ => by rw [identSpec_nil]; simp
  | 0, _ :: _, h => by simp at h
  | n + 1, c :: r, h => by
    rw [identSpec_cons]
    simp only [List.length_cons] at h ⊢
    split
    · have := identSpec_len n r (Nat.le_of_succ_le_succ h)
      exact ⟨Nat.succ_le_succ this.1, Nat.succ_le_succ this.2⟩
    · split
      · have h1 := escSpec_le r
        have := identSpec_len n (r.drop (escSpec r).2) (Nat.le_trans (List.drop_sublist _ _).length_le (Nat.le_of_succ_le_succ h))
        rw [List.length_drop] at this
        exact ⟨Nat.succ_le_succ (le_sub_le this.1), Nat.succ_le_succ (Nat.add_le_of_le_sub h1.1 this.2)⟩
      · simp
theorem identSpec_nc {c : Nat} {r : List Nat} (h : isNC c = true) : identSpec (c :: r) = (c :: (identSpec r).1, (identSpec r).2 + 1) := by rw [identSpec_cons, if_pos h]
theorem identSpec_esc {r : List Nat} (h : ¬ r.head? = some 10) : identSpec (92 :: r) = ((escSpec r).1 :: (identSpec (r.drop (escSpec r).2)).1, (identSpec (r.drop (escSpec r).2)).2 + (escSpec r).2 + 1) := by
  rw [identSpec_cons, if_neg (by decide), if_pos ⟨rfl, h⟩]
theorem identSpec_stop {c : Nat} {r : List Nat} (h : isNC c = false) (h2 : ¬ (c = 92 ∧ ¬ r.head? = some 10)) : identSpec (c :: r) = ([], 0) := by
  rw [identSpec_cons, if_neg (by rw [h]; exact Bool.false_ne_true), if_neg h2]
inductive IdI (css : List Nat) (l : Addr) (V : List Nat) (W : Nat) (H : AH) : Nat → Loc → AH → Prop where
  | mk {H' : AH} (p sp : Nat) (ch : List (List Nat)) (cv : Option PV) (h0 : H' = H.upd l (.list (chPV ch))) (h1 : p ≤ css.length) (h2 : sp ≤ p) (h3 : ch.flatten ++ (css.drop sp).take (p - sp) ++ (identSpec (css.drop p)).1 = V) (h4 : p + (identSpec (css.drop p)).2 = W)
    (h5 : ch.length ≤ 2 * p) : IdI css l V W H (css.length - p) [some (.str css), some (.int (p : Nat)), some (.ref l), some (.int css.length), some (.int (sp : Nat)), cv] H'
theorem consume_ident_ok (G : GoodB B) (GT : GoodT B T) (F : FnAt B "_consume_ident" p_consume_ident 2 [] v_consume_ident m_consume_ident)
    (he : ∀ (css : List Nat) (pos : Nat), Con B d "_consume_escape" [.str css, .int pos] (.tup [.str [(escSpec (css.drop pos)).1], .int (pos + (escSpec (css.drop pos)).2 : Nat)]))
    {css : List Nat} {pos : Nat} (hL : css.length ≤ 100000) (hp : pos ≤ css.length) :
    Con B (d + 1) "_consume_ident" [.str css, .int pos] (.tup [.str (identSpec (css.drop pos)).1, .int (pos + (identSpec (css.drop pos)).2 : Nat)]) := by
  refine conDef G GT F rfl fun H l hl => ?_
  have hV : (identSpec (css.drop pos)).1.length ≤ 16777216 := by
    exact le17 (Nat.le_trans (Nat.le_trans (identSpec_len _ (css.drop pos) (Nat.le_refl _)).1 (List.drop_sublist _ _).length_le) hL)
  generalize hV1 : (identSpec (css.drop pos)).1 = V at *
  generalize hW1 : pos + (identSpec (css.drop pos)).2 = W at *
  have fin : ∀ {p sp : Nat} {ch : List (List Nat)} {cv : Option PV}, identSpec (css.drop p) = ([], 0) → p ≤ css.length → ch.flatten ++ (css.drop sp).take (p - sp) ++ (identSpec (css.drop p)).1 = V → p + (identSpec (css.drop p)).2 = W → ch.length ≤ 2 * p →
      vcSs B T d r_consume_ident_1 (isRet (.tup [.str V, .int W]) H) [some (.str css), some (.int p), some (.ref l), some (.int css.length), some (.int sp), cv] (H.upd l (.list (chPV ch))) := by
    intro p sp ch cv h0 h1 h3 h4 h5
    rw [h0] at h3 h4
    replace h4 : p = W := h4
    rw [List.append_nil, ← flat_snoc] at h3
    refine ⟨⟨_, upd_self ..⟩, app_mk (upd_self ..) (chPV_le h5 (Nat.le_trans h1 hL)) ⟨rfl, _, upd_self .., _, allStr_snoc, by rw [h3]; exact hV, ?_, del_upd2 hl⟩⟩
    rw [h3, h4]
  refine wh_mk (IdI css l V W H) (css.length - pos) (.mk pos pos [] none rfl hp (Nat.le_refl _) ?_ hW1 (Nat.zero_le _)) ?_
  · rw [← hV1, Nat.sub_self]; rfl
  rintro _ _ _ ⟨p, sp, ch, cv, rfl, h1, h2, h3, h4, h5⟩
  cases hg : css[p]? with
  | none => exact tst_neg (lt_no hg) (fin (by rw [drop_none hg, identSpec_nil]) h1 h3 h4 h5)
  | some c =>
    have hlt := get_lt hg
    refine tst_pos (lt_yes hg) ⟨c, hg, ?_⟩
    have hd := drop_get hg
    cases hnc : isNC c with
    | true =>
      rw [hd, identSpec_nc hnc] at h3 h4
      have go : ∃ m, m < css.length - p ∧ IdI css l V W H m [some (.str css), some (.int (p + 1 : Nat)), some (.ref l), some (.int css.length), some (.int sp), some (.str [c])] (H.upd l (.list (chPV ch))) := by
        refine ⟨_, meas hlt, .mk (p + 1) sp ch _ rfl hlt (Nat.le_succ_of_le h2) ?_ ?_ (ch1 h5)⟩
        · rw [take_snoc hg h2, ← h3, ← List.append_assoc, List.append_assoc _ [c]]; rfl
        · rw [← h4, Nat.add_assoc, Nat.add_comm 1]
      refine tst_iff (ncChars_is c) (fun xx => tst_dT go) (fun h0 => tst_pos ?_ (tst_dT go))
      unfold isNC at hnc
      rw [h0] at hnc
      exact Int.ofNat_lt.mpr (of_decide_eq_true hnc)
    | false =>
      have h0 : isNC0 c = false ∧ decide (127 < c) = false := Bool.or_eq_false_iff.mp hnc
      refine tst_neg (fun h => by rw [(ncChars_is c).mp h] at h0; exact nomatch h0.1) (tst_neg (fun h => of_decide_eq_false h0.2 (Int.ofNat_lt.mp h)) (tst_dF ?_))
      by_cases h92 : c = 92
      · subst h92
        refine tst_pos rfl ?_
        by_cases h10 : css[p + 1]? = some 10
        · refine tst_neg (fun h => h ?_) (tst_dF (fin (by rw [hd, identSpec_stop hnc (fun h => h.2 (by rw [List.head?_drop, h10]))]) h1 h3 h4 h5))
          show startsAt _ _ _ = true
          rw [sw2, hg, h10]; rfl
        · refine tst_pos (fun h => ?_) (tst_dT ?_)
          · replace h : startsAt css [92, 10] p = true := h
            rw [sw2, decide_eq_false h10, Bool.and_false] at h
            exact nomatch h
          rw [hd, identSpec_esc (by rw [List.head?_drop]; exact h10)] at h3 h4
          have hle := (escSpec_le (css.drop (p + 1))).1
          rw [List.length_drop] at hle
          rw [List.drop_drop] at h3 h4
          refine ⟨⟨_, upd_self ..⟩, app_mk (upd_self ..) (chPV_le h5 (Nat.le_trans h1 hL)) ⟨rfl, (he css (p + 1)).b, (he css (p + 1)).use ⟨rfl, ⟨_, upd_self ..⟩, app_mk (upd_self ..) (chPV_le1 h5 (Nat.le_trans h1 hL)) ⟨rfl, ?_⟩⟩⟩⟩
          generalize escSpec (css.drop (p + 1)) = E at *
          have hb : p + 1 + E.2 ≤ css.length := add_sub_le hle hlt
          refine ⟨css.length - (p + 1 + E.2), Nat.sub_lt_sub_left hlt lt1_of, .mk (p + 1 + E.2) (p + 1 + E.2) (ch ++ [(css.drop sp).take (p - sp)] ++ [[E.1]]) _ upd_snoc2 hb (Nat.le_refl _) ?_ ?_ ?_⟩
          · rw [← h3, flat_snoc, flat_snoc, Nat.sub_self, List.take_zero, List.append_nil, List.append_assoc _ [E.1]]; rfl
          · rw [← h4]; exact ac3 _ _ _
          · rw [List.length_append, List.length_append]; exact ch2 _ h5
      · exact tst_neg (fun h => h92 (cons1 h)) (tst_dF (fin (by rw [hd, identSpec_stop hnc (fun h => h92 h.1)]) h1 h3 h4 h5))
end Mine
end
section
set_option backward.match.sparseCases false
namespace Mine
open PySem PySem.W
variable {B : Base} {T : Tab} {d : Nat}
noncomputable def subH (H H' : AH) : Prop := ∀ a x, H a = some x → H' a = some x
theorem StC.weaken {z P : PH} {H H' : AH} {s : Shared} (S : StC B z P H' s) (h : subH H H') (ht : TabIn B H) : StC B z P H s := by
  refine ⟨S.base, S.zin, fun a o e => ?_, fun a x e => S.hin a x (h a x e), S.os, S.gens, S.tk.1, ht⟩
  obtain ⟨a1, a2, a3⟩ := S.pin a o e
  refine ⟨a1, a2, ?_⟩
  cases hh : H a with
  | none => rfl
  | some x => rw [h a x hh] at a3; cases a3
theorem subH_upd {H : AH} {l : Addr} (h : H l = none) (o : AO) : subH H (H.upd l o) := by
  intro a x e
  unfold AH.upd
  split
  · rename_i q; subst q; rw [h] at e; cases e
  · exact e
theorem subH_refl (H : AH) : subH H H := fun xx xx e => e
noncomputable def keqS (r : PV) (H : AH) : KE := fun v H' => v = r ∧ subH H H'
noncomputable def isRetS (r : PV) (H : AH) : KS := kdef (keqS r H)
theorem conDefS (G : GoodB B) (GT : GoodT B T) {nm : Str} {params : List Str} {np : Nat} {exP : List PV} {vars : List Str} {ms : List MS} (F : FnAt B nm params np exP vars ms) {vs : List PV} {r : PV}
    (hl : vs.length = np) (h : ∀ H, vcSs B T d ms (isRetS r H) (initLoc (vs ++ exP) vars.length) H) : Con B (d + 1) nm vs r := by
  obtain ⟨fv, hm, F⟩ := F.it
  refine ⟨fv, hm, F.keep, fun H z P s A vals R SC hr => ?_⟩
  refine wpAny_mono (callDef (Q := keqS r H) G GT F hl (h H) z P s A vals R SC hr) ?_ (fun xx xx x => x)
  rintro v s' ⟨z', p, H', le, S', rv, rfl, hs⟩
  exact ⟨z', p, H, le, S'.weaken hs SC.tk.2, rv, rfl, rfl⟩
noncomputable def quotedF (q : Nat) (s : List Nat) (f : (t : List Nat) → t.length < s.length → Option (List Nat) × Nat × Nat) : Option (List Nat) × Nat × Nat := match s, f with
  | [], _ => (some [], 0, 1)
  | c :: r, f => if c = q then (some [], 1, 0)
    else if c = 92 then (if r = [] then (some [], 1, 1)
      else if r.head? = some 10 then ((f (r.drop 1) dlt).1, (f (r.drop 1) dlt).2.1 + 2, (f (r.drop 1) dlt).2.2)
      else ((f (r.drop (escSpec r).2) dlt).1.map ((escSpec r).1 :: ·), (f (r.drop (escSpec r).2) dlt).2.1 + (escSpec r).2 + 1, (f (r.drop (escSpec r).2) dlt).2.2))
    else if c = 10 then (none, 0, 2)
    else ((f r rlt).1.map (c :: ·), (f r rlt).2.1 + 1, (f r rlt).2.2)
@[irreducible] noncomputable def quotedSpec (q : Nat) : List Nat → Option (List Nat) × Nat × Nat := WellFounded.fix (measure List.length).wf (quotedF q)
theorem quotedSpec_nil (q : Nat) : quotedSpec q [] = (some [], 0, 1) := by
  delta quotedSpec; exact WellFounded.fix_eq _ _ _
theorem quotedSpec_cons (q c : Nat) (r : List Nat) : quotedSpec q (c :: r) = if c = q then (some [], 1, 0)
    else if c = 92 then (if r = [] then (some [], 1, 1)
      else if r.head? = some 10 then ((quotedSpec q (r.drop 1)).1, (quotedSpec q (r.drop 1)).2.1 + 2, (quotedSpec q (r.drop 1)).2.2)
      else ((quotedSpec q (r.drop (escSpec r).2)).1.map ((escSpec r).1 :: ·), (quotedSpec q (r.drop (escSpec r).2)).2.1 + (escSpec r).2 + 1, (quotedSpec q (r.drop (escSpec r).2)).2.2))
    else if c = 10 then (none, 0, 2)
    else ((quotedSpec q r).1.map (c :: ·), (quotedSpec q r).2.1 + 1, (quotedSpec q r).2.2) := by
  delta quotedSpec; exact WellFounded.fix_eq _ _ _
noncomputable def eofPV : PV := .tup [.str [101, 111, 102, 45, 105, 110, 45, 115, 116, 114, 105, 110, 103], .str [69, 79, 70, 32, 105, 110, 32, 115, 116, 114, 105, 110, 103]]
noncomputable def badPV : PV := .tup [.str [98, 97, 100, 45, 115, 116, 114, 105, 110, 103], .str [66, 97, 100, 32, 115, 116, 114, 105, 110, 103, 32, 116, 111, 107, 101, 110]]
noncomputable def errPV : Nat → PV
  | 0 => .none
  | 1 => eofPV
  | _ => badPV
noncomputable def optPV : Option (List Nat) → PV
  | none => .none
  | some s => .str s
theorem quotedSpec_len (q : Nat) : ∀ (n : Nat) (s : List Nat), s.length ≤ n → (∀ v, (quotedSpec q s).1 = some v → v.length ≤ s.length) ∧ (quotedSpec q s).2.1 ≤ s.length
  | _, [], _ => by rw [quotedSpec_nil]; simp
  | 0, _ :: _, h => by simp at h
  | n + 1, c :: r, h => by
    rw [quotedSpec_cons]
    simp only [List.length_cons] at h ⊢
    split
    · simp
    · split
      · split
        · simp
        · rename_i hr
          have hr0 : 0 < r.length := List.length_pos_iff.mpr hr
          split
          · have := quotedSpec_len q n (r.drop 1) (Nat.le_trans (List.drop_sublist _ _).length_le (Nat.le_of_succ_le_succ h))
            rw [List.length_drop] at this
            exact ⟨fun v hv => Nat.le_succ_of_le (le_sub_le (this.1 v hv)), Nat.succ_le_succ (Nat.add_le_of_le_sub hr0 this.2)⟩
          · have h1 := escSpec_le r
            have := quotedSpec_len q n (r.drop (escSpec r).2) (Nat.le_trans (List.drop_sublist _ _).length_le (Nat.le_of_succ_le_succ h))
            rw [List.length_drop] at this
            have h2 := h1.2 hr
            refine ⟨fun v hv => ?_, Nat.succ_le_succ (Nat.add_le_of_le_sub h1.1 this.2)⟩
            obtain ⟨v', hv', rfl⟩ := Option.map_eq_some_iff.mp hv
            exact Nat.succ_le_succ (le_sub_le (this.1 v' hv'))
      · split
        · simp
        · have := quotedSpec_len q n r (Nat.le_of_succ_le_succ h)
          refine ⟨fun v hv => ?_, Nat.succ_le_succ this.2⟩
          obtain ⟨v', hv', rfl⟩ := Option.map_eq_some_iff.mp hv
          exact Nat.succ_le_succ (this.1 v' hv')
theorem qs_nil {q : Nat} : quotedSpec q [] = (some [], 0, 1) := quotedSpec_nil q
theorem qs_q {q : Nat} {r : List Nat} : quotedSpec q (q :: r) = (some [], 1, 0) := by rw [quotedSpec_cons, if_pos rfl]
theorem qs_bs {q : Nat} {r : List Nat} (h : ¬ 92 = q) : quotedSpec q (92 :: r) = if r = [] then (some [], 1, 1)
      else if r.head? = some 10 then ((quotedSpec q (r.drop 1)).1, (quotedSpec q (r.drop 1)).2.1 + 2, (quotedSpec q (r.drop 1)).2.2)
      else ((quotedSpec q (r.drop (escSpec r).2)).1.map ((escSpec r).1 :: ·), (quotedSpec q (r.drop (escSpec r).2)).2.1 + (escSpec r).2 + 1, (quotedSpec q (r.drop (escSpec r).2)).2.2) := by
  rw [quotedSpec_cons, if_neg h, if_pos rfl]
theorem qs_nl {q : Nat} {r : List Nat} (h : ¬ 10 = q) : quotedSpec q (10 :: r) = (none, 0, 2) := by rw [quotedSpec_cons, if_neg h, if_neg (by decide), if_pos rfl]
theorem qs_ch {q c : Nat} {r : List Nat} (h : ¬ c = q) (h1 : ¬ c = 92) (h2 : ¬ c = 10) : quotedSpec q (c :: r) = ((quotedSpec q r).1.map (c :: ·), (quotedSpec q r).2.1 + 1, (quotedSpec q r).2.2) := by
  rw [quotedSpec_cons, if_neg h, if_neg h1, if_neg h2]
theorem omap {f g : List Nat → List Nat} (h : ∀ v, f v = g v) (o : Option (List Nat)) : o.map f = o.map g := by rw [funext h]
inductive QuI (q : Nat) (css : List Nat) (l : Addr) (V : Option (List Nat)) (W E : Nat) (H : AH) : Nat → Loc → AH → Prop where
  | mk {H' : AH} (p sp : Nat) (ch : List (List Nat)) (cv : Option PV) (h0 : H' = H.upd l (.list (chPV ch))) (h1 : p ≤ css.length) (h2 : sp ≤ p) (h3 : (quotedSpec q (css.drop p)).1.map (fun v => ch.flatten ++ (css.drop sp).take (p - sp) ++ v) = V) (h4 : p + (quotedSpec q (css.drop p)).2.1 = W)
    (h6 : (quotedSpec q (css.drop p)).2.2 = E) (h5 : ch.length ≤ 2 * p) : QuI q css l V W E H (css.length - p) [some (.str css), some (.int (p : Nat)), some .none, some (.str [q]), some (.ref l), some (.int css.length), some (.int (sp : Nat)), cv] H'
theorem quoted_ok (G : GoodB B) (GT : GoodT B T) (F : FnAt B "_consume_quoted_string" p_consume_quoted_string 2 [] v_consume_quoted_string m_consume_quoted_string)
    (he : ∀ (css : List Nat) (pos : Nat), Con B d "_consume_escape" [.str css, .int pos] (.tup [.str [(escSpec (css.drop pos)).1], .int (pos + (escSpec (css.drop pos)).2 : Nat)]))
    {css : List Nat} {pos q : Nat} (hL : css.length ≤ 100000) (hq : css[pos]? = some q) (hq' : q = 34 ∨ q = 39) :
    Con B (d + 1) "_consume_quoted_string" [.str css, .int pos] (.tup [optPV (quotedSpec q (css.drop (pos + 1))).1, .int (pos + 1 + (quotedSpec q (css.drop (pos + 1))).2.1 : Nat), errPV (quotedSpec q (css.drop (pos + 1))).2.2]) := by
  refine conDefS G GT F rfl fun H => ⟨q, hq, ?_, fun l hl => ?_⟩
  · rcases hq' with rfl | rfl
    · exact List.mem_cons_self
    · exact List.mem_cons_of_mem _ List.mem_cons_self
  have hq9 : ¬ 92 = q ∧ ¬ 10 = q := by rcases hq' with rfl | rfl <;> decide
  have hVl : ∀ v, (quotedSpec q (css.drop (pos + 1))).1 = some v → v.length ≤ 16777216 := fun v hv => le17 (Nat.le_trans (Nat.le_trans ((quotedSpec_len q _ (css.drop (pos + 1)) (Nat.le_refl _)).1 v hv) (List.drop_sublist _ _).length_le) hL)
  generalize hV1 : (quotedSpec q (css.drop (pos + 1))).1 = V at *
  generalize hW1 : pos + 1 + (quotedSpec q (css.drop (pos + 1))).2.1 = W
  generalize hE1 : (quotedSpec q (css.drop (pos + 1))).2.2 = E
  have fin : ∀ {p sp : Nat} {ch : List (List Nat)} {x : List Nat} {ev : PV} {cv : Option PV}, some (ch.flatten ++ x) = V → p = W → ev = errPV E →
      vcSs B T d r_consume_quoted_string_2 (isRetS (.tup [optPV V, .int W, errPV E]) H) [some (.str css), some (.int p), some ev, some (.str [q]), some (.ref l), some (.int css.length), some (.int sp), cv] ((H.upd l (.list (chPV ch))).upd l (.list (chPV ch ++ [.str x]))) := by
    rintro p sp ch x ev cv h1 rfl rfl
    rw [← flat_snoc] at h1
    refine ⟨_, upd_self .., _, allStr_snoc, hVl _ h1.symm, ?_, ?_⟩
    · rw [← h1]; rfl
    · rw [del_upd2 hl]; exact subH_refl H
  refine wh_mk (QuI q css l V W E H) (css.length - (pos + 1)) (.mk (pos + 1) (pos + 1) [] none rfl (get_lt hq) (Nat.le_refl _) ?_ hW1 hE1 (Nat.zero_le _)) ?_
  · rw [hV1, Nat.sub_self]; cases V <;> rfl
  rintro _ _ _ ⟨p, sp, ch, cv, rfl, h1, h2, h3, h4, h6, h5⟩
  have hpL := Nat.le_trans h1 hL
  cases hg : css[p]? with
  | none =>
    rw [drop_none hg, qs_nil] at h3 h4 h6
    refine tst_neg (lt_no hg) ⟨⟨_, upd_self ..⟩, app_mk (upd_self ..) (chPV_le h5 hpL) ⟨rfl, fin ?_ h4 (by rw [← h6]; rfl)⟩⟩
    rw [← h3, Option.map_some, List.append_nil]
  | some c =>
    have hlt := get_lt hg
    have hd := drop_get hg
    rw [hd] at h3 h4 h6
    refine tst_pos (lt_yes hg) ⟨c, hg, ?_⟩
    by_cases hcq : c = q
    · subst hcq
      rw [qs_q] at h3 h4 h6
      refine tst_pos rfl ⟨⟨_, upd_self ..⟩, app_mk (upd_self ..) (chPV_le h5 hpL) ⟨rfl, fin ?_ h4 (by rw [← h6]; rfl)⟩⟩
      rw [← h3, Option.map_some, List.append_nil]
    · refine tst_neg (fun h => hcq (cons1 h)) ?_
      by_cases h92 : c = 92
      · subst h92
        rw [qs_bs hq9.1] at h3 h4 h6
        refine tst_pos rfl ⟨⟨_, upd_self ..⟩, app_mk (upd_self ..) (chPV_le h5 hpL) ⟨rfl, ?_⟩⟩
        cases hg1 : css[p + 1]? with
        | none =>
          rw [drop_none hg1, if_pos rfl] at h3 h4 h6
          refine tst_neg (lt_no hg1) ⟨_, meas hlt, .mk (p + 1) (p + 1) _ _ upd_snoc hlt (Nat.le_refl _) ?_ ?_ ?_ ?_⟩
          · rw [drop_none hg1, qs_nil, flat_snoc, ← h3, List.take_nil, List.append_nil]
          · rw [drop_none hg1, qs_nil, ← h4]; rfl
          · rw [drop_none hg1, qs_nil, ← h6]
          · rw [List.length_append]; exact ch11 h5
        | some c2 =>
          have hlt1 := get_lt hg1
          have hd1 := drop_get hg1
          rw [if_neg (by rw [hd1]; exact List.cons_ne_nil _ _), hd1, List.head?_cons, ← hd1] at h3 h4 h6
          refine tst_pos (lt_yes hg1) ⟨c2, hg1, ?_⟩
          by_cases h10 : c2 = 10
          · subst h10
            rw [if_pos rfl, List.drop_drop] at h3 h4 h6
            refine tst_pos rfl ⟨css.length - (p + 1 + 1), Nat.sub_lt_sub_left hlt lt1_of, .mk (p + 1 + 1) (p + 1 + 1) _ _ upd_snoc hlt1 (Nat.le_refl _) ?_ ?_ h6 ?_⟩
            · rw [← h3, flat_snoc, Nat.sub_self, List.take_zero, List.append_nil]
            · rw [← h4]; exact ac2 _ _
            · rw [List.length_append]; exact Nat.le_of_succ_le (ch2 1 h5)
          · rw [if_neg (fun h => h10 (Option.some.inj h)), List.drop_drop] at h3 h4 h6
            have hle := escSpec_le (css.drop (p + 1))
            have hle2 := hle.2 (by rw [hd1]; exact List.cons_ne_nil _ _)
            have hle1 := hle.1
            rw [List.length_drop] at hle1
            refine tst_neg (fun h => h10 (cons1 h)) ⟨(he css (p + 1)).b, (he css (p + 1)).use ⟨rfl, ⟨_, upd_self ..⟩, app_mk (upd_self ..) (chPV_le1 h5 hpL) ⟨rfl, ?_⟩⟩⟩
            generalize escSpec (css.drop (p + 1)) = X at *
            have hb : p + 1 + X.2 ≤ css.length := add_sub_le hle1 hlt
            refine ⟨css.length - (p + 1 + X.2), Nat.sub_lt_sub_left hlt lt1_of, .mk (p + 1 + X.2) (p + 1 + X.2) (ch ++ [(css.drop sp).take (p - sp)] ++ [[X.1]]) _ upd_snoc2 hb (Nat.le_refl _) ?_ ?_ h6 ?_⟩
            · rw [← h3, Option.map_map]
              refine omap (fun v => ?_) _
              rw [flat_snoc, flat_snoc, Nat.sub_self, List.take_zero, List.append_nil, List.append_assoc _ [X.1]]; rfl
            · rw [← h4]; exact ac3 _ _ _
            · rw [List.length_append, List.length_append]; exact ch2 _ h5
      · refine tst_neg (fun h => h92 (cons1 h)) ?_
        by_cases h10 : c = 10
        · subst h10
          rw [qs_nl hq9.2] at h3 h4 h6
          refine tst_pos rfl ⟨?_, subH_upd hl _⟩
          rw [← h3, ← h4, ← h6]; rfl
        · rw [qs_ch hcq h92 h10] at h3 h4 h6
          refine tst_neg (fun h => h10 (cons1 h)) ⟨_, meas hlt, .mk (p + 1) sp ch _ rfl hlt (Nat.le_succ_of_le h2) ?_ ?_ h6 (ch1 h5)⟩
          · rw [take_snoc hg h2, ← h3, Option.map_map]
            refine omap (fun v => ?_) _
            rw [← List.append_assoc, List.append_assoc _ [c]]; rfl
          · rw [← h4]; exact Nat.succ_add_eq_add_succ ..
end Mine
end
section
set_option backward.match.sparseCases false
namespace Mine
open PySem PySem.W
variable {B : Base} {T : Tab} {d : Nat}
structure ClsAt (B : Base) (T : Tab) (nm : Str) (C : Addr) (params : List Str) (np : Nat) (vars : List Str) (ms : List MS) (own : List Str) : Prop where
  mg : B.mg nm = some (.ref C)
  keep : KeepOk B (.ref C)
  make : ∃ K fI, Frag.In K B.heap ∧ makesIn K C = true ∧ findIn K (.ref C) "__init__" = some (some (.ref fI)) ∧ typeIn K (.ref fI) = some (.type "function") ∧ FnOK B (.ref fI) params np [] vars ms
  sat : ∀ (i : Nat) (n : Str), (own ++ [("source_column" : Str), ("source_line" : Str)])[i]? = some n → T.sat C n = some i
noncomputable def kmade (C x : Addr) (fs : List PV) (H : AH) : KE := fun v H' => v = .none ∧ H' = H.upd x (.inst C (fs.map some))
theorem CallCode.mono {fv : Value} {vs : List PV} {H : AH} {Q Q' : PV → AH → Prop} (h : CallCode B d fv vs H Q) (hq : ∀ v H, Q v H → Q' v H) : CallCode B d fv vs H Q' := by
  intro z P s A vals R SC hr
  refine codeAny_mono (h z P s A vals R SC hr) ?_
  intro r s' x
  rcases r with e | (v | _ | _ | _) <;> first | exact x | exact x.elim | skip
  obtain ⟨z', p, H', a, b, c, e⟩ := x
  exact ⟨z', p, H', a, b, c, hq _ _ e⟩
theorem conCls (G : GoodB B) (GT : GoodT B T) {nm : Str} {C : Addr} {params : List Str} {np : Nat} {vars : List Str} {ms : List MS} {own : List Str} (K : ClsAt B T nm C params np vars ms own) {vs fs : List PV} (hl : vs.length + 1 = np)
    (h : ∀ H x, H x = none → vcSs B T d ms (kdef (kmade C x fs H)) (initLoc (.ref x :: vs) vars.length) (H.upd x (.inst C []))) : Con B (d + 2) nm vs (.node C fs) := by
  obtain ⟨Kf, fI, X, hm, hi, hf, F⟩ := K.make
  refine ⟨_, K.mg, K.keep, fun H => CallCode.sem ?_⟩
  refine callCls X hm hi hf fun x hx => ?_
  refine (callDefC (Q := kmade C x fs H) G GT F (by simpa using hl) ?_).mono ?_
  · rw [List.append_nil]; exact h H x hx
  · rintro v H' ⟨rfl, rfl⟩
    exact ⟨rfl, fs, upd_self _ _ _, rfl, del_upd hx _⟩
theorem node_init_ok (G : GoodB B) (GT : GoodT B T) {fv : Value} (F : FnOK B fv p_Node_init 3 [] v_Node_init m_Node_init) {x C : Addr} {l c : PV} {H : AH} {fs : List (Option PV)} {i j : Nat} {Q : PV → AH → Prop}
    (hx : H x = some (.inst C fs)) (hi : T.sat C "source_line" = some i) (hj : T.sat C "source_column" = some j) (hi' : i < 1000) (hj' : j < 1000)
    (hq : Q .none (H.upd x (.inst C (slotSet (slotSet fs i l) j c)))) : CallSem B (d + 1) fv [.ref x, l, c] H Q := by
  exact callDef G GT F rfl (sat_mk hx hi hi' (sat_mk (upd_self ..) hj hj' (by rw [upd_upd]; exact hq)))
structure NodeAt (B : Base) (T : Tab) : Prop where
  it : ∃ fv, T.stat "Node" "__init__" = some fv ∧ FnOK B fv p_Node_init 3 [] v_Node_init m_Node_init
theorem mapW_str {f : PV → KE → AH → Prop} {g : Nat → List Nat} : ∀ {s : List Nat} {Q : KL} {H : AH}, (∀ c ∈ s, ∀ (Q : KE) (H : AH), Q (.str (g c)) H → f (.str [c]) Q H) → Q (chPV (s.map g)) H → mapW f (s.map fun c => .str [c]) Q H
  | [], _, _, _, hq => hq
  | c :: r, Q, H, h, hq => h c List.mem_cons_self _ _ (mapW_str (Q := fun rs H'' => Q (.str (g c) :: rs) H'') (fun y hy => h y (List.mem_cons_of_mem _ hy)) hq)
noncomputable def lowC (c : Nat) : Nat := if 65 ≤ c ∧ c ≤ 90 then c + 32 else c
theorem flat_one (f : Nat → Nat) : ∀ s : List Nat, (s.map fun c => [f c]).flatten = s.map f
  | [] => rfl
  | a :: r => by rw [List.map_cons, List.flatten_cons, flat_one f r]; rfl
theorem lower_ok (G : GoodB B) (GT : GoodT B T) (F : FnAt B "ascii_lower" p_ascii_lower 1 [] v_ascii_lower m_ascii_lower) {s : List Nat} (hL : s.length ≤ 100000) : Con B (d + 1) "ascii_lower" [.str s] (.str (s.map lowC)) := by
  refine conDef G GT F rfl fun H => ⟨_, rfl, by rw [List.length_map]; lia, mapW_str (g := fun c => [lowC c]) (fun c hc Q H hq => ?_) ⟨_, allStr_chPV _, ?_, ?_, rfl⟩⟩
  · unfold lowC at hq
    by_cases h1 : 65 ≤ c
    · refine tst_pos h1 ?_
      by_cases h2 : c ≤ 90
      · rw [if_pos ⟨h1, h2⟩] at hq
        exact tst_pos h2 ⟨Nat.lt_of_le_of_lt (Nat.add_le_add_right h2 32) (by decide), hq⟩
      · rw [if_neg (fun h => h2 h.2)] at hq
        exact tst_neg h2 hq
    · rw [if_neg (fun h => h1 h.1)] at hq
      exact tst_neg h1 (tst_dF hq)
  · rw [flat_one, List.length_map]; lia
  · rw [flat_one]
theorem sat_mk' {nm : Str} {l : Addr} {v : PV} {Q : AH → Prop} {H : AH} {c : Addr} {fs fs' : List (Option PV)} {o : AO} {i : Nat} (h : T.sat c nm = some i) (hi : i < 1000) (e : slotSet fs i v = fs') (q : Q (H.upd l (.inst c fs'))) (ho : o = .inst c fs) : satB T nm l v Q (H.upd l o) := by
  subst e; subst ho
  exact sat_mk (upd_self ..) h hi (by rw [upd_upd]; exact q)
section
variable {C : Addr} {own : List Str}
theorem made_of {x : Addr} {fs : List PV} {H : AH} {o : AO} (e : o = .inst C (fs.map some)) {H' : AH} (h : H' = H.upd x o) : kmade C x fs H .none H' := ⟨rfl, by rw [h, e]⟩
theorem cls_value1 (G : GoodB B) (GT : GoodT B T) (N : NodeAt B T) {nm : Str}
    (K : ClsAt B T nm C p_WhitespaceToken_init 4 v_WhitespaceToken_init m_WhitespaceToken_init ["value"]) (l c v : PV) : Con B (d + 3) nm [l, c, v] (.node C [v, c, l]) := by
  refine conCls G GT K rfl fun H x hx => ?_
  obtain ⟨fv, hs, F⟩ := N.it
  refine ⟨⟨fv, hs, F.keep⟩, fv, hs, node_init_ok G GT F (upd_self _ _ _) (K.sat 2 _ rfl) (K.sat 1 _ rfl) (by decide) (by decide) ⟨rfl, ?_⟩⟩
  refine sat_mk (upd_self ..) (K.sat 0 _ rfl) (by decide) ?_
  exact made_of rfl (by rw [upd_upd, upd_upd]; rfl)
theorem cls_ident (G : GoodB B) (GT : GoodT B T) (N : NodeAt B T) {nm : Str} (ha : ∀ s : List Nat, s.length ≤ 100000 → Con B (d + 1) "ascii_lower" [.str s] (.str (s.map lowC)))
    (K : ClsAt B T nm C p_IdentToken_init 4 v_IdentToken_init m_IdentToken_init ["lower_value", "value"]) (l c : PV) {s : List Nat} (hs : s.length ≤ 100000) :
    Con B (d + 3) nm [l, c, .str s] (.node C [.str (s.map lowC), .str s, c, l]) := by
  refine conCls G GT K rfl fun H x hx => ?_
  obtain ⟨fv, hst, F⟩ := N.it
  refine ⟨⟨fv, hst, F.keep⟩, fv, hst, node_init_ok G GT F (upd_self _ _ _) (K.sat 3 _ rfl) (K.sat 2 _ rfl) (by decide) (by decide) ⟨rfl, ?_⟩⟩
  refine sat_mk (upd_self ..) (K.sat 1 _ rfl) (by decide) ⟨(ha s hs).b, (ha s hs).use ?_⟩
  refine sat_mk (upd_self ..) (K.sat 0 _ rfl) (by decide) ?_
  exact made_of rfl (by rw [upd_upd, upd_upd, upd_upd]; rfl)
theorem cls_hash (G : GoodB B) (GT : GoodT B T) (N : NodeAt B T) {nm : Str}
    (K : ClsAt B T nm C p_HashToken_init 5 v_HashToken_init m_HashToken_init ["is_identifier", "value"]) (l c v b : PV) : Con B (d + 3) nm [l, c, v, b] (.node C [b, v, c, l]) := by
  refine conCls G GT K rfl fun H x hx => ?_
  obtain ⟨fv, hs, F⟩ := N.it
  refine ⟨⟨fv, hs, F.keep⟩, fv, hs, node_init_ok G GT F (upd_self _ _ _) (K.sat 3 _ rfl) (K.sat 2 _ rfl) (by decide) (by decide) ⟨rfl, ?_⟩⟩
  refine sat_mk (upd_self ..) (K.sat 1 _ rfl) (by decide) (sat_mk (upd_self ..) (K.sat 0 _ rfl) (by decide) ?_)
  exact made_of rfl (by rw [upd_upd, upd_upd, upd_upd]; rfl)
theorem cls_string (G : GoodB B) (GT : GoodT B T) (N : NodeAt B T) {nm : Str}
    (K : ClsAt B T nm C p_StringToken_init 5 v_StringToken_init m_StringToken_init ["representation", "value"]) (l c v b : PV) : Con B (d + 3) nm [l, c, v, b] (.node C [b, v, c, l]) := by
  refine conCls G GT K rfl fun H x hx => ?_
  obtain ⟨fv, hs, F⟩ := N.it
  refine ⟨⟨fv, hs, F.keep⟩, fv, hs, node_init_ok G GT F (upd_self _ _ _) (K.sat 3 _ rfl) (K.sat 2 _ rfl) (by decide) (by decide) ⟨rfl, ?_⟩⟩
  refine sat_mk (upd_self ..) (K.sat 1 _ rfl) (by decide) (sat_mk (upd_self ..) (K.sat 0 _ rfl) (by decide) ?_)
  exact made_of rfl (by rw [upd_upd, upd_upd, upd_upd]; rfl)
theorem cls_error (G : GoodB B) (GT : GoodT B T) (N : NodeAt B T) {nm : Str}
    (K : ClsAt B T nm C p_ParseError_init 5 v_ParseError_init m_ParseError_init ["kind", "message"]) (l c k m : PV) : Con B (d + 3) nm [l, c, k, m] (.node C [k, m, c, l]) := by
  refine conCls G GT K rfl fun H x hx => ?_
  obtain ⟨fv, hs, F⟩ := N.it
  refine ⟨⟨fv, hs, F.keep⟩, fv, hs, node_init_ok G GT F (upd_self _ _ _) (K.sat 3 _ rfl) (K.sat 2 _ rfl) (by decide) (by decide) ⟨rfl, ?_⟩⟩
  refine sat_mk (upd_self ..) (K.sat 0 _ rfl) (by decide) (sat_mk (upd_self ..) (K.sat 1 _ rfl) (by decide) ?_)
  exact made_of rfl (by rw [upd_upd, upd_upd, upd_upd]; rfl)
theorem cls_number (G : GoodB B) (GT : GoodT B T) (N : NodeAt B T) {nm : Str} 
    (K : ClsAt B T nm C p_NumberToken_init 6 v_NumberToken_init m_NumberToken_init ["int_value", "is_integer", "representation", "value"]) (l c v n r : PV) :
    Con B (d + 3) nm [l, c, v, n, r] (.node C [n, .bool (!isN n), r, v, c, l]) := by
  refine conCls G GT K rfl fun H x hx => ?_
  obtain ⟨fv, hs, F⟩ := N.it
  refine ⟨⟨fv, hs, F.keep⟩, fv, hs, node_init_ok G GT F (upd_self _ _ _) (K.sat 5 _ rfl) (K.sat 4 _ rfl) (by decide) (by decide) ⟨rfl, ?_⟩⟩
  refine sat_mk' (fs := [none, none, none, none, some c, some l]) (fs' := [none, none, none, some v, some c, some l]) (K.sat 3 _ rfl) (by decide) rfl (?_) rfl
  refine sat_mk' (fs := [none, none, none, some v, some c, some l]) (fs' := [some n, none, none, some v, some c, some l]) (K.sat 0 _ rfl) (by decide) rfl (?_) rfl
  refine sat_mk' (fs := [some n, none, none, some v, some c, some l]) (fs' := [some n, some (.bool (DP.dec ⟨isN n = false, inferInstance⟩)), none, some v, some c, some l]) (K.sat 1 _ rfl) (by decide) rfl (?_) rfl
  refine sat_mk' (fs := [some n, some (.bool (DP.dec ⟨isN n = false, inferInstance⟩)), none, some v, some c, some l]) (fs' := [some n, some (.bool (DP.dec ⟨isN n = false, inferInstance⟩)), some r, some v, some c, some l]) (K.sat 2 _ rfl) (by decide) rfl (?_) rfl
  refine made_of ?_ (upd_upd ..)
  cases n <;> rfl
theorem cls_dimension (G : GoodB B) (GT : GoodT B T) (N : NodeAt B T) {nm : Str} (ha : ∀ s : List Nat, s.length ≤ 100000 → Con B (d + 1) "ascii_lower" [.str s] (.str (s.map lowC)))
    (K : ClsAt B T nm C p_DimensionToken_init 7 v_DimensionToken_init m_DimensionToken_init ["int_value", "is_integer", "lower_unit", "representation", "unit", "value"]) (l c v n r : PV) {u : List Nat} (hu : u.length ≤ 100000) :
    Con B (d + 3) nm [l, c, v, n, r, .str u] (.node C [n, .bool (!isN n), .str (u.map lowC), r, .str u, v, c, l]) := by
  refine conCls G GT K rfl fun H x hx => ?_
  obtain ⟨fv, hs, F⟩ := N.it
  refine ⟨⟨fv, hs, F.keep⟩, fv, hs, node_init_ok G GT F (upd_self _ _ _) (K.sat 7 _ rfl) (K.sat 6 _ rfl) (by decide) (by decide) ⟨rfl, ?_⟩⟩
  refine sat_mk' (fs := [none, none, none, none, none, none, some c, some l]) (fs' := [none, none, none, none, none, some v, some c, some l]) (K.sat 5 _ rfl) (by decide) rfl (?_) rfl
  refine sat_mk' (fs := [none, none, none, none, none, some v, some c, some l]) (fs' := [some n, none, none, none, none, some v, some c, some l]) (K.sat 0 _ rfl) (by decide) rfl (?_) rfl
  refine sat_mk' (fs := [some n, none, none, none, none, some v, some c, some l]) (fs' := [some n, some (.bool (DP.dec ⟨isN n = false, inferInstance⟩)), none, none, none, some v, some c, some l]) (K.sat 1 _ rfl) (by decide) rfl (?_) rfl
  refine sat_mk' (fs := [some n, some (.bool (DP.dec ⟨isN n = false, inferInstance⟩)), none, none, none, some v, some c, some l]) (fs' := [some n, some (.bool (DP.dec ⟨isN n = false, inferInstance⟩)), none, some r, none, some v, some c, some l]) (K.sat 3 _ rfl) (by decide) rfl (?_) rfl
  refine sat_mk' (fs := [some n, some (.bool (DP.dec ⟨isN n = false, inferInstance⟩)), none, some r, none, some v, some c, some l]) (fs' := [some n, some (.bool (DP.dec ⟨isN n = false, inferInstance⟩)), none, some r, some (.str u), some v, some c, some l]) (K.sat 4 _ rfl) (by decide) rfl (?_) rfl
  refine ⟨(ha u hu).b, (ha u hu).use ?_⟩
  refine sat_mk' (fs := [some n, some (.bool (DP.dec ⟨isN n = false, inferInstance⟩)), none, some r, some (.str u), some v, some c, some l]) (fs' := [some n, some (.bool (DP.dec ⟨isN n = false, inferInstance⟩)), some (.str (u.map lowC)), some r, some (.str u), some v, some c, some l]) (K.sat 2 _ rfl) (by decide) rfl (?_) rfl
  refine made_of ?_ (upd_upd ..)
  cases n <;> rfl
theorem cls_block (G : GoodB B) (GT : GoodT B T) (N : NodeAt B T) {nm : Str}
    (K : ClsAt B T nm C p_ParenthesesBlock_init 4 v_ParenthesesBlock_init m_ParenthesesBlock_init ["content"]) (l c v : PV) : Con B (d + 3) nm [l, c, v] (.node C [v, c, l]) := by
  refine conCls G GT K rfl fun H x hx => ?_
  obtain ⟨fv, hs, F⟩ := N.it
  refine ⟨⟨fv, hs, F.keep⟩, fv, hs, node_init_ok G GT F (upd_self _ _ _) (K.sat 2 _ rfl) (K.sat 1 _ rfl) (by decide) (by decide) ⟨rfl, ?_⟩⟩
  refine sat_mk (upd_self ..) (K.sat 0 _ rfl) (by decide) ?_
  exact made_of rfl (by rw [upd_upd, upd_upd]; rfl)
theorem cls_func (G : GoodB B) (GT : GoodT B T) (N : NodeAt B T) {nm : Str} (ha : ∀ s : List Nat, s.length ≤ 100000 → Con B (d + 1) "ascii_lower" [.str s] (.str (s.map lowC)))
    (K : ClsAt B T nm C p_FunctionBlock_init 5 v_FunctionBlock_init m_FunctionBlock_init ["arguments", "lower_name", "name"]) (l c a : PV) {s : List Nat} (hs : s.length ≤ 100000) :
    Con B (d + 3) nm [l, c, .str s, a] (.node C [a, .str (s.map lowC), .str s, c, l]) := by
  refine conCls G GT K rfl fun H x hx => ?_
  obtain ⟨fv, hst, F⟩ := N.it
  refine ⟨⟨fv, hst, F.keep⟩, fv, hst, node_init_ok G GT F (upd_self _ _ _) (K.sat 4 _ rfl) (K.sat 3 _ rfl) (by decide) (by decide) ⟨rfl, ?_⟩⟩
  refine sat_mk (upd_self ..) (K.sat 2 _ rfl) (by decide) ⟨(ha s hs).b, (ha s hs).use ?_⟩
  refine sat_mk (upd_self ..) (K.sat 1 _ rfl) (by decide) (sat_mk (upd_self ..) (K.sat 0 _ rfl) (by decide) ?_)
  exact made_of rfl (by rw [upd_upd, upd_upd, upd_upd, upd_upd]; rfl)
end
end Mine
end
section
set_option backward.match.sparseCases false
namespace Mine
open PySem PySem.W PySem.StrLaws PySem.Builtin PySem.Builtin.Str
noncomputable def lastR (p : Nat → Bool) : Nat → Nat → Option Nat
  | _, 0 => none
  | lo, n + 1 => match lastR p (lo + 1) n with
    | some i => some i
    | none => if p lo then some lo else none
noncomputable def countR (p : Nat → Bool) : Nat → Nat → Nat
  | _, 0 => 0
  | lo, n + 1 => countR p (lo + 1) n + if p lo then 1 else 0
theorem sub_one (s : List Nat) (c i : Nat) : subAt (sOf s) (sOf [c]) i = true ↔ s[i]? = some c := by
  have h := startsAt_eq s [c] i
  rw [sw1] at h
  by_cases hi : i + 1 ≤ s.length
  · have : decide (i + (sOf [c]).length ≤ (sOf s).length) = true := by rw [sOf_length, sOf_length]; simpa using hi
    rw [this, Bool.true_and] at h
    rw [h]; simp
  · have h0 : s[i]? = none := List.getElem?_eq_none_iff.mpr (by lia)
    rw [h0]
    constructor
    · intro hs
      unfold subAt at hs
      have e := congrArg Array.size (beq_iff_eq.mp hs)
      rw [Array.size_extract] at e
      have h1 : (sOf s).cps.size = s.length := rfl
      have h2 : (sOf [c]).cps.size = 1 := rfl
      have h3 : (sOf [c]).length = 1 := rfl
      rw [h1, h2, h3] at e
      lia
    · intro hs; cases hs
theorem last_run1 {s : List Nat} {c hi : Nat} : ∀ (n lo : Nat) (acc : Option Nat), (forIn (List.range' lo n) acc (lastBody (sOf s) (sOf [c]) hi)).run = match lastR (fun i => decide (i + 1 ≤ hi ∧ s[i]? = some c)) lo n with
    | some i => some i
    | none => acc
  | 0, lo, acc => rfl
  | n + 1, lo, acc => by
    rw [List.range'_succ, List.forIn_cons]
    unfold lastBody lastR
    have hl : (sOf [c]).length = 1 := rfl
    by_cases h : lo + 1 ≤ hi ∧ s[lo]? = some c
    · rw [if_pos ⟨by rw [hl]; exact h.1, (sub_one s c lo).mpr h.2⟩]
      have := last_run1 (s := s) (c := c) (hi := hi) n (lo + 1) (some lo)
      refine Eq.trans this ?_
      cases hr : lastR (fun i => decide (i + 1 ≤ hi ∧ s[i]? = some c)) (lo + 1) n <;> simp [h]
    · rw [if_neg (fun q => h ⟨by have := q.1; rw [hl] at this; exact this, (sub_one s c lo).mp q.2⟩)]
      have := last_run1 (s := s) (c := c) (hi := hi) n (lo + 1) acc
      refine Eq.trans this ?_
      cases hr : lastR (fun i => decide (i + 1 ≤ hi ∧ s[i]? = some c)) (lo + 1) n <;> simp [h]
theorem count_run1 {s : List Nat} {c hi : Nat} : ∀ (n lo : Nat) (st : Array Nat × Nat), st.2 ≤ lo → st.1.size + n ≤ s.length + 1 →
    (forIn (List.range' lo n) st (occBody (sOf s) (sOf [c]) hi (s.length + 1))).run.1.toList.length = st.1.size + countR (fun i => decide (i + 1 ≤ hi ∧ s[i]? = some c)) lo n
  | 0, lo, st, _, _ => by simp [countR]
  | n + 1, lo, st, h1, h2 => by
    rw [List.range'_succ, List.forIn_cons]
    unfold occBody countR
    have hl : (sOf [c]).length = 1 := rfl
    by_cases h : lo + 1 ≤ hi ∧ s[lo]? = some c
    · rw [if_pos ⟨⟨⟨by lia, h1⟩, by rw [hl]; exact h.1⟩, (sub_one s c lo).mpr h.2⟩]
      have := count_run1 (s := s) (c := c) (hi := hi) n (lo + 1) (st.1.push lo, lo + (sOf [c]).length) (by rw [hl]; exact Nat.le_refl _) (by simp; lia)
      refine Eq.trans this ?_
      simp [h]; lia
    · rw [if_neg (fun q => h ⟨by have := q.1.2; rw [hl] at this; exact this, (sub_one s c lo).mp q.2⟩)]
      have := count_run1 (s := s) (c := c) (hi := hi) n (lo + 1) (st.1, st.2) (by dsimp only; lia) (by dsimp only; lia)
      refine Eq.trans this ?_
      simp [h]
theorem lastR_end {p q : Nat → Bool} : ∀ (n lo : Nat), (∀ i, lo ≤ i → i < lo + n → p i = q i) → p (lo + n) = false → lastR p lo (n + 1) = lastR q lo n
  | 0, lo, h, he => by simp [lastR]; simpa using he
  | n + 1, lo, h, he => by
    rw [lastR, lastR_end (p := p) (q := q) n (lo + 1) (fun i h1 h2 => h i (by lia) (by lia)) (by rw [show lo + 1 + n = lo + (n + 1) by lia]; exact he), lastR, h lo (Nat.le_refl _) (by lia)]
theorem countR_end {p q : Nat → Bool} : ∀ (n lo : Nat), (∀ i, lo ≤ i → i < lo + n → p i = q i) → p (lo + n) = false → countR p lo (n + 1) = countR q lo n
  | 0, lo, h, he => by simp [countR]; simpa using he
  | n + 1, lo, h, he => by
    rw [countR, countR_end (p := p) (q := q) n (lo + 1) (fun i h1 h2 => h i (by lia) (by lia)) (by rw [show lo + 1 + n = lo + (n + 1) by lia]; exact he), countR, h lo (Nat.le_refl _) (by lia)]
noncomputable def isAt (s : List Nat) (c : Nat) (i : Nat) : Bool := decide (s[i]? = some c)
theorem rfindL_is {s : List Nat} {c a b : Nat} (hab : a ≤ b) (hb : b ≤ s.length) : rfindL c s a b = lastR (isAt s c) a (b - a) := by
  unfold rfindL
  rw [Nat.min_eq_left hb, last_eq, last_run1, show b + 1 - a = b - a + 1 by lia]
  rw [lastR_end (q := isAt s c) (b - a) a (fun i h1 h2 => ?_) (by simp; lia)]
  · cases lastR (isAt s c) a (b - a) <;> rfl
  · unfold isAt
    have : i + 1 ≤ b := by lia
    simp [this]
theorem countL_is {s : List Nat} {c a b : Nat} (hab : a ≤ b) (hb : b ≤ s.length) : countL c s a b = countR (isAt s c) a (b - a) := by
  unfold countL
  rw [Nat.min_eq_left hb, occ_eq, count_run1 (b + 1 - a) a (#[], a) (Nat.le_refl _) (by simp; lia), show b + 1 - a = b - a + 1 by lia]
  rw [countR_end (q := isAt s c) (b - a) a (fun i h1 h2 => ?_) (by simp; lia)]
  · simp
  · unfold isAt
    have : i + 1 ≤ b := by lia
    simp [this]
noncomputable def placeAt (s : List Nat) : Nat → Nat × Nat
  | 0 => (1, 1)
  | p + 1 => if isAt s 10 p then ((placeAt s p).1 + 1, 1) else ((placeAt s p).1, (placeAt s p).2 + 1)
theorem placeAt_succ (s : List Nat) (p : Nat) : placeAt s (p + 1) = if isAt s 10 p then ((placeAt s p).1 + 1, 1) else ((placeAt s p).1, (placeAt s p).2 + 1) := rfl
theorem place_track (s : List Nat) : ∀ (n a : Nat), match lastR (isAt s 10) a n with
    | none => placeAt s (a + n) = ((placeAt s a).1, (placeAt s a).2 + n)
    | some i => a ≤ i ∧ i < a + n ∧ placeAt s (a + n) = ((placeAt s a).1 + 1 + countR (isAt s 10) a (i - a), a + n - i)
  | 0, a => by simp [lastR]
  | n + 1, a => by
    have ih := place_track s n (a + 1)
    unfold lastR
    rw [show a + (n + 1) = a + 1 + n by lia]
    cases hr : lastR (isAt s 10) (a + 1) n with
    | some i =>
      rw [hr] at ih
      obtain ⟨h1, h2, h3⟩ := ih
      refine ⟨by lia, h2, ?_⟩
      rw [h3, show i - a = i - (a + 1) + 1 by lia, countR]
      rw [placeAt_succ]
      cases hp : isAt s 10 a <;> simp <;> lia
    | none =>
      rw [hr] at ih
      dsimp only at ih ⊢
      rw [ih, placeAt_succ]
      cases hp : isAt s 10 a
      · simp; lia
      · simp [countR]; lia
end Mine
end
section
set_option backward.match.sparseCases false
namespace Mine
open PySem PySem.W
variable {B : Base} {T : Tab} {d : Nat}
noncomputable def isBl (c : Nat) : Bool := decide (c ∈ [32, 10, 9])
noncomputable def wsRun : List Nat → Nat
  | [] => 0
  | c :: r => if isBl c then wsRun r + 1 else 0
theorem any_bl {s : List Nat} {i : Nat} : ([[32], [10], [9]] : List (List Nat)).any (fun p => startsAt s p i) = (s[i]?.any isBl) := by
  rw [Bool.eq_iff_iff]
  simp only [List.any_cons, List.any_nil, sw1, Bool.or_false, Bool.or_eq_true, decide_eq_true_eq]
  cases s[i]? with
  | none => simp
  | some c => simp [isBl]
theorem wsRun_le : ∀ s : List Nat, wsRun s ≤ s.length
  | [] => Nat.le_refl _
  | c :: r => by
    rw [wsRun]
    cases isBl c with
    | true => exact Nat.succ_le_succ (wsRun_le r)
    | false => exact Nat.zero_le _
noncomputable def badUs : List Nat := [34, 39, 40, 0, 1, 2, 3, 4, 5, 6, 7, 8, 11, 14, 15, 16, 17, 18, 19, 20, 21, 22, 23, 24, 25, 26, 27, 28, 29, 30, 31, 127]
noncomputable def urlGo : List Nat → Nat → List Nat × Nat × Nat
  | [], _ => ([], 0, 0)
  | c :: r, k + 1 => ((urlGo r k).1, (urlGo r k).2.1 + 1, (urlGo r k).2.2)
  | c :: r, 0 => if c = 41 then ([], 1, 1) else if isBl c = true then ([], 1, 2)
    else if c = 92 ∧ ¬ r.head? = some 10 then ((escSpec r).1 :: (urlGo r (escSpec r).2).1, (urlGo r (escSpec r).2).2.1 + 1, (urlGo r (escSpec r).2).2.2)
    else if c ∈ badUs then ([], 1, 3) else (c :: (urlGo r 0).1, (urlGo r 0).2.1 + 1, (urlGo r 0).2.2)
theorem urlGo_skip : ∀ (k : Nat) (s : List Nat), k ≤ s.length → urlGo s k = ((urlGo (s.drop k) 0).1, (urlGo (s.drop k) 0).2.1 + k, (urlGo (s.drop k) 0).2.2)
  | 0, _, _ => rfl
  | k + 1, [], h => nomatch h
  | k + 1, c :: r, h => by
    rw [urlGo, urlGo_skip k r (Nat.le_of_succ_le_succ h)]; rfl
noncomputable def remGo : List Nat → Bool → Nat
  | [], _ => 0
  | c :: r, b => if b = true then remGo r false + 1 else if c = 92 ∧ r.head? = some 41 then remGo r true + 1 else if c = 41 then 1 else remGo r false + 1
noncomputable def badAt (s : List Nat) (p : Nat) : Option (List Nat) × Nat × Nat := (none, p + remGo (s.drop p) false, 2)
noncomputable def urlEnd (s : List Nat) (v : List Nat) (p : Nat) : Option (List Nat) × Nat × Nat := match s[p]? with
  | none => (some v, p, 1)
  | some c => if c = 41 then (some v, p + 1, 0) else badAt s p
noncomputable def urlFin (s : List Nat) (p : Nat) (g : List Nat × Nat × Nat) : Option (List Nat) × Nat × Nat :=
  if g.2.2 = 0 then (some g.1, p + g.2.1, 1) else if g.2.2 = 1 then (some g.1, p + g.2.1, 0)
  else if g.2.2 = 2 then urlEnd s g.1 (p + g.2.1 + wsRun (s.drop (p + g.2.1))) else badAt s (p + g.2.1)
noncomputable def urlSpec (s : List Nat) (p : Nat) : Option (List Nat) × Nat × Nat := match s[p + wsRun (s.drop p)]? with
  | none => (some [], p + wsRun (s.drop p), 1)
  | some c => if c = 41 then (some [], p + wsRun (s.drop p) + 1, 0) else urlFin s (p + wsRun (s.drop p)) (urlGo (s.drop (p + wsRun (s.drop p))) 0)
noncomputable def errU : Nat → PV
  | 0 => .none
  | 1 => .tup [.str [101, 111, 102, 45, 105, 110, 45, 117, 114, 108], .str [69, 79, 70, 32, 105, 110, 32, 85, 82, 76]]
  | _ => .tup [.str [98, 97, 100, 45, 117, 114, 108], .str [98, 97, 100, 32, 85, 82, 76, 32, 116, 111, 107, 101, 110]]
noncomputable def urlPV (r : Option (List Nat) × Nat × Nat) : PV := .tup [optPV r.1, .int r.2.1, errU r.2.2]
section
variable {css : List Nat} {Q : KS} {H : AH} {a2 a3 a4 a5 a6 a7 : Option PV}
theorem any_bl_iff {s : List Nat} {i : Nat} : ([[32], [10], [9]] : List (List Nat)).any (fun p => startsAt s p i) = true ↔ (s[i]?.any isBl) = true := by rw [any_bl]
theorem wsRun_at (s : List Nat) (e : Nat) : wsRun (s.drop e) = if s[e]?.any isBl = true then wsRun (s.drop (e + 1)) + 1 else 0 := by
  cases h : s[e]? with
  | none => rw [drop_none h]; rfl
  | some c => rw [drop_get h]; rfl
inductive AdI (css : List Nat) (L : Nat → Loc) (H : AH) (r : Nat) : Nat → Loc → AH → Prop where
  | mk (p : Nat) (h : p + wsRun (css.drop p) = r) : AdI css L H r (css.length - p) (L p) H
theorem adv_loop {vt : VT} {vb ve : VS} (L : Nat → Loc) {k : Nat}
    (st : ∀ (p : Nat) (I : Nat → Loc → AH → Prop) (n : Nat), (css[p]?.any isBl = true → ∃ m, m < n ∧ I m (L (p + 1)) H) → (css[p]?.any isBl = false → Q .next (L p) H) → vt (kwh vb ve I n Q (L p)) (L p) H)
    (hq : Q .next (L (k + wsRun (css.drop k))) H) : whB vt vb ve Q (L k) H := by
  generalize hr : k + wsRun (css.drop k) = r at hq
  refine wh_mk (AdI css L H r) (css.length - k) (.mk k hr) ?_
  rintro _ _ _ ⟨p, he⟩
  rw [wsRun_at] at he
  refine st p _ _ (fun h => ?_) (fun h => ?_)
  · rw [if_pos h] at he
    cases hg : css[p]? with
    | none => rw [hg] at h; cases h
    | some c => exact ⟨_, meas (get_lt hg), .mk (p + 1) ((Nat.succ_add_eq_add_succ ..).trans he)⟩
  · rw [h, if_neg Bool.false_ne_true] at he
    replace he : p = r := he
    subst he; exact hq
theorem ub_loop {k : Nat} (hq : Q .next [some (.str css), some (.int (k + wsRun (css.drop k) : Nat)), a2, a3, a4, a5, a6, a7] H) :
    vcS B T d w_consume_url_1 Q [some (.str css), some (.int (k : Nat)), a2, a3, a4, a5, a6, a7] H :=
  adv_loop (fun p => [some (.str css), some (.int (p : Nat)), a2, a3, a4, a5, a6, a7]) (fun p I n h1 h2 => tst_iff any_bl_iff h1 h2) hq
theorem rem_loop {k : Nat} (hq : Q .next [some (.str css), some (.int (k + remGo (css.drop k) false : Nat)), a2, some (.int css.length), a4, a5, a6, a7] H) :
    vcS B T d w_consume_url_4 Q [some (.str css), some (.int (k : Nat)), a2, some (.int css.length), a4, a5, a6, a7] H := by
  generalize hr : k + remGo (css.drop k) false = r at hq
  refine wh_mk (fun n ρ' H' => ∃ p, ρ' = [some (.str css), some (.int (p : Nat)), a2, some (.int css.length), a4, a5, a6, a7] ∧ H' = H ∧ p + remGo (css.drop p) false = r ∧ n = css.length - p) (css.length - k) ⟨k, rfl, rfl, hr, rfl⟩ ?_
  rintro n ρ' H' ⟨p, rfl, rfl, he, rfl⟩
  cases hg : css[p]? with
  | none =>
    rw [drop_none hg] at he
    replace he : p = r := he
    subst he
    exact tst_neg (lt_no hg) hq
  | some c =>
    have hlt := get_lt hg
    rw [drop_get hg, remGo, if_neg Bool.false_ne_true, List.head?_drop] at he
    refine tst_pos (lt_yes hg) ?_
    by_cases h1 : c = 92 ∧ css[p + 1]? = some 41
    · rw [if_pos h1, drop_get h1.2, remGo, if_pos rfl] at he
      have hlt2 := get_lt h1.2
      refine tst_bt (by rw [sw2, hg, h1.1, h1.2]; rfl) ⟨css.length - (p + 2), Nat.sub_lt_sub_left hlt (Nat.lt_add_of_pos_right (Nat.succ_pos 1)), p + 2, rfl, rfl, ?_, rfl⟩
      rw [← he]; exact ac2 _ _
    · rw [if_neg h1] at he
      refine tst_bf ?_ ⟨c, hg, ?_⟩
      · rw [sw2, hg, Bool.eq_false_iff]
        intro q
        obtain ⟨q1, q2⟩ := Bool.and_eq_true_iff.mp q
        exact h1 ⟨Option.some.inj (of_decide_eq_true q1), of_decide_eq_true q2⟩
      by_cases h2 : c = 41
      · rw [if_pos h2] at he
        subst h2; subst he
        exact tst_pos rfl hq
      · rw [if_neg h2] at he
        refine tst_neg (fun h => h2 (cons1 h)) ⟨_, meas hlt, p + 1, rfl, rfl, ?_, rfl⟩
        rw [← he]; exact Nat.succ_add_eq_add_succ _ _
end
theorem urlGo_len : ∀ (s : List Nat) (k : Nat), k ≤ s.length → (urlGo s k).1.length ≤ s.length ∧ (urlGo s k).2.1 ≤ s.length
  | [], _, _ => by rw [urlGo]; exact ⟨Nat.le_refl _, Nat.le_refl _⟩
  | c :: r, k + 1, h => by
    have ih := urlGo_len r k (Nat.le_of_succ_le_succ h)
    rw [urlGo]
    exact ⟨Nat.le_succ_of_le ih.1, Nat.succ_le_succ ih.2⟩
  | c :: r, 0, _ => by
    have h1 := urlGo_len r 0 (Nat.zero_le _)
    have h2 := urlGo_len r (escSpec r).2 (escSpec_le r).1
    rw [urlGo]
    split
    · exact ⟨Nat.zero_le _, Nat.succ_le_succ (Nat.zero_le _)⟩
    split
    · exact ⟨Nat.zero_le _, Nat.succ_le_succ (Nat.zero_le _)⟩
    split
    · exact ⟨Nat.succ_le_succ h2.1, Nat.succ_le_succ h2.2⟩
    split
    · exact ⟨Nat.zero_le _, Nat.succ_le_succ (Nat.zero_le _)⟩
    · exact ⟨Nat.succ_le_succ h1.1, Nat.succ_le_succ h1.2⟩
theorem url_tail {css : List Nat} {l : Addr} {p c : Nat} {vv sp : Option PV} {Q : KS} {H : AH} (h1 : c ∈ badUs → Q .brk [some (.str css), some (.int (p + 1 : Nat)), some .none, some (.int css.length), some (.str [c]), some .none, some (.ref l), sp] H)
    (h2 : c ∉ badUs → Q .next [some (.str css), some (.int (p + 1 : Nat)), some .none, some (.int css.length), some (.str [c]), vv, some (.ref l), sp] H) :
    vcSs B T d b_consume_url_10 Q [some (.str css), some (.int p), some .none, some (.int css.length), some (.str [c]), vv, some (.ref l), sp] H := by
  by_cases hb : c ∈ badUs
  · exact tst_pos hb (h1 hb)
  · exact tst_neg hb (h2 hb)
inductive UrI (css : List Nat) (l : Addr) (V : List Nat) (W E : Nat) (H : AH) : Nat → Loc → AH → Prop where
  | mk {H' : AH} (p sp : Nat) (ch : List (List Nat)) (cv vv : Option PV) (h0 : H' = H.upd l (.list (chPV ch))) (q1 : p ≤ css.length) (q2 : sp ≤ p) (q3 : ch.flatten ++ (css.drop sp).take (p - sp) ++ (urlGo (css.drop p) 0).1 = V) (q4 : p + (urlGo (css.drop p) 0).2.1 = W)
    (q6 : (urlGo (css.drop p) 0).2.2 = E) (q5 : ch.length ≤ 2 * p) : UrI css l V W E H (css.length - p) [some (.str css), some (.int (p : Nat)), some .none, some (.int css.length), cv, vv, some (.ref l), some (.int (sp : Nat))] H'
theorem url_loop {css : List Nat} {l : Addr} {V : List Nat} {W E : Nat} {H : AH} {Q : KS} {k : Nat} {cv vv : Option PV} (he : ∀ (css : List Nat) (pos : Nat), Con B d "_consume_escape" [.str css, .int pos] (.tup [.str [(escSpec (css.drop pos)).1], .int (pos + (escSpec (css.drop pos)).2 : Nat)]))
    (hL : css.length ≤ 100000) (hk : k ≤ css.length) (hl : H l = none) (hg : urlGo (css.drop k) 0 = (V, W, E))
    (h0 : E = 0 → ∀ ρ, Q (.ret (.tup [.str V, .int (k + W : Nat), errU 1])) ρ H) (h1 : E = 1 → ∀ ρ, Q (.ret (.tup [.str V, .int (k + W : Nat), .none])) ρ H)
    (h2 : E = 2 → ∀ c sp, Q .next [some (.str css), some (.int (k + W : Nat)), some .none, some (.int css.length), c, some (.str V), some (.ref l), sp] H)
    (h3 : E = 3 → ∀ c sp H', subH H H' → Q .next [some (.str css), some (.int (k + W : Nat)), some .none, some (.int css.length), c, some .none, some (.ref l), sp] H') :
    vcS B T d w_consume_url_2 Q [some (.str css), some (.int k), some .none, some (.int css.length), cv, vv, some (.ref l), some (.int k)] (H.upd l (.list [])) := by
  have hVl : V.length ≤ 16777216 := by
    have := (urlGo_len (css.drop k) 0 (Nat.zero_le _)).1
    rw [hg, List.length_drop] at this
    exact le17 (Nat.le_trans (le_sub_le this) hL)
  generalize hW : k + W = W' at *
  refine wh_mk (UrI css l V W' E H) (css.length - k) (.mk k k [] cv vv rfl hk (Nat.le_refl _) ?_ ?_ ?_ (Nat.zero_le _)) ?_
  · rw [hg, Nat.sub_self]; rfl
  · rw [hg]; exact hW
  · rw [hg]
  rintro _ _ _ ⟨p, sp, ch, cv, vv, rfl, q1, q2, q3, q4, q6, q5⟩
  have hpL := Nat.le_trans q1 hL
  refine tst_pos (by decide) ?_
  have fl : ∀ {x : List Nat}, ch.flatten ++ x = V → (ch ++ [x]).flatten = V := fun h => by rw [flat_snoc]; exact h
  cases hc : css[p]? with
  | none =>
    rw [drop_none hc, urlGo, List.append_nil] at q3
    rw [drop_none hc, urlGo] at q4 q6
    refine tst_pos (Int.ofNat_le.mpr (get_ge hc)) ⟨⟨_, upd_self ..⟩, app_mk (upd_self ..) (chPV_le q5 hpL) ⟨rfl, _, upd_self .., _, allStr_snoc, by rw [fl q3]; exact hVl, ?_⟩⟩
    show Q (.ret (.tup [.str (ch ++ [_]).flatten, .int (p : Nat), errU 1])) _ (((H.upd l (.list (chPV ch))).upd l (.list (chPV ch ++ [.str _]))).del l)
    rw [fl q3, del_upd2 hl, show p = W' from q4]
    exact h0 q6.symm _
  | some c =>
    have hlt := get_lt hc
    refine tst_neg (fun h => Nat.not_le.mpr hlt (Int.ofNat_le.mp h)) ⟨c, hc, ?_⟩
    rw [drop_get hc, urlGo] at q3 q4 q6
    by_cases h41 : c = 41
    · subst h41
      rw [if_pos rfl] at q3 q4 q6
      rw [List.append_nil] at q3
      refine tst_pos rfl ⟨⟨_, upd_self ..⟩, app_mk (upd_self ..) (chPV_le q5 hpL) ⟨rfl, _, upd_self .., _, allStr_snoc, by rw [fl q3]; exact hVl, ?_⟩⟩
      show Q (.ret (.tup [.str (ch ++ [_]).flatten, .int (p + 1 : Nat), .none])) _ (((H.upd l (.list (chPV ch))).upd l (.list (chPV ch ++ [.str _]))).del l)
      rw [fl q3, del_upd2 hl, show p + 1 = W' from q4]
      exact h1 q6.symm _
    rw [if_neg h41] at q3 q4 q6
    refine tst_neg (fun h => h41 (cons1 h)) ?_
    by_cases hb : c ∈ [32, 10, 9]
    · rw [if_pos (show isBl c = true from decide_eq_true hb)] at q3 q4 q6
      rw [List.append_nil] at q3
      refine tst_pos hb ⟨⟨_, upd_self ..⟩, app_mk (upd_self ..) (chPV_le q5 hpL) ⟨rfl, _, upd_self .., _, allStr_snoc, by rw [fl q3]; exact hVl, ?_⟩⟩
      show Q .next [some (.str css), some (.int (p + 1 : Nat)), some .none, some (.int css.length), some (.str [c]), some (.str (ch ++ [_]).flatten), some (.ref l), some (.int (sp : Nat))] (((H.upd l (.list (chPV ch))).upd l (.list (chPV ch ++ [.str _]))).del l)
      rw [fl q3, del_upd2 hl, show p + 1 = W' from q4]
      exact h2 q6.symm _ _
    rw [if_neg (show ¬ isBl c = true from fun h => hb (of_decide_eq_true h))] at q3 q4 q6
    refine tst_neg hb ?_
    rw [List.head?_drop] at q3 q4 q6
    by_cases h92 : c = 92 ∧ ¬ css[p + 1]? = some 10
    · obtain ⟨rfl, h10⟩ := h92
      rw [if_pos ⟨rfl, h10⟩] at q3 q4 q6
      refine tst_pos rfl (tst_pos (fun h => ?_) (tst_dT ?_))
      · replace h : startsAt css [92, 10] p = true := h
        rw [sw2, decide_eq_false h10, Bool.and_false] at h
        exact nomatch h
      have hle := (escSpec_le (css.drop (p + 1))).1
      rw [urlGo_skip _ _ hle, List.drop_drop] at q3 q4 q6
      rw [List.length_drop] at hle
      refine ⟨⟨_, upd_self ..⟩, app_mk (upd_self ..) (chPV_le q5 hpL) ⟨rfl, (he css (p + 1)).b, (he css (p + 1)).use ⟨rfl, ⟨_, upd_self ..⟩, app_mk (upd_self ..) (chPV_le1 q5 hpL) ⟨rfl, ?_⟩⟩⟩⟩
      generalize escSpec (css.drop (p + 1)) = X at *
      have hbx : p + 1 + X.2 ≤ css.length := add_sub_le hle hlt
      refine ⟨css.length - (p + 1 + X.2), Nat.sub_lt_sub_left hlt lt1_of, .mk (p + 1 + X.2) (p + 1 + X.2) (ch ++ [(css.drop sp).take (p - sp)] ++ [[X.1]]) _ _ upd_snoc2 hbx (Nat.le_refl _) ?_ ?_ q6 ?_⟩
      · rw [← q3, flat_snoc, flat_snoc, Nat.sub_self, List.take_zero, List.append_nil, List.append_assoc _ [X.1]]; rfl
      · rw [← q4]; exact ac3 _ _ _
      · rw [List.length_append, List.length_append]; exact ch2 _ q5
    rw [if_neg h92] at q3 q4 q6
    have bad : c ∈ badUs → ∀ s, Q .next [some (.str css), some (.int (p + 1 : Nat)), some .none, some (.int css.length), some (.str [c]), some .none, some (.ref l), s] (H.upd l (.list (chPV ch))) := fun hb s => by
      rw [if_pos hb] at q4 q6
      rw [show p + 1 = W' from q4]
      exact h3 q6.symm _ _ _ (subH_upd hl _)
    have go : c ∉ badUs → ∀ vv, ∃ m, m < css.length - p ∧ UrI css l V W' E H m [some (.str css), some (.int (p + 1 : Nat)), some .none, some (.int css.length), some (.str [c]), vv, some (.ref l), some (.int (sp : Nat))] (H.upd l (.list (chPV ch))) := fun hb vv => by
      rw [if_neg hb] at q3 q4 q6
      refine ⟨_, meas hlt, .mk (p + 1) sp ch _ vv rfl hlt (Nat.le_succ_of_le q2) ?_ ?_ q6 (ch1 q5)⟩
      · rw [take_snoc hc q2, ← q3, ← List.append_assoc, List.append_assoc _ [c]]; rfl
      · rw [← q4]; exact Nat.succ_add_eq_add_succ _ _
    by_cases h9 : c = 92
    · have h10 : css[p + 1]? = some 10 := Classical.byContradiction fun n => h92 ⟨h9, n⟩
      exact tst_pos (congrArg (fun x => [x]) h9) (tst_neg (fun h => h (show startsAt css [92, 10] p = true by rw [sw2, hc, h9, h10]; rfl)) (tst_dF (url_tail (fun hb => bad hb _) fun hb => go hb _)))
    · exact tst_neg (fun h => h9 (cons1 h)) (tst_dF (url_tail (fun hb => bad hb _) fun hb => go hb _))
theorem url_ok (G : GoodB B) (GT : GoodT B T) (F : FnAt B "_consume_url" p_consume_url 2 [] v_consume_url m_consume_url)
    (he : ∀ (css : List Nat) (pos : Nat), Con B d "_consume_escape" [.str css, .int pos] (.tup [.str [(escSpec (css.drop pos)).1], .int (pos + (escSpec (css.drop pos)).2 : Nat)]))
    {css : List Nat} {pos : Nat} (hL : css.length ≤ 100000) (hq : ∀ c, css[pos + wsRun (css.drop pos)]? = some c → ¬ c = 34 ∧ ¬ c = 39) : Con B (d + 1) "_consume_url" [.str css, .int pos] (urlPV (urlSpec css pos)) := by
  refine conDefS G GT F rfl fun H => ub_loop ?_
  unfold urlSpec
  generalize pos + wsRun (css.drop pos) = k at *
  cases hg : css[k]? with
  | none => exact tst_pos (Int.ofNat_le.mpr (get_ge hg)) ⟨rfl, subH_refl H⟩
  | some c =>
    have hlt := get_lt hg
    obtain ⟨n34, n39⟩ := hq c hg
    refine tst_neg (fun h => Nat.not_le.mpr hlt (Int.ofNat_le.mp h)) ⟨c, hg, tst_neg (fun h => ?_) ?_⟩
    · rcases List.mem_cons.mp h with h | h
      · exact n34 (cons1 h)
      · exact n39 (cons1 (List.mem_singleton.mp h))
    by_cases h41 : c = 41
    · subst h41
      exact tst_pos rfl ⟨rfl, subH_refl H⟩
    refine tst_neg (fun h => h41 (cons1 h)) fun l hl => ?_
    show vcS B T d w_consume_url_2 _ _ _
    generalize hu : urlGo (css.drop k) 0 = g
    obtain ⟨V, W, E⟩ := g
    have un : (if c = 41 then ((some [], k + 1, 0) : Option (List Nat) × Nat × Nat) else urlFin css k (V, W, E)) = urlFin css k (V, W, E) := if_neg h41
    have rest : ∀ {p : Nat} {a5 a6 a7 cc : Option PV} {H' : AH}, subH H H' → urlFin css k (V, W, E) = badAt css p → vcSs B T d r_consume_url_5 (isRetS (urlPV (if c = 41 then ((some [], k + 1, 0) : Option (List Nat) × Nat × Nat) else urlFin css k (V, W, E))) H) [some (.str css), some (.int (p : Nat)), some .none, some (.int css.length), cc, a5, a6, a7] H' := by
      intro p a5 a6 a7 cc H' hs e
      exact rem_loop ⟨by rw [un, e]; rfl, hs⟩
    refine url_loop he hL (Nat.le_of_lt hlt) hl hu (fun e ρ => ?_) (fun e ρ => ?_) (fun e c' sp => ?_) (fun e c' sp H' hs => ?_)
    · subst e; exact ⟨(congrArg urlPV un).symm, subH_refl H⟩
    · subst e; exact ⟨(congrArg urlPV un).symm, subH_refl H⟩
    · subst e
      refine tst_pos rfl (ub_loop ?_)
      have hf : urlFin css k (V, W, 2) = urlEnd css V (k + W + wsRun (css.drop (k + W))) := rfl
      generalize k + W + wsRun (css.drop (k + W)) = p at *
      unfold urlEnd at hf
      cases hp : css[p]? with
      | none =>
        rw [hp] at hf
        exact tst_neg (lt_no hp) (tst_pos rfl ⟨(congrArg urlPV (un.trans hf)).symm, subH_refl H⟩)
      | some x =>
        rw [hp] at hf
        refine tst_pos (lt_yes hp) ⟨x, hp, ?_⟩
        by_cases hx : x = 41
        · subst hx
          exact tst_pos rfl ⟨(congrArg urlPV (un.trans hf)).symm, subH_refl H⟩
        · exact tst_neg (fun h => hx (cons1 h)) (rest (subH_refl H) (hf.trans (if_neg hx)))
    · subst e
      exact tst_neg (fun h => nomatch h) (rest hs rfl)
end Mine
end
section
set_option backward.match.sparseCases false
namespace Mine
open PySem PySem.W
variable {B : Base} {T : Tab} {d : Nat}
set_option genCtorIdx false in
inductive TK where
  | ws (v : List Nat)
  | lit (v : List Nat)
  | ident (v : List Nat)
  | at_ (v : List Nat)
  | hash (v : List Nat) (b : Bool)
  | str (v r : List Nat)
  | num (r : List Nat) (iv : Option Int)
  | pct (r : List Nat) (iv : Option Int)
  | dim (r : List Nat) (iv : Option Int) (u : List Nat)
  | err (k : Nat)
  | url (v r : List Nat)
  | unm (c : Nat)
  | eru (k : Nat)
structure Cls where
  ws : Addr
  lit : Addr
  ident : Addr
  at_ : Addr
  hash : Addr
  str : Addr
  num : Addr
  pct : Addr
  dim : Addr
  err : Addr
  url : Addr
  fn : Addr
  par : Addr
  sqr : Addr
  cur : Addr
noncomputable def ivPV : Option Int → PV
  | none => .none
  | some i => .int i
noncomputable def errK : Nat → PV
  | 1 => .str [101, 111, 102, 45, 105, 110, 45, 115, 116, 114, 105, 110, 103]
  | _ => .str [98, 97, 100, 45, 115, 116, 114, 105, 110, 103]
noncomputable def eruK : Nat → PV
  | 1 => .str [101, 111, 102, 45, 105, 110, 45, 117, 114, 108]
  | _ => .str [98, 97, 100, 45, 117, 114, 108]
noncomputable def eruM : Nat → PV
  | 1 => .str [69, 79, 70, 32, 105, 110, 32, 85, 82, 76]
  | _ => .str [98, 97, 100, 32, 85, 82, 76, 32, 116, 111, 107, 101, 110]
noncomputable def errM : Nat → PV
  | 1 => .str [69, 79, 70, 32, 105, 110, 32, 115, 116, 114, 105, 110, 103]
  | _ => .str [66, 97, 100, 32, 115, 116, 114, 105, 110, 103, 32, 116, 111, 107, 101, 110]
noncomputable def tkPV (cl : Cls) (l c : PV) : TK → PV
  | .ws v => .node cl.ws [.str v, c, l]
  | .lit v => .node cl.lit [.str v, c, l]
  | .ident v => .node cl.ident [.str (v.map lowC), .str v, c, l]
  | .at_ v => .node cl.at_ [.str (v.map lowC), .str v, c, l]
  | .hash v b => .node cl.hash [.bool b, .str v, c, l]
  | .str v r => .node cl.str [.str r, .str v, c, l]
  | .num r iv => .node cl.num [ivPV iv, .bool (!isN (ivPV iv)), .str r, .str r, c, l]
  | .pct r iv => .node cl.pct [ivPV iv, .bool (!isN (ivPV iv)), .str r, .str r, c, l]
  | .dim r iv u => .node cl.dim [ivPV iv, .bool (!isN (ivPV iv)), .str (u.map lowC), .str r, .str u, .str r, c, l]
  | .err k => .node cl.err [errK k, errM k, c, l]
  | .eru k => .node cl.err [eruK k, eruM k, c, l]
  | .url v r => .node cl.url [.str r, .str v, c, l]
  | .unm x => .node cl.err [.str [x], .str ([85, 110, 109, 97, 116, 99, 104, 101, 100, 32] ++ [x]), c, l]
noncomputable def hashStart : List Nat → Bool
  | [] => false
  | c :: r => isNC c || (decide (c = 92) && !decide (r.head? = some 10))
noncomputable def numVal (r : List Nat) : Int := if r.head? = some 45 then - (hexNum' r.tail : Int) else if r.head? = some 43 then hexNum' r.tail else hexNum' r
where hexNum' (s : List Nat) : Nat := s.foldl (fun a c => a * 10 + (c - 48)) 0
noncomputable def ivOf (pl : Bool) (r : List Nat) : Option Int := if pl then some (numVal r) else none
noncomputable def strToks (ser : List Nat → List Nat) (t : Option (List Nat) × Nat × Nat) : List TK :=
  (match t.1 with
    | none => []
    | some v => [.str v (if t.2.2 = 0 then [34] ++ ser v ++ [34] else [34] ++ ser v)]) ++ (if t.2.2 = 0 then [] else [.err t.2.2])
structure ParseEnv (B : Base) (d : Nat) (cl : Cls) (ser serU : List Nat → List Nat) : Prop where
  ids : ∀ (css : List Nat) (pos : Nat), css.length ≤ 100000 → pos < css.length → Con B d "_is_ident_start" [.str css, .int pos] (.bool (identStart (css.drop pos)))
  idc : ∀ (css : List Nat) (pos : Nat), css.length ≤ 100000 → pos ≤ css.length → Con B d "_consume_ident" [.str css, .int pos] (.tup [.str (identSpec (css.drop pos)).1, .int (pos + (identSpec (css.drop pos)).2 : Nat)])
  num : ∀ (css : List Nat) (pos : Nat), Con B d "_number_end" [.str css, .int pos] (numPV (numFrom css pos))
  quo : ∀ (css : List Nat) (pos q : Nat), css.length ≤ 100000 → css[pos]? = some q → (q = 34 ∨ q = 39) →
    Con B d "_consume_quoted_string" [.str css, .int pos] (.tup [optPV (quotedSpec q (css.drop (pos + 1))).1, .int (pos + 1 + (quotedSpec q (css.drop (pos + 1))).2.1 : Nat), errPV (quotedSpec q (css.drop (pos + 1))).2.2])
  serC : ∀ v : List Nat, v.length ≤ 100000 → Con B d "serialize_string_value" [.str v] (.str (ser v))
  serl : ∀ v : List Nat, (ser v).length ≤ 3 * v.length
  ws : ∀ l c v : PV, Con B d "WhitespaceToken" [l, c, v] (.node cl.ws [v, c, l])
  lit : ∀ l c v : PV, Con B d "LiteralToken" [l, c, v] (.node cl.lit [v, c, l])
  ident : ∀ (l c : PV) (s : List Nat), s.length ≤ 100000 → Con B d "IdentToken" [l, c, .str s] (.node cl.ident [.str (s.map lowC), .str s, c, l])
  at_ : ∀ (l c : PV) (s : List Nat), s.length ≤ 100000 → Con B d "AtKeywordToken" [l, c, .str s] (.node cl.at_ [.str (s.map lowC), .str s, c, l])
  hash : ∀ l c v b : PV, Con B d "HashToken" [l, c, v, b] (.node cl.hash [b, v, c, l])
  str : ∀ l c v r : PV, Con B d "StringToken" [l, c, v, r] (.node cl.str [r, v, c, l])
  numT : ∀ l c v n r : PV, Con B d "NumberToken" [l, c, v, n, r] (.node cl.num [n, .bool (!isN n), r, v, c, l])
  pct : ∀ l c v n r : PV, Con B d "PercentageToken" [l, c, v, n, r] (.node cl.pct [n, .bool (!isN n), r, v, c, l])
  dim : ∀ (l c v n r : PV) (u : List Nat), u.length ≤ 100000 → Con B d "DimensionToken" [l, c, v, n, r, .str u] (.node cl.dim [n, .bool (!isN n), .str (u.map lowC), r, .str u, v, c, l])
  err : ∀ l c k m : PV, Con B d "ParseError" [l, c, k, m] (.node cl.err [k, m, c, l])
  url : ∀ l c v r : PV, Con B d "URLToken" [l, c, v, r] (.node cl.url [r, v, c, l])
  fn : ∀ (l c a : PV) (s : List Nat), s.length ≤ 100000 → Con B d "FunctionBlock" [l, c, .str s, a] (.node cl.fn [a, .str (s.map lowC), .str s, c, l])
  par : ∀ l c v : PV, Con B d "ParenthesesBlock" [l, c, v] (.node cl.par [v, c, l])
  sqr : ∀ l c v : PV, Con B d "SquareBracketsBlock" [l, c, v] (.node cl.sqr [v, c, l])
  cur : ∀ l c v : PV, Con B d "CurlyBracketsBlock" [l, c, v] (.node cl.cur [v, c, l])
  low : ∀ s : List Nat, s.length ≤ 100000 → Con B d "ascii_lower" [.str s] (.str (s.map lowC))
  urlc : ∀ (css : List Nat) (pos : Nat), css.length ≤ 100000 → (∀ c, css[pos + wsRun (css.drop pos)]? = some c → ¬ c = 34 ∧ ¬ c = 39) → Con B d "_consume_url" [.str css, .int pos] (urlPV (urlSpec css pos))
  serUC : ∀ v : List Nat, v.length ≤ 100000 → Con B d "serialize_url" [.str v] (.str (serU v))
  serUl : ∀ v : List Nat, (serU v).length ≤ 3 * v.length
section
variable {cl : Cls} {ser serU : List Nat → List Nat} {css : List Nat} {p c e : Nat} {l : Addr} {toks : List PV} {ts : List TK} {Q : KS} {H : AH} {a1 a3 a7 a9 a10 : Option PV} {L N : Int}
theorem ws_loop {k : Nat} {a2 a5 a6 a8 a9 : Option PV} {a11 a12 a13 a14 a15 a16 a17 a18 a19 a20 a21 a22 a23 a24 a25 a26 a27 a28 : Option PV}
    (hq : Q .next [some (.str css), a1, a2, a3, some (.int (k + wsRun (css.drop k) : Nat)), a5, a6, a7, a8, a9, a10, a11, a12, a13, a14, a15, a16, a17, a18, a19, a20, a21, a22, a23, a24, a25, a26, a27, a28] H) :
    vcS B T d w_parse_1 Q [some (.str css), a1, a2, a3, some (.int (k : Nat)), a5, a6, a7, a8, a9, a10, a11, a12, a13, a14, a15, a16, a17, a18, a19, a20, a21, a22, a23, a24, a25, a26, a27, a28] H :=
  adv_loop (fun p => [some (.str css), a1, a2, a3, some (.int (p : Nat)), a5, a6, a7, a8, a9, a10, a11, a12, a13, a14, a15, a16, a17, a18, a19, a20, a21, a22, a23, a24, a25, a26, a27, a28]) (fun p I n h1 h2 => tst_iff any_bl_iff h1 h2) hq
inductive Rho (css : List Nat) (a1 a7 a9 a10 : Option PV) (l : Addr) (tsp p : Nat) (L N : Int) : Loc → Prop where
  | mk {a11 a12 a13 a14 a15 a16 a17 a18 a19 a20 a21 a22 a23 a24 a25 a26 a27 a28 : Option PV} : Rho css a1 a7 a9 a10 l tsp p L N [some (.str css), a1, some (.int css.length), some (.int tsp), some (.int p), some (.int L), some (.int N), a7, some (.ref l), a9, a10, a11, a12, a13, a14, a15, a16, a17, a18, a19, a20, a21, a22, a23, a24, a25, a26, a27, a28]
theorem num12_ok (E : ParseEnv B d cl ser serU) (hget : H l = some (.list toks)) (ht : toks.length ≤ 1000000) {iv : Option Int} {R : List Nat} (hid : identStart (css.drop e) = false)
    (hS : (if identStart (css.drop e) then ([.dim R iv (identSpec (css.drop e)).1], e + (identSpec (css.drop e)).2) else if css[e]? = some 37 then ([.pct R iv], e + 1) else ([.num R iv], e)) = (ts, q))
    (hq : ∀ ρ' H', Rho css a1 a7 a9 a10 l p (q) L N ρ' → H' = H.upd l (.list (toks ++ ts.map (tkPV cl (.int L) (.int (p - N))))) → Q .next ρ' H') {a11 a13 a15 a16 a17 a18 a19 a20 a21 a22 a23 a26 a27 a28 : Option PV} :
    vcSs B T d b_parse_19 Q [some (.str css), a1, some (.int css.length), some (.int p), some (.int e), some (.int L), some (.int N), a7, some (.ref l), a9, a10, a11, some (.int (p - N)), a13, some (.str R), a15, a16, a17, a18, a19, a20, a21, a22, a23, some (.str R), some (ivPV iv), a26, a27, a28] H := by
  rw [hid, if_neg Bool.false_ne_true] at hS
  by_cases h37 : css[e]? = some 37
  · rw [if_pos h37] at hS
    cases hS
    exact tst_bt (sw_t h37) ⟨⟨_, hget⟩, (E.pct _ _ _ _ _).run (app_mk hget ht ⟨rfl, hq _ _ .mk rfl⟩)⟩
  · rw [if_neg h37] at hS
    cases hS
    exact tst_bf (sw_f h37) ⟨⟨_, hget⟩, (E.numT _ _ _ _ _).run (app_mk hget ht ⟨rfl, hq _ _ .mk rfl⟩)⟩
theorem idlen {s : List Nat} {e : Nat} (hL : s.length ≤ 100000) : (identSpec (s.drop e)).1.length ≤ 100000 := by
  have := (identSpec_len _ (s.drop e) (Nat.le_refl _)).1
  rw [List.length_drop] at this
  lia
theorem num2_ok (E : ParseEnv B d cl ser serU) (hL : css.length ≤ 100000) (he : e ≤ css.length) (hget : H l = some (.list toks)) (ht : toks.length ≤ 1000000) {iv : Option Int} {R : List Nat}
    (hS : (if identStart (css.drop e) then ([.dim R iv (identSpec (css.drop e)).1], e + (identSpec (css.drop e)).2) else if css[e]? = some 37 then ([.pct R iv], e + 1) else ([.num R iv], e)) = (ts, q))
    (hq : ∀ ρ' H', Rho css a1 a7 a9 a10 l p (q) L N ρ' → H' = H.upd l (.list (toks ++ ts.map (tkPV cl (.int L) (.int (p - N))))) → Q .next ρ' H') {a11 a13 a15 a16 a17 a18 a19 a20 a21 a22 a23 a26 a27 a28 : Option PV} :
    vcSs B T d (b_parse_20.drop 4) Q [some (.str css), a1, some (.int css.length), some (.int p), some (.int e), some (.int L), some (.int N), a7, some (.ref l), a9, a10, a11, some (.int (p - N)), a13, some (.str R), a15, a16, a17, a18, a19, a20, a21, a22, a23, some (.str R), some (ivPV iv), a26, a27, a28] H := by
  cases hg : css[e]? with
  | none => exact tst_neg (lt_no hg) (tst_dF (num12_ok E hget ht (by rw [drop_none hg]; rfl) hS hq))
  | some x =>
    refine tst_pos (lt_yes hg) ((E.ids css e hL (get_lt hg)).run ?_)
    cases hid : identStart (css.drop e) with
    | false => exact tst_f (tst_dF (num12_ok E hget ht hid hS hq))
    | true =>
      rw [hid, if_pos rfl] at hS
      cases hS
      exact tst_t (tst_dT ((E.idc css e hL he).run ⟨rfl, ⟨_, hget⟩, (E.dim _ _ _ _ _ _ (idlen hL)).run (app_mk hget ht ⟨rfl, hq _ _ .mk rfl⟩)⟩))
theorem num_ok (E : ParseEnv B d cl ser serU) (hL : css.length ≤ 100000) (he : e ≤ css.length) (hget : H l = some (.list toks)) (ht : toks.length ≤ 1000000) {pl : Bool} {R : List Nat} (hR : (css.drop p).take (e - p) = R)
    (hiv : pl = true → R.length ≤ 640 ∧ PySem.intText? (sOf R) = some (numVal R))
    (hS : (if identStart (css.drop e) then ([.dim R (ivOf pl R) (identSpec (css.drop e)).1], e + (identSpec (css.drop e)).2) else if css[e]? = some 37 then ([.pct R (ivOf pl R)], e + 1) else ([.num R (ivOf pl R)], e)) = (ts, q))
    (hq : ∀ ρ' H', Rho css a1 a7 a9 a10 l p (q) L N ρ' → H' = H.upd l (.list (toks ++ ts.map (tkPV cl (.int L) (.int (p - N))))) → Q .next ρ' H') {a11 a13 a14 a15 a17 a18 a19 a20 a21 a22 a24 a25 a26 a27 a28 : Option PV} :
    vcSs B T d b_parse_20 Q [some (.str css), a1, some (.int css.length), some (.int p), some (.int p), some (.int L), some (.int N), a7, some (.ref l), a9, a10, a11, some (.int (p - N)), a13, a14, a15, some (.int e), a17, a18, a19, a20, a21, a22, some (.bool pl), a24, a25, a26, a27, a28] H := by
  subst hR
  cases pl with
  | true => exact tst_t ⟨(hiv rfl).1, _, (hiv rfl).2, num2_ok E hL he hget ht hS hq⟩
  | false => exact tst_f (num2_ok E hL he hget ht hS hq)
theorem at_ok (E : ParseEnv B d cl ser serU) (hL : css.length ≤ 100000) (hget : H l = some (.list toks)) (ht : toks.length ≤ 1000000)
    (hS : (if identStart (css.drop (p + 1)) then ([.at_ (identSpec (css.drop (p + 1))).1], p + 1 + (identSpec (css.drop (p + 1))).2) else ([.lit [64]], p + 1)) = (ts, q))
    (hq : ∀ ρ' H', Rho css a1 a7 a9 a10 l p (q) L N ρ' → H' = H.upd l (.list (toks ++ ts.map (tkPV cl (.int L) (.int (p - N))))) → Q .next ρ' H') {a11 a13 a14 a15 a16 a17 a18 a19 a20 a21 a22 a23 a24 a25 a26 a27 a28 : Option PV} :
    vcSs B T d b_parse_23 Q [some (.str css), a1, some (.int css.length), some (.int p), some (.int p), some (.int L), some (.int N), a7, some (.ref l), a9, a10, a11, some (.int (p - N)), a13, a14, a15, a16, a17, a18, a19, a20, a21, a22, a23, a24, a25, a26, a27, a28] H := by
  have lit : identStart (css.drop (p + 1)) = false → vcSs B T d b_parse_22 (kseq (vcSs B T d []) Q) [some (.str css), a1, some (.int css.length), some (.int p), some (.int (p + 1 : Nat)), some (.int L), some (.int N), a7, some (.ref l), a9, a10, a11, some (.int (p - N)), a13, a14, a15, a16, a17, a18, a19, a20, a21, a22, a23, a24, a25, a26, a27, a28] H := by
    intro hid
    rw [hid, if_neg Bool.false_ne_true] at hS
    cases hS
    exact ⟨⟨_, hget⟩, (E.lit _ _ _).run (app_mk hget ht ⟨rfl, hq _ _ .mk rfl⟩)⟩
  cases hg : css[p + 1]? with
  | none => exact tst_neg (lt_no hg) (tst_dF (lit (by rw [drop_none hg]; rfl)))
  | some x =>
    refine tst_pos (lt_yes hg) ((E.ids css (p + 1) hL (get_lt hg)).run ?_)
    cases hid : identStart (css.drop (p + 1)) with
    | false => exact tst_f (tst_dF (lit hid))
    | true =>
      rw [hid, if_pos rfl] at hS
      cases hS
      have hi := E.idc css (p + 1) hL (Nat.le_of_lt (get_lt hg))
      exact tst_t (tst_dT (hi.run ⟨rfl, ⟨_, hget⟩, (E.at_ _ _ _ (idlen hL)).run (app_mk hget ht ⟨rfl, hq _ _ .mk rfl⟩)⟩))
theorem hashChars_is (c : Nat) : c ∈ ([48, 49, 50, 51, 52, 53, 54, 55, 56, 57, 97, 98, 99, 100, 101, 102, 103, 104, 105, 106, 107, 108, 109, 110, 111, 112, 113, 114, 115, 116, 117, 118, 119, 120, 121, 122, 45, 95, 65, 66, 67, 68, 69, 70, 71, 72, 73, 74, 75, 76, 77, 78, 79, 80, 81, 82, 83, 84, 85, 86, 87, 88, 89, 90] : List Nat) ↔ isNC0 c = true := by
  refine mem_below (p := isNC0) (by decide) (by decide) (fun c h => ?_) c
  unfold isNC0 isNS0
  rw [decide_eq_false (by lia), decide_eq_false (by lia)]; rfl
theorem hash_ok (E : ParseEnv B d cl ser serU) (hL : css.length ≤ 100000) (hget : H l = some (.list toks)) (ht : toks.length ≤ 1000000)
    (hS : (if hashStart (css.drop (p + 1)) then ([.hash (identSpec (css.drop (p + 1))).1 (identStart (css.drop (p + 1)))], p + 1 + (identSpec (css.drop (p + 1))).2) else ([.lit [35]], p + 1)) = (ts, q))
    (hq : ∀ ρ' H', Rho css a1 a7 a9 a10 l p (q) L N ρ' → H' = H.upd l (.list (toks ++ ts.map (tkPV cl (.int L) (.int (p - N))))) → Q .next ρ' H') {a11 a13 a14 a15 a16 a17 a18 a19 a20 a21 a22 a23 a24 a25 a26 a27 a28 : Option PV} :
    vcSs B T d b_parse_26 Q [some (.str css), a1, some (.int css.length), some (.int p), some (.int p), some (.int L), some (.int N), a7, some (.ref l), a9, a10, a11, some (.int (p - N)), a13, a14, a15, a16, a17, a18, a19, a20, a21, a22, a23, a24, a25, a26, a27, a28] H := by
  have lit : hashStart (css.drop (p + 1)) = false → vcSs B T d b_parse_25 (kseq (vcSs B T d []) Q) [some (.str css), a1, some (.int css.length), some (.int p), some (.int (p + 1 : Nat)), some (.int L), some (.int N), a7, some (.ref l), a9, a10, a11, some (.int (p - N)), a13, a14, a15, a16, a17, a18, a19, a20, a21, a22, a23, a24, a25, a26, a27, a28] H := by
    intro hid
    rw [hid, if_neg Bool.false_ne_true] at hS
    cases hS
    exact ⟨⟨_, hget⟩, (E.lit _ _ _).run (app_mk hget ht ⟨rfl, hq _ _ .mk rfl⟩)⟩
  cases hg : css[p + 1]? with
  | none => exact tst_neg (lt_no hg) (tst_dF (lit (by rw [drop_none hg]; rfl)))
  | some x =>
    have hd := drop_get hg
    have yes : hashStart (css.drop (p + 1)) = true → vcSs B T d b_parse_24 (kseq (vcSs B T d []) Q) [some (.str css), a1, some (.int css.length), some (.int p), some (.int (p + 1 : Nat)), some (.int L), some (.int N), a7, some (.ref l), a9, a10, a11, some (.int (p - N)), a13, a14, a15, a16, a17, a18, a19, a20, a21, a22, a23, a24, a25, a26, a27, a28] H := by
      intro hh
      rw [hh, if_pos rfl] at hS
      cases hS
      have h1 := E.ids css (p + 1) hL (get_lt hg)
      have h2 := E.idc css (p + 1) hL (Nat.le_of_lt (get_lt hg))
      exact h1.run (h2.run ⟨rfl, ⟨_, hget⟩, (E.hash _ _ _ _).run (app_mk hget ht ⟨rfl, hq _ _ .mk rfl⟩)⟩)
    have hh : hashStart (css.drop (p + 1)) = (isNC x || (decide (x = 92) && !decide (css[p + 1 + 1]? = some 10))) := by rw [hd, hashStart, List.head?_drop]
    rw [hh] at lit yes
    unfold isNC at lit yes
    refine tst_pos (lt_yes hg) ⟨x, hg, tst_iff (hashChars_is x) (fun h0 => tst_dT (tst_dT (yes (by rw [h0]; rfl)))) (fun h0 => ?_)⟩
    rw [h0, Bool.false_or] at lit yes
    by_cases h127 : 127 < x
    · exact ⟨x, hg, tst_pos (Int.ofNat_lt.mpr h127) (tst_dT (tst_dT (yes (by rw [decide_eq_true h127]; rfl))))⟩
    · rw [decide_eq_false h127, Bool.false_or] at lit yes
      refine ⟨x, hg, tst_neg (fun h => h127 (Int.ofNat_lt.mp h)) ⟨x, hg, ?_⟩⟩
      by_cases h92 : x = 92
      · subst h92
        rw [decide_eq_true rfl, Bool.true_and] at lit yes
        refine tst_pos rfl ?_
        by_cases h10 : css[p + 1 + 1]? = some 10
        · rw [decide_eq_true h10] at lit
          refine tst_neg (fun h => h ?_) (tst_dF (tst_dF (tst_dF (lit rfl))))
          show startsAt _ _ _ = true
          rw [sw2, hg, h10]; rfl
        · rw [decide_eq_false h10] at yes
          refine tst_pos (fun h => ?_) (tst_dT (tst_dT (tst_dT (yes rfl))))
          replace h : startsAt css [92, 10] (p + 1) = true := h
          rw [sw2, decide_eq_false h10, Bool.and_false] at h
          exact nomatch h
      · rw [decide_eq_false h92] at lit
        exact tst_neg (fun h => h92 (cons1 h)) (tst_dF (tst_dF (tst_dF (lit rfl))))
end
end Mine
end
section
set_option backward.match.sparseCases false
namespace Mine
open PySem PySem.W
variable {B : Base} {T : Tab} {d : Nat}
section
variable {cl : Cls} {ser serU : List Nat → List Nat} {css : List Nat} {p c e q : Nat} {l : Addr} {toks : List PV} {ts : List TK} {Q : KS} {H : AH} {a1 a3 a7 a9 a10 : Option PV} {L N : Int}
theorem upd_same {H : AH} {l : Addr} {o : AO} (h : H l = some o) : H.upd l o = H := by
  funext b; unfold AH.upd; split
  · rename_i e; rw [e, h]
  · rfl
theorem err_ok (E : ParseEnv B d cl ser serU) {er n : Nat} {X : List PV} (hget : H l = some (.list X)) (ht : X.length ≤ 1000000)
    (hq : ∀ ρ' H', Rho css a1 a7 a9 a10 l p n L N ρ' → H' = (if er = 0 then H else H.upd l (.list (X ++ [tkPV cl (.int L) (.int (p - N)) (.err er)]))) → Q .next ρ' H') {a11 a13 a14 a15 a16 a17 a18 a20 a21 a22 a23 a24 a25 a26 a27 a28 : Option PV} :
    vcSs B T d r_parse_10 Q [some (.str css), a1, some (.int css.length), some (.int p), some (.int n), some (.int L), some (.int N), a7, some (.ref l), a9, a10, a11, some (.int (p - N)), a13, a14, a15, a16, a17, a18, some (errPV er), a20, a21, a22, a23, a24, a25, a26, a27, a28] H := by
  match er, hq with
  | 0, hq => exact tst_neg (fun h => nomatch h) (hq _ _ .mk rfl)
  | 1, hq => exact tst_pos rfl ⟨⟨_, hget⟩, (E.err .none .none .none .none).b, _, rfl, _, rfl, (E.err _ _ _ _).use (app_mk hget ht ⟨rfl, hq _ _ .mk rfl⟩)⟩
  | m + 2, hq => exact tst_pos rfl ⟨⟨_, hget⟩, (E.err .none .none .none .none).b, _, rfl, _, rfl, (E.err _ _ _ _).use (app_mk hget ht ⟨rfl, hq _ _ .mk rfl⟩)⟩
theorem isN_err : ∀ {er : Nat}, ¬ er = 0 → isN (errPV er) = false
  | 0, h => (h rfl).elim
  | 1, _ => rfl
  | _ + 2, _ => rfl
theorem take_last {s : List Nat} {x : Nat} : ((s ++ [x]).drop 0).take ((s ++ [x]).length - (0 + 1) - 0) = s := by
  rw [List.drop_zero, List.length_append]; exact List.take_left
theorem quo_ok (E : ParseEnv B d cl ser serU) (hL : css.length ≤ 100000) (hg : css[p]? = some c) (hqt : c = 34 ∨ c = 39) (hget : H l = some (.list toks)) (ht : toks.length ≤ 400000)
    (hS : (strToks ser (quotedSpec c (css.drop (p + 1))), p + 1 + (quotedSpec c (css.drop (p + 1))).2.1) = (ts, q))
    (hq : ∀ ρ' H', Rho css a1 a7 a9 a10 l p (q) L N ρ' → H' = H.upd l (.list (toks ++ ts.map (tkPV cl (.int L) (.int (p - N))))) → Q .next ρ' H') {a11 a14 a15 a16 a17 a18 a19 a20 a21 a22 a23 a24 a25 a26 a27 a28 : Option PV} :
    vcSs B T d b_parse_35 Q [some (.str css), a1, some (.int css.length), some (.int p), some (.int p), some (.int L), some (.int N), a7, some (.ref l), a9, a10, a11, some (.int (p - N)), some (.str [c]), a14, a15, a16, a17, a18, a19, a20, a21, a22, a23, a24, a25, a26, a27, a28] H := by
  have hlen := (quotedSpec_len c _ (css.drop (p + 1)) (Nat.le_refl _)).1
  rw [List.length_drop] at hlen
  refine (E.quo css p c hL hg hqt).run ⟨rfl, ?_⟩
  generalize quotedSpec c (css.drop (p + 1)) = V at *
  obtain ⟨v, n, er⟩ := V
  cases hS
  cases v with
  | none =>
    refine tst_neg (fun h => nomatch h) (err_ok (er := er) E hget (le4 ht) fun ρ' H' hR e => hq ρ' H' hR ?_)
    rw [e]
    cases er with
    | zero => rw [if_pos rfl]; exact (upd_same (by rw [hget]; exact congrArg (fun x => some (AO.list x)) (List.append_nil toks).symm)).symm
    | succ k => rfl
  | some v =>
    have hv := Nat.le_trans (le_sub_le (hlen v rfl)) hL
    have hsl := E.serl v
    have str : ∀ {r : List Nat}, (if er = 0 then [34] ++ ser v ++ [34] else [34] ++ ser v) = r → vcSs B T d r_parse_9 (kseq (vcSs B T d r_parse_10) Q) [some (.str css), a1, some (.int css.length), some (.int p), some (.int (p + 1 + n : Nat)), some (.int L), some (.int N), a7, some (.ref l), a9, a10, a11, some (.int (p - N)), some (.str [c]), some (.str v), a15, a16, a17, a18, some (errPV er), some (.str r), a21, a22, a23, a24, a25, a26, a27, a28] H := by
      rintro r rfl
      refine ⟨⟨_, hget⟩, (E.str _ _ _ _).run (app_mk hget (le4 ht) ⟨rfl, err_ok (er := er) E (upd_self ..) (by rw [List.length_append]; exact le4s ht) fun ρ' H' hR e => hq ρ' H' hR ?_⟩)⟩
      rw [e]
      cases er with
      | zero => rfl
      | succ k =>
        rw [if_neg (Nat.succ_ne_zero k), upd_upd, List.append_assoc]; rfl
    refine tst_pos rfl ⟨by decide, (E.serC v hv).run ⟨ser_a (j := 1) hsl hv (by decide), by rw [List.length_append]; exact ser_b (j := 1) hsl hv (by decide), ?_⟩⟩
    by_cases he : er = 0
    · exact tst_neg (fun h => by rw [he] at h; exact nomatch h) (str (by rw [if_pos he]; rfl))
    · exact tst_pos (isN_err he) (str (by rw [if_neg he]; exact take_last.symm))
noncomputable def symStep (css : List Nat) (p c : Nat) : List TK × Nat :=
  if startsAt css [60, 33, 45, 45] p = true then ([.lit [60, 33, 45, 45]], p + 4) else if startsAt css [124, 124] p = true then ([.lit [124, 124]], p + 2)
  else if c ∈ [126, 124, 94, 36, 42] ∧ css[p + 1]? = some 61 then ([.lit [c, 61]], p + 2) else ([.lit [c]], p + 1)
theorem sym_ok (E : ParseEnv B d cl ser serU) (hget : H l = some (.list toks)) (ht : toks.length ≤ 400000) (hcm : startsAt css [47, 42] p = false) (hS : symStep css p c = (ts, q))
    (hq : ∀ ρ' H', Rho css a1 a7 a9 a10 l p (q) L N ρ' → H' = H.upd l (.list (toks ++ ts.map (tkPV cl (.int L) (.int (p - N))))) → Q .next ρ' H') {a11 a14 a15 a16 a17 a18 a19 a20 a21 a22 a23 a24 a25 a26 a27 a28 : Option PV} :
    vcSs B T d b_parse_45 Q [some (.str css), a1, some (.int css.length), some (.int p), some (.int p), some (.int L), some (.int N), a7, some (.ref l), a9, a10, a11, some (.int (p - N)), some (.str [c]), a14, a15, a16, a17, a18, a19, a20, a21, a22, a23, a24, a25, a26, a27, a28] H := by
  refine tst_bf hcm ?_
  unfold symStep at hS
  cases h1 : startsAt css [60, 33, 45, 45] p with
  | true =>
    rw [if_pos h1] at hS
    cases hS
    exact tst_bt h1 ⟨⟨_, hget⟩, (E.lit _ _ _).run (app_mk hget (le4 ht) ⟨rfl, hq _ _ .mk rfl⟩)⟩
  | false =>
  rw [h1, if_neg Bool.false_ne_true] at hS
  refine tst_bf h1 ?_
  cases h2 : startsAt css [124, 124] p with
  | true =>
    rw [if_pos h2] at hS
    cases hS
    exact tst_bt h2 ⟨⟨_, hget⟩, (E.lit _ _ _).run (app_mk hget (le4 ht) ⟨rfl, hq _ _ .mk rfl⟩)⟩
  | false =>
  rw [h2, if_neg Bool.false_ne_true] at hS
  refine tst_bf h2 ?_
  by_cases h3 : c ∈ [126, 124, 94, 36, 42]
  · refine tst_pos h3 ?_
    by_cases h4 : css[p + 1]? = some 61
    · rw [if_pos ⟨h3, h4⟩] at hS
      cases hS
      exact tst_bt (sw_t h4) ⟨⟨_, hget⟩, (E.lit .none .none .none).b, (by show 1 + 1 ≤ 16777216; decide), (E.lit _ _ _).use (app_mk hget (le4 ht) ⟨rfl, hq _ _ .mk rfl⟩)⟩
    · rw [if_neg fun h => h4 h.2] at hS
      cases hS
      exact tst_bf (sw_f h4) ⟨⟨_, hget⟩, (E.lit _ _ _).run (app_mk hget (le4 ht) ⟨rfl, hq _ _ .mk rfl⟩)⟩
  · rw [if_neg fun h => h3 h.1] at hS
    cases hS
    exact tst_neg h3 ⟨⟨_, hget⟩, (E.lit _ _ _).run (app_mk hget (le4 ht) ⟨rfl, hq _ _ .mk rfl⟩)⟩
theorem upd_ne {H : AH} {a b : Addr} {o : AO} (h : b ≠ a) : H.upd a o b = H b := if_neg h
noncomputable def openH (H : AH) (l sa a : Addr) (toks stk : List PV) (nd ec : PV) : AH := ((H.upd a (.list [])).upd l (.list (toks ++ [nd]))).upd sa (.list (stk ++ [.tup [.ref l, ec]]))
section
variable {sa : Addr} {stk : List PV} {ec : PV}
theorem open_mk {nd : PV} {a : Addr} (hget : H l = some (.list toks)) (ht : toks.length ≤ 1000000) (hsa : H sa = some (.list stk)) (hst : stk.length ≤ 1000000) (hne : l ≠ sa) (ha : H a = none) {K : AH → Prop} (hk : K (openH H l sa a toks stk nd ec)) :
    (H.upd a (.list [])) l = some (.list toks) ∧ appB l nd (fun v H1 => v = .none ∧ (∃ vs, H1 sa = some (.list vs)) ∧ appB sa (.tup [.ref l, ec]) (fun v H2 => v = .none ∧ K H2) H1) (H.upd a (.list [])) := by
  have hal : l ≠ a := by rintro rfl; rw [hget] at ha; cases ha
  have hasa : sa ≠ a := by rintro rfl; rw [hsa] at ha; cases ha
  have g1 : (H.upd a (.list [])) l = some (.list toks) := (upd_ne hal).trans hget
  have g2 : ((H.upd a (.list [])).upd l (.list (toks ++ [nd]))) sa = some (.list stk) := (upd_ne (Ne.symm hne)).trans ((upd_ne hasa).trans hsa)
  exact ⟨g1, app_mk g1 ht ⟨rfl, ⟨_, g2⟩, app_mk g2 hst ⟨rfl, hk⟩⟩⟩
theorem cur_ok (E : ParseEnv B d cl ser serU) (hget : H l = some (.list toks)) (ht : toks.length ≤ 1000000) (hsa : H sa = some (.list stk)) (hst : stk.length ≤ 1000000) (hne : l ≠ sa)
    (hq : ∀ a ρ', H a = none → Rho css a1 a7 (some (.str [125])) (some (.ref sa)) a p (p + 1) L N ρ' → Q .next ρ' (openH H l sa a toks stk (.node cl.cur [.ref a, .int (p - N), .int L]) ec)) {a11 a13 a14 a15 a16 a17 a18 a19 a20 a21 a22 a23 a24 a25 a26 a27 a28 : Option PV} :
    vcSs B T d b_parse_27 Q [some (.str css), a1, some (.int css.length), some (.int p), some (.int p), some (.int L), some (.int N), a7, some (.ref l), some ec, some (.ref sa), a11, some (.int (p - N)), a13, a14, a15, a16, a17, a18, a19, a20, a21, a22, a23, a24, a25, a26, a27, a28] H := by
  intro a ha
  obtain ⟨g1, g2⟩ := open_mk (nd := .node cl.cur [.ref a, .int (p - N), .int L]) (ec := ec) hget ht hsa hst hne ha (K := fun H' => Q .next _ H') (hq a _ ha .mk)
  exact ⟨⟨_, g1⟩, (E.cur _ _ _).run g2⟩
theorem sqr_ok (E : ParseEnv B d cl ser serU) (hget : H l = some (.list toks)) (ht : toks.length ≤ 1000000) (hsa : H sa = some (.list stk)) (hst : stk.length ≤ 1000000) (hne : l ≠ sa)
    (hq : ∀ a ρ', H a = none → Rho css a1 a7 (some (.str [93])) (some (.ref sa)) a p (p + 1) L N ρ' → Q .next ρ' (openH H l sa a toks stk (.node cl.sqr [.ref a, .int (p - N), .int L]) ec)) {a11 a13 a14 a15 a16 a17 a18 a19 a20 a21 a22 a23 a24 a25 a26 a27 a28 : Option PV} :
    vcSs B T d b_parse_28 Q [some (.str css), a1, some (.int css.length), some (.int p), some (.int p), some (.int L), some (.int N), a7, some (.ref l), some ec, some (.ref sa), a11, some (.int (p - N)), a13, a14, a15, a16, a17, a18, a19, a20, a21, a22, a23, a24, a25, a26, a27, a28] H := by
  intro a ha
  obtain ⟨g1, g2⟩ := open_mk (nd := .node cl.sqr [.ref a, .int (p - N), .int L]) (ec := ec) hget ht hsa hst hne ha (K := fun H' => Q .next _ H') (hq a _ ha .mk)
  exact ⟨⟨_, g1⟩, (E.sqr _ _ _).run g2⟩
theorem par_ok (E : ParseEnv B d cl ser serU) (hget : H l = some (.list toks)) (ht : toks.length ≤ 1000000) (hsa : H sa = some (.list stk)) (hst : stk.length ≤ 1000000) (hne : l ≠ sa)
    (hq : ∀ a ρ', H a = none → Rho css a1 a7 (some (.str [41])) (some (.ref sa)) a p (p + 1) L N ρ' → Q .next ρ' (openH H l sa a toks stk (.node cl.par [.ref a, .int (p - N), .int L]) ec)) {a11 a13 a14 a15 a16 a17 a18 a19 a20 a21 a22 a23 a24 a25 a26 a27 a28 : Option PV} :
    vcSs B T d b_parse_29 Q [some (.str css), a1, some (.int css.length), some (.int p), some (.int p), some (.int L), some (.int N), a7, some (.ref l), some ec, some (.ref sa), a11, some (.int (p - N)), a13, a14, a15, a16, a17, a18, a19, a20, a21, a22, a23, a24, a25, a26, a27, a28] H := by
  intro a ha
  obtain ⟨g1, g2⟩ := open_mk (nd := .node cl.par [.ref a, .int (p - N), .int L]) (ec := ec) hget ht hsa hst hne ha (K := fun H' => Q .next _ H') (hq a _ ha .mk)
  exact ⟨⟨_, g1⟩, (E.par _ _ _).run g2⟩
theorem fn_ok (E : ParseEnv B d cl ser serU) {v : List Nat} (hv : v.length ≤ 100000) (hget : H l = some (.list toks)) (ht : toks.length ≤ 1000000) (hsa : H sa = some (.list stk)) (hst : stk.length ≤ 1000000) (hne : l ≠ sa)
    (hq : ∀ a ρ', H a = none → Rho css a1 a7 (some (.str [41])) (some (.ref sa)) a p q L N ρ' → Q .cont ρ' (openH H l sa a toks stk (.node cl.fn [.ref a, .str (v.map lowC), .str v, .int (p - N), .int L]) ec)) {a11 a13 a15 a16 a17 a18 a19 a20 a21 a22 a23 a24 a25 a26 a27 a28 : Option PV} :
    vcSs B T d r_parse_6 Q [some (.str css), a1, some (.int css.length), some (.int p), some (.int q), some (.int L), some (.int N), a7, some (.ref l), some ec, some (.ref sa), a11, some (.int (p - N)), a13, some (.str v), a15, a16, a17, a18, a19, a20, a21, a22, a23, a24, a25, a26, a27, a28] H := by
  intro a ha
  obtain ⟨g1, g2⟩ := open_mk (nd := .node cl.fn [.ref a, .str (v.map lowC), .str v, .int (p - N), .int L]) (ec := ec) hget ht hsa hst hne ha (K := fun H' => Q .cont _ H') (hq a _ ha .mk)
  exact ⟨⟨_, g1⟩, (E.fn _ _ _ _ hv).run g2⟩
noncomputable def shutH (H : AH) (l l' sa : Addr) (stk ini fs gs toks : List PV) (cc : Addr) : AH := ((H.upd sa (.list stk)).del l).upd l' (.list (ini ++ [.node cc (fs ++ .lst toks :: gs)]))
theorem clo_ok {l' cc : Addr} {ini fs gs : List PV} {ec' : PV} (hget : H l = some (.list toks)) (hsa : H sa = some (.list (stk ++ [.tup [.ref l', ec']]))) (hl' : H l' = some (.list (ini ++ [.node cc (fs ++ .ref l :: gs)]))) (h1 : l ≠ sa) (h2 : l' ≠ sa) (h3 : l ≠ l')
    (hq : ∀ ρ', Rho css a1 a7 (some ec') (some (.ref sa)) l' p (p + 1) L N ρ' → Q .next ρ' (shutH H l l' sa stk ini fs gs toks cc)) {a11 a13 a14 a15 a16 a17 a18 a19 a20 a21 a22 a23 a24 a25 a26 a27 a28 : Option PV} :
    vcSs B T d b_parse_30 Q [some (.str css), a1, some (.int css.length), some (.int p), some (.int p), some (.int L), some (.int N), a7, some (.ref l), some ec, some (.ref sa), a11, some (.int (p - N)), a13, a14, a15, a16, a17, a18, a19, a20, a21, a22, a23, a24, a25, a26, a27, a28] H :=
  ⟨stk, _, _, hsa, .step (.refl _) ((upd_ne h1).trans hget) ((upd_ne h2).trans hl') h3, rfl, hq _ .mk⟩
theorem unm_ok (E : ParseEnv B d cl ser serU) (hget : H l = some (.list toks)) (ht : toks.length ≤ 1000000)
    (hq : ∀ ρ', Rho css a1 a7 a9 a10 l p (p + 1) L N ρ' → Q .next ρ' (H.upd l (.list (toks ++ [TK.unm c].map (tkPV cl (.int L) (.int (p - N))))))) {a11 a14 a15 a16 a17 a18 a19 a20 a21 a22 a23 a24 a25 a26 a27 a28 : Option PV} :
    vcSs B T d b_parse_31 Q [some (.str css), a1, some (.int css.length), some (.int p), some (.int p), some (.int L), some (.int N), a7, some (.ref l), a9, a10, a11, some (.int (p - N)), some (.str [c]), a14, a15, a16, a17, a18, a19, a20, a21, a22, a23, a24, a25, a26, a27, a28] H :=
  ⟨⟨_, hget⟩, (E.err .none .none .none .none).b, (by show 10 + 1 ≤ 16777216; decide), (E.err _ _ _ _).use (app_mk hget ht ⟨rfl, hq _ .mk⟩)⟩
noncomputable def reprU (serU : List Nat → List Nat) (e : Nat) (v : List Nat) : List Nat := if e = 0 then [117, 114, 108, 40] ++ serU v ++ [41] else [117, 114, 108, 40] ++ serU v
noncomputable def urlToks (serU : List Nat → List Nat) (t : Option (List Nat) × Nat × Nat) : List TK :=
  (match t.1 with
    | none => []
    | some v => [.url v (reprU serU t.2.2 v)]) ++ (if t.2.2 = 0 then [] else [.eru t.2.2])
theorem urlEnd_facts {s v : List Nat} {p : Nat} (hv : v.length ≤ s.length) : (∀ w, (urlEnd s v p).1 = some w → w.length ≤ s.length ∧ (urlEnd s v p).2.2 ≤ 1) ∧ ((urlEnd s v p).1 = none → (urlEnd s v p).2.2 = 2) := by
  unfold urlEnd
  cases s[p]? with
  | none => exact ⟨fun w h => by cases h; exact ⟨hv, Nat.le_refl _⟩, fun h => nomatch h⟩
  | some c =>
    dsimp only
    split
    · exact ⟨fun w h => by cases h; exact ⟨hv, Nat.zero_le _⟩, fun h => nomatch h⟩
    · exact ⟨fun w h => (nomatch h), fun xx => rfl⟩
theorem urlSpec_facts (s : List Nat) (p : Nat) : (∀ w, (urlSpec s p).1 = some w → w.length ≤ s.length ∧ (urlSpec s p).2.2 ≤ 1) ∧ ((urlSpec s p).1 = none → (urlSpec s p).2.2 = 2) := by
  unfold urlSpec
  generalize p + wsRun (s.drop p) = k
  cases s[k]? with
  | none => exact ⟨fun w h => by cases h; exact ⟨Nat.zero_le _, Nat.le_refl _⟩, fun h => nomatch h⟩
  | some c =>
    dsimp only
    split
    · exact ⟨fun w h => by cases h; exact ⟨Nat.zero_le _, Nat.zero_le _⟩, fun h => nomatch h⟩
    · have hv := (urlGo_len (s.drop k) 0 (Nat.zero_le _)).1
      rw [List.length_drop] at hv
      have hv : (urlGo (s.drop k) 0).1.length ≤ s.length := Nat.le_trans hv (Nat.sub_le _ _)
      unfold urlFin
      split
      · exact ⟨fun w h => by cases h; exact ⟨hv, Nat.le_refl _⟩, fun h => nomatch h⟩
      split
      · exact ⟨fun w h => by cases h; exact ⟨hv, Nat.zero_le _⟩, fun h => nomatch h⟩
      split
      · exact urlEnd_facts hv
      · exact ⟨fun w h => (nomatch h), fun xx => rfl⟩
theorem eru_ok (E : ParseEnv B d cl ser serU) {er n : Nat} {X : List PV} (hget : H l = some (.list X)) (ht : X.length ≤ 1000000)
    (hq : ∀ ρ' H', Rho css a1 a7 a9 a10 l p n L N ρ' → H' = (if er = 0 then H else H.upd l (.list (X ++ [tkPV cl (.int L) (.int (p - N)) (.eru er)]))) → Q .cont ρ' H') {a11 a13 a14 a15 a16 a17 a18 a20 a21 a22 a23 a24 a25 a26 a27 a28 : Option PV} :
    vcSs B T d r_parse_4 Q [some (.str css), a1, some (.int css.length), some (.int p), some (.int n), some (.int L), some (.int N), a7, some (.ref l), a9, a10, a11, some (.int (p - N)), a13, a14, a15, a16, a17, a18, some (errU er), a20, a21, a22, a23, a24, a25, a26, a27, a28] H := by
  match er, hq with
  | 0, hq => exact tst_neg (fun h => nomatch h) (hq _ _ .mk rfl)
  | 1, hq => exact tst_pos rfl ⟨⟨_, hget⟩, (E.err .none .none .none .none).b, _, rfl, _, rfl, (E.err _ _ _ _).use (app_mk hget ht ⟨rfl, hq _ _ .mk rfl⟩)⟩
  | m + 2, hq => exact tst_pos rfl ⟨⟨_, hget⟩, (E.err .none .none .none .none).b, _, rfl, _, rfl, (E.err _ _ _ _).use (app_mk hget ht ⟨rfl, hq _ _ .mk rfl⟩)⟩
theorem url_tok_ok (E : ParseEnv B d cl ser serU) (hL : css.length ≤ 100000) (hnq : ∀ c, css[e + wsRun (css.drop e)]? = some c → ¬ c = 34 ∧ ¬ c = 39) (hget : H l = some (.list toks)) (ht : toks.length ≤ 400000)
    (hq : ∀ ρ' H', Rho css a1 a7 a9 a10 l p (urlSpec css e).2.1 L N ρ' → H' = H.upd l (.list (toks ++ (urlToks serU (urlSpec css e)).map (tkPV cl (.int L) (.int (p - N))))) → Q .cont ρ' H') {a11 a13 a14 a15 a16 a17 a18 a19 a20 a21 a22 a23 a24 a25 a26 a27 a28 : Option PV} :
    vcSs B T d b_parse_10 Q [some (.str css), a1, some (.int css.length), some (.int p), some (.int e), some (.int L), some (.int N), a7, some (.ref l), a9, a10, a11, some (.int (p - N)), a13, a14, a15, a16, a17, a18, a19, a20, a21, a22, a23, a24, a25, a26, a27, a28] H := by
  have hf := urlSpec_facts css e
  refine (E.urlc css e hL hnq).run ⟨rfl, ?_⟩
  generalize urlSpec css e = V at *
  obtain ⟨v, n, er⟩ := V
  cases v with
  | none =>
    have h2 : er = 2 := hf.2 rfl
    subst h2
    exact tst_neg (fun h => nomatch h) (eru_ok (er := 2) E hget (le4 ht) fun ρ' H' hR e => hq ρ' H' hR e)
  | some v =>
    obtain ⟨hv, he⟩ := hf.1 v rfl
    replace hv := Nat.le_trans hv hL
    have hsl := E.serUl v
    replace he : er ≤ 1 := he
    have str : ∀ {r : List Nat} {a21 : Option PV}, reprU serU er v = r → vcSs B T d r_parse_2 (kseq (vcSs B T d r_parse_4) Q) [some (.str css), a1, some (.int css.length), some (.int p), some (.int n), some (.int L), some (.int N), a7, some (.ref l), a9, a10, a11, some (.int (p - N)), a13, some (.str v), a15, a16, a17, a18, some (errU er), some (.str r), a21, a22, a23, a24, a25, a26, a27, a28] H := by
      rintro r a21 rfl
      refine ⟨⟨_, hget⟩, (E.url _ _ _ _).run (app_mk hget (le4 ht) ⟨rfl, eru_ok (er := er) E (upd_self ..) (by rw [List.length_append]; exact le4s ht) fun ρ' H' hR e => hq ρ' H' hR ?_⟩)⟩
      rw [e]
      cases er with
      | zero => rfl
      | succ k => rw [if_neg (Nat.succ_ne_zero k), upd_upd, List.append_assoc]; rfl
    refine tst_pos rfl ⟨by decide, (E.serUC v hv).run ⟨ser_a (j := 4) hsl hv (by decide), by rw [List.length_append]; exact ser_b (j := 4) hsl hv (by decide), ?_⟩⟩
    rcases Nat.le_one_iff_eq_zero_or_eq_one.mp he with e0 | e1
    · subst e0; exact tst_neg (fun h => nomatch h) (str rfl)
    · subst e1; exact tst_pos rfl ⟨_, rfl, tst_neg (by decide) ⟨rfl, str take_last.symm⟩⟩
end
end
end Mine
end
section
set_option backward.match.sparseCases false
namespace Mine
open PySem PySem.W
variable {B : Base} {T : Tab} {d : Nat}
inductive Stp where
  | tk (ts : List TK)
  | fn (nm : List Nat)
  | blk (c : Nat)
  | clo (c : Nat)
noncomputable def isUrlW (v : List Nat) : Bool := decide (v.map lowC = [117, 114, 108])
noncomputable def notQ (css : List Nat) (e : Nat) : Bool := !(css[e + wsRun (css.drop e)]?).any fun c => decide (c = 34 ∨ c = 39)
noncomputable def stepId (serU : List Nat → List Nat) (css : List Nat) (v : List Nat) (e : Nat) : Stp × Nat :=
  if css[e]? = some 40 then (if (isUrlW v && notQ css (e + 1)) = true then (.tk (urlToks serU (urlSpec css (e + 1))), (urlSpec css (e + 1)).2.1) else (.fn v, e + 1)) else (.tk [.ident v], e)
noncomputable def closer (c : Nat) : Nat := if c = 40 then 41 else if c = 91 then 93 else 125
noncomputable def blkC (cl : Cls) (c : Nat) : Addr := if c = 40 then cl.par else if c = 91 then cl.sqr else cl.cur
noncomputable def fnNode (cl : Cls) (v : List Nat) (L N : Int) (p : Nat) (x : PV) : PV := .node cl.fn [x, .str (v.map lowC), .str v, .int (p - N), .int L]
noncomputable def blkNode (cl : Cls) (c : Nat) (L N : Int) (p : Nat) (x : PV) : PV := .node (blkC cl c) [x, .int (p - N), .int L]
section
variable {cl : Cls} {ser serU : List Nat → List Nat} {css : List Nat} {p c e q : Nat} {l sa : Addr} {toks stk : List PV} {ts : List TK} {Q : KS} {H : AH} {a1 a3 a7 : Option PV} {ec : PV} {L N : Int}
noncomputable def StepP (cl : Cls) (css : List Nat) (a1 a7 : Option PV) (ec : PV) (sa l : Addr) (p : Nat) (L N : Int) (toks stk : List PV) (H : AH) (Q : KS) (q : Nat) : Stp → Prop
  | .tk ts => ∀ f ρ' H', f = .next ∨ f = .cont → Rho css a1 a7 (some ec) (some (.ref sa)) l p q L N ρ' → H' = H.upd l (.list (toks ++ ts.map (tkPV cl (.int L) (.int (p - N))))) → Q f ρ' H'
  | .fn v => ∀ a f ρ', f = .next ∨ f = .cont → H a = none → Rho css a1 a7 (some (.str [41])) (some (.ref sa)) a p q L N ρ' → Q f ρ' (openH H l sa a toks stk (fnNode cl v L N p (.ref a)) ec)
  | .blk c => ∀ a f ρ', f = .next ∨ f = .cont → H a = none → Rho css a1 a7 (some (.str [closer c])) (some (.ref sa)) a p q L N ρ' → Q f ρ' (openH H l sa a toks stk (blkNode cl c L N p (.ref a)) ec)
  | .clo c => (ec = .str [c] → ∃ l' cc stk' ini fs gs ec', stk = stk' ++ [.tup [.ref l', ec']] ∧ H l' = some (.list (ini ++ [.node cc (fs ++ .ref l :: gs)])) ∧ l' ≠ sa ∧ l ≠ l' ∧
      ∀ f ρ', f = .next ∨ f = .cont → Rho css a1 a7 (some ec') (some (.ref sa)) l' p q L N ρ' → Q f ρ' (shutH H l l' sa stk' ini fs gs toks cc)) ∧
    (ec ≠ .str [c] → ∀ f ρ' H', f = .next ∨ f = .cont → Rho css a1 a7 (some ec) (some (.ref sa)) l p q L N ρ' → H' = H.upd l (.list (toks ++ [TK.unm c].map (tkPV cl (.int L) (.int (p - N))))) → Q f ρ' H')
theorem up_loop {k : Nat} {a2 a4 a5 a6 a8 a9 a10 a11 a12 a13 a14 a15 a16 a17 a19 a20 a21 a22 a23 a24 a25 a26 a27 a28 : Option PV}
    (hq : Q .next [some (.str css), a1, a2, a3, a4, a5, a6, a7, a8, a9, a10, a11, a12, a13, a14, a15, a16, a17, some (.int (k + wsRun (css.drop k) : Nat)), a19, a20, a21, a22, a23, a24, a25, a26, a27, a28] H) :
    vcS B T d w_parse_2 Q [some (.str css), a1, a2, a3, a4, a5, a6, a7, a8, a9, a10, a11, a12, a13, a14, a15, a16, a17, some (.int (k : Nat)), a19, a20, a21, a22, a23, a24, a25, a26, a27, a28] H :=
  adv_loop (fun p => [some (.str css), a1, a2, a3, a4, a5, a6, a7, a8, a9, a10, a11, a12, a13, a14, a15, a16, a17, some (.int (p : Nat)), a19, a20, a21, a22, a23, a24, a25, a26, a27, a28]) (fun p I n h1 h2 => tst_iff any_bl_iff h1 h2) hq
theorem ident_ok (E : ParseEnv B d cl ser serU) (hL : css.length ≤ 100000) (hp : p ≤ css.length) (hget : H l = some (.list toks)) (ht : toks.length ≤ 400000) (hsa : H sa = some (.list stk)) (hst : stk.length ≤ 1000000) (hne : l ≠ sa)
    (hq : StepP cl css a1 a7 ec sa l p L N toks stk H Q (stepId serU css (identSpec (css.drop p)).1 (p + (identSpec (css.drop p)).2)).2 (stepId serU css (identSpec (css.drop p)).1 (p + (identSpec (css.drop p)).2)).1) {a11 a13 a14 a15 a16 a17 a18 a19 a20 a21 a22 a23 a24 a25 a26 a27 a28 : Option PV} :
    vcSs B T d b_parse_12 Q [some (.str css), a1, some (.int css.length), some (.int p), some (.int p), some (.int L), some (.int N), a7, some (.ref l), some ec, some (.ref sa), a11, some (.int (p - N)), a13, a14, a15, a16, a17, a18, a19, a20, a21, a22, a23, a24, a25, a26, a27, a28] H := by
  have hv := idlen (e := p) hL
  refine (E.idc css p hL hp).run ⟨rfl, ?_⟩
  generalize (identSpec (css.drop p)).1 = v at *
  generalize p + (identSpec (css.drop p)).2 = e at *
  unfold stepId at hq
  by_cases h40 : css[e]? = some 40
  · rw [if_pos h40] at hq
    refine tst_neg (fun h => h (sw_t h40)) ((E.low v hv).run ?_)
    have fnc : (isUrlW v && notQ css (e + 1)) = false → ∀ {a17 a18 : Option PV}, vcSs B T d r_parse_6 Q [some (.str css), a1, some (.int css.length), some (.int p), some (.int (e + 1 : Nat)), some (.int L), some (.int N), a7, some (.ref l), some ec, some (.ref sa), a11, some (.int (p - N)), a13, some (.str v), a15, a16, a17, a18, a19, a20, a21, a22, a23, a24, a25, a26, a27, a28] H := by
      intro hu a17 a18
      rw [hu] at hq
      exact fn_ok E hv hget (by lia) hsa hst hne fun a ρ' ha hR => hq a .cont ρ' (.inr rfl) ha hR
    refine tst_dec (fun hu => ?_) (fun hu => fnc (by rw [show isUrlW v = false from decide_eq_false hu]; rfl))
    have hu1 : isUrlW v = true := decide_eq_true hu
    have urlc : notQ css (e + 1) = true → (∀ x, css[e + 1 + wsRun (css.drop (e + 1))]? = some x → ¬ x = 34 ∧ ¬ x = 39) → ∀ {a17 a18 : Option PV}, vcSs B T d b_parse_10 (kseq (vcSs B T d []) (kseq (vcSs B T d r_parse_6) Q)) [some (.str css), a1, some (.int css.length), some (.int p), some (.int (e + 1 : Nat)), some (.int L), some (.int N), a7, some (.ref l), some ec, some (.ref sa), a11, some (.int (p - N)), a13, some (.str v), a15, a16, a17, a18, a19, a20, a21, a22, a23, a24, a25, a26, a27, a28] H := by
      intro hn hx a17 a18
      rw [hu1, hn, if_pos (show (true && true) = true from rfl)] at hq
      exact url_tok_ok E hL hx hget ht fun ρ' H' hR e => hq .cont ρ' H' (.inr rfl) hR e
    refine up_loop ?_
    unfold notQ at urlc fnc
    cases hg : css[e + 1 + wsRun (css.drop (e + 1))]? with
    | none =>
      rw [hg] at urlc
      exact tst_pos (Int.ofNat_le.mpr (get_ge hg)) (tst_dT (urlc rfl fun x h => nomatch h))
    | some x =>
      have hlt := get_lt hg
      rw [hg] at urlc fnc
      refine tst_neg (fun h => Nat.not_le.mpr hlt (Int.ofNat_le.mp h)) ⟨x, hg, ?_⟩
      by_cases hx : x = 34 ∨ x = 39
      · refine tst_neg (fun h => h ?_) (tst_dF (fnc ?_))
        · rcases hx with rfl | rfl
          · exact List.mem_cons_self
          · exact List.mem_cons_of_mem _ List.mem_cons_self
        · rw [hu1, Option.any_some, decide_eq_true hx]; rfl
      · refine tst_pos (fun h => hx ?_) (tst_dT (urlc ?_ fun y hy => ?_))
        · rcases List.mem_cons.mp h with h | h
          · exact .inl (cons1 h)
          · exact .inr (cons1 (List.mem_singleton.mp h))
        · rw [Option.any_some, decide_eq_false hx]; rfl
        · cases hy; exact ⟨fun h => hx (.inl h), fun h => hx (.inr h)⟩
  · rw [if_neg h40] at hq
    refine tst_pos (fun h => ?_) ⟨⟨_, hget⟩, (E.ident _ _ _ hv).run (app_mk hget (by lia) ⟨rfl, hq .cont _ _ (.inr rfl) .mk rfl⟩)⟩
    replace h : startsAt css [40] e = true := h
    rw [sw1] at h
    exact h40 (of_decide_eq_true h)
noncomputable def tkOf (r : List TK × Nat) : Stp × Nat := (.tk r.1, r.2)
noncomputable def stepN (ser : List Nat → List Nat) (css : List Nat) (p c : Nat) : Stp × Nat := match numFrom css p with
  | some (e, pl) => tkOf (if identStart (css.drop e) then ([.dim ((css.drop p).take (e - p)) (ivOf pl ((css.drop p).take (e - p))) (identSpec (css.drop e)).1], e + (identSpec (css.drop e)).2)
      else if css[e]? = some 37 then ([.pct ((css.drop p).take (e - p)) (ivOf pl ((css.drop p).take (e - p)))], e + 1)
      else ([.num ((css.drop p).take (e - p)) (ivOf pl ((css.drop p).take (e - p)))], e))
  | none => if c = 64 then tkOf (if identStart (css.drop (p + 1)) then ([.at_ (identSpec (css.drop (p + 1))).1], p + 1 + (identSpec (css.drop (p + 1))).2) else ([.lit [64]], p + 1))
    else if c = 35 then tkOf (if hashStart (css.drop (p + 1)) then ([.hash (identSpec (css.drop (p + 1))).1 (identStart (css.drop (p + 1)))], p + 1 + (identSpec (css.drop (p + 1))).2) else ([.lit [35]], p + 1))
    else if c = 123 ∨ c = 91 ∨ c = 40 then (.blk c, p + 1) else if c = 125 ∨ c = 93 ∨ c = 41 then (.clo c, p + 1)
    else if c = 34 ∨ c = 39 then tkOf (strToks ser (quotedSpec c (css.drop (p + 1))), p + 1 + (quotedSpec c (css.drop (p + 1))).2.1) else tkOf (symStep css p c)
noncomputable def stepAt (ser serU : List Nat → List Nat) (css : List Nat) (p c : Nat) : Stp × Nat :=
  if isBl c = true then (.tk [.ws ((css.drop p).take (1 + wsRun (css.drop (p + 1))))], p + (1 + wsRun (css.drop (p + 1))))
  else if startsAt css [45, 45, 62] p = true then (.tk [.lit [45, 45, 62]], p + 3)
  else if identStart (css.drop p) = true then stepId serU css (identSpec (css.drop p)).1 (p + (identSpec (css.drop p)).2)
  else stepN ser css p c
theorem one_of {c x : Nat} (h : ¬ c = x) : ¬ [c] = [x] := fun e => h (cons1 e)
theorem brk_ok (E : ParseEnv B d cl ser serU) (hL : css.length ≤ 100000) (hg : css[p]? = some c) (hget : H l = some (.list toks)) (ht : toks.length ≤ 400000) (hsa : H sa = some (.list stk)) (hst : stk.length ≤ 1000000) (hne : l ≠ sa) (hcm : startsAt css [47, 42] p = false)
    (hec : ec = .none ∨ ∃ x, ec = .str [x] ∧ (x = 125 ∨ x = 93 ∨ x = 41)) (h64 : ¬ c = 64) (h35 : ¬ c = 35) (hn : numFrom css p = none) (hq : StepP cl css a1 a7 ec sa l p L N toks stk H Q (stepN ser css p c).2 (stepN ser css p c).1) {a11 a14 a15 a16 a17 a18 a19 a20 a21 a22 a23 a24 a25 a26 a27 a28 : Option PV} :
    vcSs B T d b_parse_51 Q [some (.str css), a1, some (.int css.length), some (.int p), some (.int p), some (.int L), some (.int N), a7, some (.ref l), some ec, some (.ref sa), a11, some (.int (p - N)), some (.str [c]), a14, a15, a16, a17, a18, a19, a20, a21, a22, a23, a24, a25, a26, a27, a28] H := by
  unfold stepN at hq
  rw [hn] at hq
  dsimp only at hq
  rw [if_neg h64, if_neg h35] at hq
  by_cases h1 : c = 123
  · subst h1; exact tst_pos rfl (cur_ok E hget (by lia) hsa hst hne fun a ρ' ha hR => hq a .next ρ' (.inl rfl) ha hR)
  refine tst_neg (one_of h1) ?_
  by_cases h2 : c = 91
  · subst h2; exact tst_pos rfl (sqr_ok E hget (by lia) hsa hst hne fun a ρ' ha hR => hq a .next ρ' (.inl rfl) ha hR)
  refine tst_neg (one_of h2) ?_
  by_cases h3 : c = 40
  · subst h3; exact tst_pos rfl (par_ok E hget (by lia) hsa hst hne fun a ρ' ha hR => hq a .next ρ' (.inl rfl) ha hR)
  refine tst_neg (one_of h3) ?_
  rw [if_neg (show ¬ (c = 123 ∨ c = 91 ∨ c = 40) from fun h => h.elim h1 fun h => h.elim h2 h3)] at hq
  have rest : ∀ {Q' : KS}, (∀ ρ H, Q .next ρ H → Q' .next ρ H) → ec ≠ .str [c] → vcSs B T d b_parse_47 Q' [some (.str css), a1, some (.int css.length), some (.int p), some (.int p), some (.int L), some (.int N), a7, some (.ref l), some ec, some (.ref sa), a11, some (.int (p - N)), some (.str [c]), a14, a15, a16, a17, a18, a19, a20, a21, a22, a23, a24, a25, a26, a27, a28] H := by
    intro Q' hQ hne'
    by_cases hc : c = 125 ∨ c = 93 ∨ c = 41
    · rw [if_pos hc] at hq
      refine tst_pos ?_ (unm_ok E hget (by lia) fun ρ' hR => hQ _ _ (hq.2 hne' .next ρ' _ (.inl rfl) hR rfl))
      rcases hc with rfl | rfl | rfl <;> decide
    rw [if_neg hc] at hq
    refine tst_neg (fun h => hc ?_) ?_
    · rcases List.mem_cons.mp h with h | h
      · exact .inl h
      · rcases List.mem_cons.mp h with h | h
        · exact .inr (.inl h)
        · exact .inr (.inr (List.mem_singleton.mp h))
    by_cases hqt : c = 34 ∨ c = 39
    · rw [if_pos hqt] at hq
      refine tst_pos ?_ (quo_ok E hL hg hqt hget ht rfl fun ρ' H' hR e => hQ _ _ (hq .next ρ' H' (.inl rfl) hR e))
      rcases hqt with rfl | rfl
      · exact List.mem_cons_self
      · exact List.mem_cons_of_mem _ List.mem_cons_self
    rw [if_neg hqt] at hq
    refine tst_neg (fun h => hqt ?_) (sym_ok E hget ht hcm rfl fun ρ' H' hR e => hQ _ _ (hq .next ρ' H' (.inl rfl) hR e))
    rcases List.mem_cons.mp h with h | h
    · exact .inl (cons1 h)
    · exact .inr (cons1 (List.mem_singleton.mp h))
  rcases hec with rfl | ⟨x, rfl, hx⟩
  · exact tst_dF (rest (fun xx xx h => h) fun h => nomatch h)
  · by_cases hcx : c = x
    · subst hcx
      rw [if_pos hx] at hq
      obtain ⟨l', cc, stk', ini, fs, gs, ec', rfl, g1, g2, g3, g4⟩ := hq.1 rfl
      exact tst_pos rfl (clo_ok hget hsa g1 hne g2 g3 fun ρ' hR => g4 .next ρ' (.inl rfl) hR)
    · exact tst_neg (one_of hcx) (rest (fun xx xx h => h) fun h => by cases h; exact hcx rfl)
theorem stepN_ok (E : ParseEnv B d cl ser serU) (hL : css.length ≤ 100000) (hg : css[p]? = some c) (hget : H l = some (.list toks)) (ht : toks.length ≤ 400000) (hsa : H sa = some (.list stk)) (hst : stk.length ≤ 1000000) (hne : l ≠ sa) (hcm : startsAt css [47, 42] p = false)
    (hec : ec = .none ∨ ∃ x, ec = .str [x] ∧ (x = 125 ∨ x = 93 ∨ x = 41))
    (hnum : ∀ e pl, numFrom css p = some (e, pl) → p < e ∧ e ≤ css.length ∧ (pl = true → ((css.drop p).take (e - p)).length ≤ 640 ∧ PySem.intText? (sOf ((css.drop p).take (e - p))) = some (numVal ((css.drop p).take (e - p)))))
    (hq : StepP cl css a1 a7 ec sa l p L N toks stk H Q (stepN ser css p c).2 (stepN ser css p c).1) {a11 a14 a15 a16 a17 a18 a19 a20 a21 a22 a23 a24 a25 a26 a27 a28 : Option PV} :
    vcSs B T d r_parse_11 Q [some (.str css), a1, some (.int css.length), some (.int p), some (.int p), some (.int L), some (.int N), a7, some (.ref l), some ec, some (.ref sa), a11, some (.int (p - N)), some (.str [c]), a14, a15, a16, a17, a18, a19, a20, a21, a22, a23, a24, a25, a26, a27, a28] H := by
  refine (E.num css p).run ?_
  have hq' := hq
  unfold stepN at hq
  cases hn : numFrom css p with
  | some ep =>
    obtain ⟨e, pl⟩ := ep
    obtain ⟨he1, he2, hiv⟩ := hnum e pl hn
    rw [hn] at hq
    exact ⟨rfl, tst_pos rfl (num_ok E hL he2 hget (by lia) rfl hiv rfl fun ρ' H' hR e => hq .next ρ' H' (.inl rfl) hR e)⟩
  | none =>
    rw [hn] at hq
    refine ⟨rfl, tst_neg (fun h => nomatch h) ?_⟩
    dsimp only at hq
    by_cases h64 : c = 64
    · rw [if_pos h64] at hq
      subst h64
      exact tst_pos rfl (at_ok E hL hget (by lia) rfl fun ρ' H' hR e => hq .next ρ' H' (.inl rfl) hR e)
    refine tst_neg (one_of h64) ?_
    rw [if_neg h64] at hq
    by_cases h35 : c = 35
    · rw [if_pos h35] at hq
      subst h35
      exact tst_pos rfl (hash_ok E hL hget (by lia) rfl fun ρ' H' hR e => hq .next ρ' H' (.inl rfl) hR e)
    exact tst_neg (one_of h35) (brk_ok E hL hg hget ht hsa hst hne hcm hec h64 h35 hn hq')
theorem body_ok (E : ParseEnv B d cl ser serU) (hL : css.length ≤ 100000) (hg : css[p]? = some c) (hget : H l = some (.list toks)) (ht : toks.length ≤ 400000) (hsa : H sa = some (.list stk)) (hst : stk.length ≤ 1000000) (hne : l ≠ sa) (hcm : startsAt css [47, 42] p = false)
    (hec : ec = .none ∨ ∃ x, ec = .str [x] ∧ (x = 125 ∨ x = 93 ∨ x = 41))
    (hnum : ∀ e pl, numFrom css p = some (e, pl) → p < e ∧ e ≤ css.length ∧ (pl = true → ((css.drop p).take (e - p)).length ≤ 640 ∧ PySem.intText? (sOf ((css.drop p).take (e - p))) = some (numVal ((css.drop p).take (e - p))))) (hur : ¬ (c = 85 ∨ c = 117) ∨ ¬ css[p + 1]? = some 43)
    (hq : StepP cl css a1 a7 ec sa l p L N toks stk H Q (stepAt ser serU css p c).2 (stepAt ser serU css p c).1) {a11 a12 a13 a14 a15 a16 a17 a18 a19 a20 a21 a22 a23 a24 a25 a26 a27 a28 : Option PV} :
    vcSs B T d r_parse_12 Q [some (.str css), a1, some (.int css.length), a3, some (.int p), some (.int L), some (.int N), a7, some (.ref l), some ec, some (.ref sa), a11, a12, a13, a14, a15, a16, a17, a18, a19, a20, a21, a22, a23, a24, a25, a26, a27, a28] H := by
  unfold stepAt at hq
  refine ⟨c, hg, ?_⟩
  cases hbl : isBl c with
  | true =>
    rw [if_pos hbl] at hq
    refine tst_pos (of_decide_eq_true hbl) (ws_loop ⟨⟨_, hget⟩, (E.ws _ _ _).run (app_mk hget (by lia) ⟨rfl, ?_⟩)⟩)
    have e1 : p + 1 + wsRun (css.drop (p + 1)) = p + (1 + wsRun (css.drop (p + 1))) := Nat.add_assoc ..
    refine hq .cont _ _ (.inr rfl) (by rw [e1]; exact .mk) ?_
    rw [e1, Nat.add_sub_cancel_left]; rfl
  | false =>
    rw [hbl, if_neg Bool.false_ne_true] at hq
    refine tst_neg (of_decide_eq_false hbl) ?_
    have go : vcSs B T d b_parse_14 (kseq (vcSs B T d []) (kseq (vcSs B T d r_parse_11) Q)) [some (.str css), a1, some (.int css.length), some (.int p), some (.int p), some (.int L), some (.int N), a7, some (.ref l), some ec, some (.ref sa), a11, some (.int (p - N)), some (.str [c]), a14, a15, a16, a17, a18, a19, a20, a21, a22, a23, a24, a25, a26, a27, a28] H := by
      cases hdd : startsAt css [45, 45, 62] p with
      | true =>
        rw [if_pos hdd] at hq
        exact tst_bt hdd ⟨⟨_, hget⟩, (E.lit _ _ _).run (app_mk hget (by lia) ⟨rfl, hq .cont _ _ (.inr rfl) .mk rfl⟩)⟩
      | false =>
        rw [hdd, if_neg Bool.false_ne_true] at hq
        refine tst_bf hdd ((E.ids css p hL (get_lt hg)).run ?_)
        cases hid : identStart (css.drop p) with
        | true =>
          rw [if_pos hid] at hq
          exact tst_t (ident_ok E hL (Nat.le_of_lt (get_lt hg)) hget ht hsa hst hne hq)
        | false =>
          rw [hid, if_neg Bool.false_ne_true] at hq
          exact tst_f (stepN_ok E hL hg hget ht hsa hst hne hcm hec hnum hq)
    by_cases hu : c ∈ [85, 117]
    · have h43 : ¬ css[p + 1]? = some 43 := hur.resolve_left fun n => n (by
        rcases List.mem_cons.mp hu with h | h
        · exact .inl h
        · exact .inr (List.mem_singleton.mp h))
      refine tst_pos hu ?_
      by_cases h2 : p + 2 < css.length
      · have hx : css[p + 1]? = some css[p + 1] := List.getElem?_eq_getElem (Nat.lt_of_succ_lt h2)
        exact tst_pos (Int.ofNat_lt.mpr h2) ⟨_, hx, tst_neg (fun h => h43 (by rw [hx, cons1 h])) (tst_dF go)⟩
      · exact tst_neg (fun h => h2 (Int.ofNat_lt.mp h)) (tst_dF go)
    · exact tst_neg hu (tst_dF go)
end
end Mine
end
section
set_option backward.match.sparseCases false
namespace Mine
open PySem PySem.W
structure Fr where
  ini : List PV
  cc : Addr
  gs : List PV
  ec : Option Nat
noncomputable def ecPV : Option Nat → PV
  | none => .none
  | some x => .str [x]
noncomputable def Fr.nd (f : Fr) (x : PV) : PV := .node f.cc (x :: f.gs)
noncomputable def closeAll : List Fr → List PV → List PV
  | [], cur => cur
  | f :: r, cur => closeAll r (f.ini ++ [f.nd (.lst cur)])
noncomputable def stkOf : List Fr → List Addr → List PV
  | f :: r, a :: ls => stkOf r ls ++ [.tup [.ref a, ecPV f.ec]]
  | _, _ => []
noncomputable def Own (root : Addr) (H : AH) : Addr → List Fr → List Addr → Prop
  | l, [], ls => l = root ∧ ls = []
  | l, f :: r, ls => ∃ l' ls', ls = l' :: ls' ∧ H l' = some (.list (f.ini ++ [f.nd (.ref l)])) ∧ Own root H l' r ls'
structure HSt (H0 : AH) (root sa : Addr) (fr : List Fr) (cur : List PV) (H : AH) (l : Addr) (ls : List Addr) : Prop where
  get : H l = some (.list cur)
  stk : H sa = some (.list (stkOf fr ls))
  own : Own root H l fr ls
  nl : l ∉ ls
  nd : ls.Nodup
  sl : sa ≠ l
  ss : sa ∉ ls
  out : ∀ a, a ≠ sa → a ≠ l → a ∉ ls → H a = H0 a
  f1 : H0 sa = none
  f2 : H0 l = none
  f3 : ∀ a ∈ ls, H0 a = none
theorem Own.upd {root : Addr} {H : AH} {b : Addr} {o : AO} : ∀ {fr : List Fr} {l : Addr} {ls : List Addr}, Own root H l fr ls → b ∉ ls → Own root (H.upd b o) l fr ls
  | [], _, _, h, _ => h
  | f :: r, l, ls, h, n => by
    obtain ⟨l', ls', rfl, h1, h2⟩ := h
    exact ⟨l', ls', rfl, (upd_ne fun e => n (by rw [← e]; exact .head _)).trans h1, Own.upd h2 fun e => n (.tail _ e)⟩
theorem Own.del {root : Addr} {H : AH} {b : Addr} : ∀ {fr : List Fr} {l : Addr} {ls : List Addr}, Own root H l fr ls → b ∉ ls → Own root (H.del b) l fr ls
  | [], _, _, h, _ => h
  | f :: r, l, ls, h, n => by
    obtain ⟨l', ls', rfl, h1, h2⟩ := h
    exact ⟨l', ls', rfl, (if_neg fun e => n (by rw [← e]; exact .head _)).trans h1, Own.del h2 fun e => n (.tail _ e)⟩
theorem shut_trans {H1 H2 H3 : AH} (a : Shut H1 H2) (b : Shut H2 H3) : Shut H1 H3 := by
  induction b with
  | refl => exact a
  | step _ h1 h2 h3 ih => exact .step ih h1 h2 h3
theorem del_ne {H : AH} {a b : Addr} (h : b ≠ a) : H.del a b = H b := if_neg h
section
variable {H0 H : AH} {root sa l : Addr} {fr : List Fr} {cur : List PV} {ls : List Addr}
theorem HSt.tok (S : HSt H0 root sa fr cur H l ls) (X : List PV) : HSt H0 root sa fr X (H.upd l (.list X)) l ls :=
  ⟨upd_self .., (upd_ne S.sl).trans S.stk, S.own.upd S.nl, S.nl, S.nd, S.sl, S.ss, fun a h1 h2 h3 => (upd_ne h2).trans (S.out a h1 h2 h3), S.f1, S.f2, S.f3⟩
theorem HSt.opn (S : HSt H0 root sa fr cur H l ls) {a : Addr} (ha : H a = none) (f : Fr) (hi : f.ini = cur) : HSt H0 root sa (f :: fr) [] (openH H l sa a cur (stkOf fr ls) (f.nd (.ref a)) (ecPV f.ec)) a (l :: ls) := by
  subst hi
  have hal : a ≠ l := by rintro rfl; rw [S.get] at ha; cases ha
  have has : a ≠ sa := by rintro rfl; rw [S.stk] at ha; cases ha
  have hls : a ∉ ls := fun hm => by
    have : ∀ {fr : List Fr} {l : Addr} {ls : List Addr}, Own root H l fr ls → ∀ b ∈ ls, H b ≠ none := by
      intro fr
      induction fr with
      | nil => intro l ls h b hb; rw [h.2] at hb; cases hb
      | cons f r ih =>
        intro l ls h b hb
        obtain ⟨l', ls', rfl, h1, h2⟩ := h
        rcases List.mem_cons.mp hb with rfl | hb
        · rw [h1]; exact fun h => nomatch h
        · exact ih h2 b hb
    exact this S.own a hm ha
  unfold openH
  refine ⟨(upd_ne has).trans ((upd_ne hal).trans (upd_self ..)), upd_self .., ⟨l, ls, rfl, (upd_ne (Ne.symm S.sl)).trans (upd_self ..), ((S.own.upd hls).upd S.nl).upd S.ss⟩, fun h => ?_, List.nodup_cons.mpr ⟨S.nl, S.nd⟩, Ne.symm has, fun h => ?_, fun b h1 h2 h3 => ?_, S.f1, ?_, fun b hb => ?_⟩
  · rcases List.mem_cons.mp h with h | h
    · exact hal h
    · exact hls h
  · rcases List.mem_cons.mp h with h | h
    · exact S.sl h
    · exact S.ss h
  · have h4 : b ≠ l := fun e => h3 (e ▸ .head _)
    exact (upd_ne h1).trans ((upd_ne h4).trans ((upd_ne h2).trans (S.out b h1 h4 fun h => h3 (.tail _ h))))
  · exact (S.out a has hal hls).symm.trans ha
  · rcases List.mem_cons.mp hb with rfl | hb
    · exact S.f2
    · exact S.f3 b hb
theorem HSt.clo {f : Fr} {l' : Addr} (S : HSt H0 root sa (f :: fr) cur H l (l' :: ls)) : HSt H0 root sa fr (f.ini ++ [f.nd (.lst cur)]) (shutH H l l' sa (stkOf fr ls) f.ini [] f.gs cur f.cc) l' ls := by
  obtain ⟨l2, ls2, e, h1, h2⟩ := S.own
  obtain ⟨rfl, rfl⟩ := List.cons.inj e
  have n1 : l ≠ l' := fun e => S.nl (e ▸ .head _)
  have n2 : l ∉ ls := fun h => S.nl (.tail _ h)
  have n3 : l' ∉ ls := (List.nodup_cons.mp S.nd).1
  have n4 : sa ≠ l' := fun e => S.ss (e ▸ .head _)
  have n5 : sa ∉ ls := fun h => S.ss (.tail _ h)
  unfold shutH
  refine ⟨upd_self .., (upd_ne n4).trans ((del_ne S.sl).trans (upd_self ..)), ((h2.upd n5).del n2).upd n3, n3, (List.nodup_cons.mp S.nd).2, n4, n5, fun b q1 q2 q3 => ?_, S.f1, S.f3 _ (.head _), fun b hb => S.f3 b (.tail _ hb)⟩
  refine (upd_ne q2).trans ?_
  by_cases hb : b = l
  · subst hb; exact (if_pos rfl).trans S.f2.symm
  · exact (del_ne hb).trans ((upd_ne q1).trans (S.out b q1 hb fun h => (List.mem_cons.mp h).elim q2 q3))
theorem shut_all : ∀ {fr : List Fr} {cur : List PV} {H : AH} {l : Addr} {ls : List Addr}, H l = some (.list cur) → Own root H l fr ls → l ∉ ls → ls.Nodup → sa ≠ l → sa ∉ ls → (∀ a, a ≠ sa → a ≠ l → a ∉ ls → H a = H0 a) → H0 l = none → (∀ a ∈ ls, H0 a = none) →
    ∃ H', Shut H H' ∧ H' root = some (.list (closeAll fr cur)) ∧ ∀ a, a ≠ sa → a ≠ root → H' a = H0 a
  | [], cur, H, l, ls, get, own, nl, nd, sl, ss, out, f2, f3 => by
    obtain ⟨rfl, rfl⟩ := own
    exact ⟨H, .refl H, get, fun a h1 h2 => out a h1 h2 fun h => nomatch h⟩
  | f :: r, cur, H, l, ls, get, own, nl, nd, sl, ss, out, f2, f3 => by
    obtain ⟨l', ls', rfl, h1, h2⟩ := own
    have n1 : l ≠ l' := fun e => nl (e ▸ .head _)
    have n2 : l ∉ ls' := fun h => nl (.tail _ h)
    have n3 : l' ∉ ls' := (List.nodup_cons.mp nd).1
    obtain ⟨H', g1, g2, g3⟩ := shut_all (fr := r) (cur := f.ini ++ [f.nd (.lst cur)]) (H := (H.del l).upd l' (.list (f.ini ++ [f.nd (.lst cur)]))) (l := l') (ls := ls') (upd_self ..) ((h2.del n2).upd n3) n3 (List.nodup_cons.mp nd).2
      (fun e => ss (e ▸ .head _)) (fun h => ss (.tail _ h)) (fun b q1 q2 q3 => (upd_ne q2).trans (by
        by_cases hb : b = l
        · subst hb; exact (if_pos rfl).trans f2.symm
        · exact (del_ne hb).trans (out b q1 hb fun h => (List.mem_cons.mp h).elim q2 q3))) (f3 _ (.head _)) (fun b hb => f3 b (.tail _ hb))
    refine ⟨H', ?_, g2, g3⟩
    have st : Shut H ((H.del l).upd l' (.list (f.ini ++ [f.nd (.lst cur)]))) := .step (fs := []) (.refl H) get h1 n1
    exact shut_trans st g1
end
end Mine
end
section
set_option backward.match.sparseCases false
namespace Mine
open PySem PySem.W
variable {B : Base} {T : Tab} {d : Nat}
section
variable {cl : Cls} {ser serU : List Nat → List Nat} {css : List Nat}
theorem identStart_pos {s : List Nat} (h : identStart s = true) : 0 < (identSpec s).2 ∧ s ≠ [] := by
  cases s with
  | nil => cases h
  | cons c r =>
    refine ⟨?_, by simp⟩
    rw [identSpec_cons]
    simp only [identStart] at h
    split
    · simp
    · rename_i hnc
      have hns : isNS c = false := by
        unfold isNC isNC0 at hnc
        unfold isNS
        cases h0 : isNS0 c <;> simp [h0] at hnc ⊢
        exact hnc.2
      rw [hns] at h
      simp only [Bool.false_eq_true, if_false] at h
      by_cases h45 : c = 45
      · subst h45
        exfalso; apply hnc; rfl
      · rw [if_neg h45] at h
        by_cases h92 : c = 92
        · rw [if_pos h92] at h
          rw [if_pos ⟨h92, by simpa using h⟩]
          simp
        · rw [if_neg h92] at h; cases h
theorem sw_len {s t : List Nat} {i : Nat} (h : startsAt s t i = true) : i + t.length ≤ s.length := by
  unfold startsAt at h
  simp only [Bool.and_eq_true, decide_eq_true_eq] at h
  exact h.2
theorem strToks_len {ser : List Nat → List Nat} (t : Option (List Nat) × Nat × Nat) : (strToks ser t).length ≤ 2 := by
  obtain ⟨v, n, e⟩ := t
  cases v <;> cases e <;> first | exact Nat.zero_le _ | exact Nat.le_succ 1 | exact Nat.le_refl 2
theorem urlToks_len {ser : List Nat → List Nat} (t : Option (List Nat) × Nat × Nat) : (urlToks ser t).length ≤ 2 := by
  obtain ⟨v, n, e⟩ := t
  cases v <;> cases e <;> first | exact Nat.zero_le _ | exact Nat.le_succ 1 | exact Nat.le_refl 2
theorem idle {s : List Nat} {e : Nat} (h : e ≤ s.length) : e + (identSpec (s.drop e)).2 ≤ s.length := by
  have := (identSpec_len _ (s.drop e) (Nat.le_refl _)).2
  rw [List.length_drop] at this
  exact add_sub_le this h
theorem remGo_le : ∀ (s : List Nat) (b : Bool), remGo s b ≤ s.length
  | [], _ => Nat.le_refl _
  | c :: r, b => by
    have h1 := remGo_le r false
    have h2 := remGo_le r true
    rw [remGo]
    split
    · exact Nat.succ_le_succ h1
    split
    · exact Nat.succ_le_succ h2
    split
    · exact Nat.succ_le_succ (Nat.zero_le _)
    · exact Nat.succ_le_succ h1
theorem ws_le {s : List Nat} {p : Nat} (h : p ≤ s.length) : p + wsRun (s.drop p) ≤ s.length := by
  have := wsRun_le (s.drop p)
  rw [List.length_drop] at this
  exact add_sub_le this h
theorem badAt_le {s : List Nat} {p : Nat} (h : p ≤ s.length) : p ≤ (badAt s p).2.1 ∧ (badAt s p).2.1 ≤ s.length := by
  have := remGo_le (s.drop p) false
  rw [List.length_drop] at this
  exact ⟨Nat.le_add_right _ _, add_sub_le this h⟩
theorem urlSpec_le {s : List Nat} {p : Nat} (h : p ≤ s.length) : p ≤ (urlSpec s p).2.1 ∧ (urlSpec s p).2.1 ≤ s.length := by
  have hk := ws_le h
  have hp : p ≤ p + wsRun (s.drop p) := Nat.le_add_right _ _
  unfold urlSpec
  generalize p + wsRun (s.drop p) = k at *
  cases hg : s[k]? with
  | none => exact ⟨hp, hk⟩
  | some c =>
    dsimp only
    split
    · exact ⟨Nat.le_succ_of_le hp, get_lt hg⟩
    have hu := (urlGo_len (s.drop k) 0 (Nat.zero_le _)).2
    rw [List.length_drop] at hu
    unfold urlFin
    generalize urlGo (s.drop k) 0 = g at *
    have h1 : k + g.2.1 ≤ s.length := add_sub_le hu hk
    have h2 : p ≤ k + g.2.1 := Nat.le_trans hp (Nat.le_add_right _ _)
    split
    · exact ⟨h2, h1⟩
    split
    · exact ⟨h2, h1⟩
    split
    · have h3 := ws_le h1
      have h4 : p ≤ k + g.2.1 + wsRun (s.drop (k + g.2.1)) := Nat.le_trans h2 (Nat.le_add_right _ _)
      unfold urlEnd
      generalize k + g.2.1 + wsRun (s.drop (k + g.2.1)) = m at *
      cases hm : s[m]? with
      | none => exact ⟨h4, h3⟩
      | some x =>
        dsimp only
        split
        · exact ⟨Nat.le_succ_of_le h4, get_lt hm⟩
        · have := badAt_le h3
          exact ⟨Nat.le_trans h4 this.1, this.2⟩
    · have := badAt_le h1
      exact ⟨Nat.le_trans h2 this.1, this.2⟩
noncomputable def Fwd (css : List Nat) (p : Nat) (r : Stp × Nat) : Prop := p < r.2 ∧ r.2 ≤ css.length ∧ ∀ ts, r.1 = .tk ts → ts.length ≤ 2
theorem fwd_tk {p : Nat} {r : List TK × Nat} (h1 : p < r.2) (h2 : r.2 ≤ css.length) (h3 : r.1.length ≤ 2) : Fwd css p (tkOf r) := ⟨h1, h2, fun ts e => by cases e; exact h3⟩
theorem stepId_fwd {p e : Nat} {v : List Nat} (h : p < e) (he : e ≤ css.length) : Fwd css p (stepId serU css v e) := by
  unfold stepId
  split
  · rename_i h40
    have h1 := get_lt h40
    split
    · have := urlSpec_le (s := css) (p := e + 1) h1
      exact ⟨Nat.lt_of_lt_of_le (Nat.lt_succ_of_lt h) this.1, this.2, fun ts e => by cases e; exact urlToks_len _⟩
    · exact ⟨Nat.lt_succ_of_lt h, h1, fun ts e => nomatch e⟩
  · exact ⟨h, he, fun ts e => by cases e; exact Nat.le_succ 1⟩
theorem symStep_fwd {p c : Nat} (hg : css[p]? = some c) : Fwd css p (tkOf (symStep css p c)) := by
  have hp := get_lt hg
  unfold symStep
  split
  · rename_i h; exact fwd_tk (Nat.lt_add_of_pos_right (Nat.succ_pos 3)) (sw_len h) (Nat.le_succ 1)
  split
  · rename_i h; exact fwd_tk (Nat.lt_add_of_pos_right (Nat.succ_pos 1)) (sw_len h) (Nat.le_succ 1)
  split
  · rename_i h; exact fwd_tk (Nat.lt_add_of_pos_right (Nat.succ_pos 1)) (get_lt h.2) (Nat.le_succ 1)
  · exact fwd_tk (Nat.lt_succ_self p) hp (Nat.le_succ 1)
theorem stepN_fwd {p c : Nat} (hg : css[p]? = some c) (hnum : ∀ e pl, numFrom css p = some (e, pl) → p < e ∧ e ≤ css.length) : Fwd css p (stepN ser css p c) := by
  have hp := get_lt hg
  unfold stepN
  cases hn : numFrom css p with
  | some ep =>
    obtain ⟨e, pl⟩ := ep
    obtain ⟨he1, he2⟩ := hnum e pl hn
    dsimp only
    split
    · exact fwd_tk (Nat.lt_of_lt_of_le he1 (Nat.le_add_right _ _)) (idle he2) (Nat.le_succ 1)
    split
    · rename_i h; exact fwd_tk (Nat.lt_succ_of_lt he1) (get_lt h) (Nat.le_succ 1)
    · exact fwd_tk he1 he2 (Nat.le_succ 1)
  | none =>
    dsimp only
    have i1 : p < p + 1 + (identSpec (css.drop (p + 1))).2 := lt1_of
    split
    · split
      · exact fwd_tk i1 (idle hp) (Nat.le_succ 1)
      · exact fwd_tk (Nat.lt_succ_self p) hp (Nat.le_succ 1)
    split
    · split
      · exact fwd_tk i1 (idle hp) (Nat.le_succ 1)
      · exact fwd_tk (Nat.lt_succ_self p) hp (Nat.le_succ 1)
    split
    · exact ⟨Nat.lt_succ_self p, hp, fun ts e => nomatch e⟩
    split
    · exact ⟨Nat.lt_succ_self p, hp, fun ts e => nomatch e⟩
    split
    · have := (quotedSpec_len c _ (css.drop (p + 1)) (Nat.le_refl _)).2
      rw [List.length_drop] at this
      exact fwd_tk lt1_of (add_sub_le this hp) (strToks_len _)
    · exact symStep_fwd hg
theorem stepAt_fwd {p c : Nat} (hg : css[p]? = some c) (hnum : ∀ e pl, numFrom css p = some (e, pl) → p < e ∧ e ≤ css.length) : Fwd css p (stepAt ser serU css p c) := by
  have hp := get_lt hg
  unfold stepAt
  split
  · have := wsRun_le (css.drop (p + 1)); rw [List.length_drop] at this
    exact ⟨Nat.lt_add_of_pos_right (Nat.lt_of_lt_of_le (Nat.succ_pos 0) (Nat.le_add_right _ _)), by rw [← Nat.add_assoc]; exact add_sub_le this hp, fun ts e => by cases e; exact Nat.le_succ 1⟩
  split
  · rename_i h; exact ⟨Nat.lt_add_of_pos_right (Nat.succ_pos 2), sw_len h, fun ts e => by cases e; exact Nat.le_succ 1⟩
  split
  · rename_i h; exact stepId_fwd (Nat.lt_add_of_pos_right (identStart_pos h).1) (idle (Nat.le_of_lt hp))
  · exact stepN_fwd hg hnum
end
end Mine
end
section
set_option backward.match.sparseCases false
namespace Mine
open PySem PySem.W
variable {B : Base} {T : Tab} {d : Nat}
structure Bs where
  fr : List Fr
  cur : List PV
  ec : Option Nat
noncomputable def popB (b : Bs) : Bs := match b.fr with
  | [] => b
  | f :: r => ⟨r, f.ini ++ [f.nd (.lst b.cur)], f.ec⟩
noncomputable def fnFr (cl : Cls) (pl : Nat × Nat) (b : Bs) (v : List Nat) : Fr := ⟨b.cur, cl.fn, [.str (v.map lowC), .str v, .int pl.2, .int pl.1], b.ec⟩
noncomputable def blkFr (cl : Cls) (pl : Nat × Nat) (b : Bs) (c : Nat) : Fr := ⟨b.cur, blkC cl c, [.int pl.2, .int pl.1], b.ec⟩
noncomputable def addB (cl : Cls) (pl : Nat × Nat) (b : Bs) (ts : List TK) : Bs := ⟨b.fr, b.cur ++ ts.map (tkPV cl (.int pl.1) (.int pl.2)), b.ec⟩
noncomputable def stepB (cl : Cls) (pl : Nat × Nat) (b : Bs) : Stp → Bs
  | .tk ts => addB cl pl b ts
  | .fn v => ⟨fnFr cl pl b v :: b.fr, [], some 41⟩
  | .blk c => ⟨blkFr cl pl b c :: b.fr, [], some (closer c)⟩
  | .clo c => if b.ec = some c then popB b else addB cl pl b [.unm c]
theorem stepB_clo {cl : Cls} {pl : Nat × Nat} {b : Bs} {c : Nat} : stepB cl pl b (.clo c) = if b.ec = some c then popB b else addB cl pl b [.unm c] := rfl
noncomputable def parseB (cl : Cls) (ser serU : List Nat → List Nat) (css : List Nat) : Nat → Nat → Bs → List PV
  | 0, _, b => closeAll b.fr b.cur
  | n + 1, p, b => match css[p]? with
    | none => closeAll b.fr b.cur
    | some c => parseB cl ser serU css n (stepAt ser serU css p c).2 (stepB cl (placeAt css p) b (stepAt ser serU css p c).1)
noncomputable def okF : List Fr → Option Nat → Prop
  | [], e => e = none
  | f :: r, e => (∃ x, e = some x ∧ (x = 125 ∨ x = 93 ∨ x = 41)) ∧ okF r f.ec
noncomputable def lenF (n : Nat) (b : Bs) : Prop := b.cur.length ≤ 2 * n ∧ (∀ f ∈ b.fr, f.ini.length ≤ 2 * n) ∧ b.fr.length ≤ n
theorem closer_is (c : Nat) : closer c = 125 ∨ closer c = 93 ∨ closer c = 41 := by
  unfold closer; split
  · exact .inr (.inr rfl)
  split
  · exact .inr (.inl rfl)
  · exact .inl rfl
theorem step_ok {cl : Cls} {pl : Nat × Nat} {b : Bs} {p q : Nat} (h : okF b.fr b.ec) (k : lenF p b) (hq : p < q) : ∀ {st : Stp}, (∀ ts, st = .tk ts → ts.length ≤ 2) → okF (stepB cl pl b st).fr (stepB cl pl b st).ec ∧ lenF q (stepB cl pl b st)
  | .tk ts, ht => ⟨h, by show (b.cur ++ _).length ≤ _; rw [List.length_append, List.length_map]; exact dbl2 k.1 (ht ts rfl) hq, fun f hf => Nat.le_trans (k.2.1 f hf) (dbl hq), Nat.le_trans k.2.2 (Nat.le_of_lt hq)⟩
  | .fn v, xx => ⟨⟨⟨41, rfl, .inr (.inr rfl)⟩, h⟩, Nat.zero_le _, fun f hf => by
      rcases List.mem_cons.mp hf with rfl | hf
      · exact Nat.le_trans k.1 (dbl hq)
      · exact Nat.le_trans (k.2.1 f hf) (dbl hq), Nat.le_trans (Nat.succ_le_succ k.2.2) hq⟩
  | .blk c, xx => ⟨⟨⟨_, rfl, closer_is c⟩, h⟩, Nat.zero_le _, fun f hf => by
      rcases List.mem_cons.mp hf with rfl | hf
      · exact Nat.le_trans k.1 (dbl hq)
      · exact Nat.le_trans (k.2.1 f hf) (dbl hq), Nat.le_trans (Nat.succ_le_succ k.2.2) hq⟩
  | .clo c, xx => by
    have e : stepB cl pl b (.clo c) = if b.ec = some c then popB b else addB cl pl b [.unm c] := rfl
    rw [e]
    by_cases hc : b.ec = some c
    · rw [if_pos hc]
      clear e hc
      obtain ⟨fr, cur, ec⟩ := b
      cases fr with
      | nil => exact ⟨h, Nat.le_trans k.1 (dbl hq), (fun f hf => nomatch hf), Nat.zero_le _⟩
      | cons f r =>
        refine ⟨h.2, ?_, fun g hg => Nat.le_trans (k.2.1 g (.tail _ hg)) (dbl hq), Nat.le_trans (Nat.le_of_succ_le k.2.2) (Nat.le_of_lt hq)⟩
        show (f.ini ++ _).length ≤ _
        rw [List.length_append]
        exact dbl2 (k.2.1 f (.head _)) (Nat.le_succ 1) hq
    · rw [if_neg hc]
      refine ⟨h, ?_, fun f hf => Nat.le_trans (k.2.1 f hf) (dbl hq), Nat.le_trans k.2.2 (Nat.le_of_lt hq)⟩
      show (b.cur ++ _).length ≤ _
      rw [List.length_append]
      exact dbl2 k.1 (Nat.le_succ 1) hq
theorem stkOf_len : ∀ (fr : List Fr) (ls : List Addr), (stkOf fr ls).length ≤ fr.length
  | [], _ => Nat.zero_le _
  | f :: r, [] => Nat.zero_le _
  | f :: r, a :: ls => by
    rw [stkOf, List.length_append]; exact Nat.succ_le_succ (stkOf_len r ls)
inductive PaI (cl : Cls) (ser serU : List Nat → List Nat) (css : List Nat) (a1 : Option PV) (H0 : AH) (root sa : Addr) (R : List PV) : Nat → Loc → AH → Prop where
  | mk {ρ : Loc} {H' : AH} (p tsp fuel : Nat) (b : Bs) (l : Addr) (ls : List Addr) (h0 : Rho css a1 (some (.ref root)) (some (ecPV b.ec)) (some (.ref sa)) l tsp p (placeAt css tsp).1 ((tsp : Int) - (placeAt css tsp).2) ρ)
    (S : HSt H0 root sa b.fr b.cur H' l ls) (ok : okF b.fr b.ec) (len : lenF p b) (h1 : tsp ≤ p) (h2 : p ≤ css.length) (h3 : parseB cl ser serU css fuel p b = R) (h5 : css.length - p ≤ fuel) : PaI cl ser serU css a1 H0 root sa R (css.length - p) ρ H'
section
variable {cl : Cls} {ser serU : List Nat → List Nat} {css : List Nat} {a1 : Option PV} {H0 H : AH} {root sa l : Addr} {ls : List Addr} {b : Bs} {p : Nat}
theorem ecPV_str {e : Option Nat} {c : Nat} : ecPV e = .str [c] ↔ e = some c := by
  cases e with
  | none => exact ⟨fun h => (nomatch h), fun h => (nomatch h)⟩
  | some x => exact ⟨fun h => by cases h; rfl, fun h => by cases h; rfl⟩
theorem stepP_mk {Q : KS} {q : Nat} {st : Stp} (S : HSt H0 root sa b.fr b.cur H l ls) (ok : okF b.fr b.ec)
    (go : ∀ f l' ls' ρ' H', f = .next ∨ f = .cont → Rho css a1 (some (.ref root)) (some (ecPV (stepB cl (placeAt css p) b st).ec)) (some (.ref sa)) l' p q (placeAt css p).1 ((p : Int) - (placeAt css p).2) ρ' →
      HSt H0 root sa (stepB cl (placeAt css p) b st).fr (stepB cl (placeAt css p) b st).cur H' l' ls' → Q f ρ' H') :
    StepP cl css a1 (some (.ref root)) (ecPV b.ec) sa l p (placeAt css p).1 ((p : Int) - (placeAt css p).2) b.cur (stkOf b.fr ls) H Q q st := by
  have e1 : (p : Int) - ((p : Int) - (placeAt css p).2) = (placeAt css p).2 := Int.sub_sub_self ..
  cases st with
  | tk ts =>
    intro f ρ' H' hf hR e
    rw [e1] at e
    exact go f l ls ρ' H' hf hR (e ▸ S.tok _)
  | fn v =>
    intro a f ρ' hf ha hR
    refine go f a (l :: ls) ρ' _ hf hR ?_
    have := S.opn ha (fnFr cl (placeAt css p) b v) rfl
    unfold fnNode
    rw [e1]
    exact this
  | blk c =>
    intro a f ρ' hf ha hR
    refine go f a (l :: ls) ρ' _ hf hR ?_
    have := S.opn ha (blkFr cl (placeAt css p) b c) rfl
    unfold blkNode
    rw [e1]
    exact this
  | clo c =>
    refine ⟨fun he => ?_, fun he f ρ' H' hf hR e => ?_⟩
    · have hc := ecPV_str.mp he
      rw [stepB_clo, if_pos hc] at go
      obtain ⟨fr, cur, ec⟩ := b
      cases fr with
      | nil => exact nomatch (show none = some c from ok.symm.trans hc)
      | cons f r =>
        obtain ⟨l', ls', rfl, h1, h2⟩ := S.own
        exact ⟨l', f.cc, stkOf r ls', f.ini, [], f.gs, ecPV f.ec, rfl, h1, fun e => S.ss (e ▸ .head _), fun e => S.nl (e ▸ .head _), fun g ρ' hf hR => go g l' ls' ρ' _ hf hR S.clo⟩
    · have hc : ¬ b.ec = some c := fun h => he (ecPV_str.mpr h)
      rw [stepB_clo, if_neg hc] at go
      rw [e1] at e
      exact go f l ls ρ' H' hf hR (e ▸ S.tok _)
end
end Mine
end
section
set_option backward.match.sparseCases false
namespace Mine
open PySem PySem.W
variable {B : Base} {T : Tab} {d : Nat}
section
variable {cl : Cls} {ser serU : List Nat → List Nat} {css : List Nat} {H0 H1 : AH} {root sa : Addr}
theorem b1_ok {p tsp i : Nat} {L : Int} {a1 a6 a7 a8 a9 a10 : Option PV} {Q : KS} {H : AH} {a12 a13 a14 a15 a16 a17 a18 a19 a20 a21 a22 a23 a24 a25 a26 a27 a28 : Option PV} (hq : Q .next [some (.str css), a1, some (.int css.length), some (.int tsp), some (.int p), some (.int (L + (1 + countL 10 css tsp i))), some (.int i), a7, a8, a9, a10, some (.int i), a12, a13, a14, a15, a16, a17, a18, a19, a20, a21, a22, a23, a24, a25, a26, a27, a28] H) :
    vcSs B T d b_parse_1 Q [some (.str css), a1, some (.int css.length), some (.int tsp), some (.int p), some (.int L), a6, a7, a8, a9, a10, some (.int i), a12, a13, a14, a15, a16, a17, a18, a19, a20, a21, a22, a23, a24, a25, a26, a27, a28] H := hq
theorem okF_ec {fr : List Fr} {e : Option Nat} (h : okF fr e) : ecPV e = .none ∨ ∃ x, ecPV e = .str [x] ∧ (x = 125 ∨ x = 93 ∨ x = 41) := by
  cases fr with
  | nil => exact .inl (by rw [show e = none from h]; rfl)
  | cons f r => obtain ⟨⟨x, rfl, hx⟩, _⟩ := h; exact .inr ⟨x, rfl, hx⟩
theorem loop_ok (E : ParseEnv B d cl ser serU) (hL : css.length ≤ 100000) (hcm : ∀ p, startsAt css [47, 42] p = false) (hpl : ∀ p : Nat, ¬ css[p]? = some 43) (S0 : HSt H0 root sa [] [] H1 root [])
    (hnum : ∀ p e pl, numFrom css p = some (e, pl) → p < e ∧ e ≤ css.length ∧ (pl = true → ((css.drop p).take (e - p)).length ≤ 640 ∧ PySem.intText? (sOf ((css.drop p).take (e - p))) = some (numVal ((css.drop p).take (e - p)))))
    {a1 : Option PV} {Q : KS}
    (hq : ∀ ρ tsp p L N a9 l H' (b : Bs) ls, Rho css a1 (some (.ref root)) a9 (some (.ref sa)) l tsp p L N ρ → HSt H0 root sa b.fr b.cur H' l ls → closeAll b.fr b.cur = parseB cl ser serU css css.length 0 ⟨[], [], none⟩ → Q .next ρ H')
    {a11 a12 a13 a14 a15 a16 a17 a18 a19 a20 a21 a22 a23 a24 a25 a26 a27 a28 : Option PV} :
    vcS B T d w_parse_3 Q [some (.str css), a1, some (.int css.length), some (.int 0), some (.int 0), some (.int 1), some (.int (-1)), some (.ref root), some (.ref root), some .none, some (.ref sa), a11, a12, a13, a14, a15, a16, a17, a18, a19, a20, a21, a22, a23, a24, a25, a26, a27, a28] H1 := by
  generalize hR : parseB cl ser serU css css.length 0 ⟨[], [], none⟩ = R at hq
  refine wh_mk (PaI cl ser serU css a1 H0 root sa R) css.length (.mk 0 0 css.length ⟨[], [], none⟩ root [] .mk S0 rfl ⟨Nat.le_refl _, fun f hf => (nomatch hf), Nat.le_refl _⟩ (Nat.le_refl _) (Nat.zero_le _) hR (Nat.le_refl _)) ?_
  rintro _ _ H' ⟨p, tsp, fuel, b, l, ls, @⟨b11, b12, b13, b14, b15, b16, b17, b18, b19, b20, b21, b22, b23, b24, b25, b26, b27, b28⟩, S, ok, len, h1, h2, h3, h5⟩
  cases hg : css[p]? with
  | some c =>
    have hp := get_lt hg
    have hfw : Fwd css p (stepAt ser serU css p c) := stepAt_fwd hg (fun e pl h => ⟨(hnum p e pl h).1, (hnum p e pl h).2.1⟩)
    obtain ⟨f, rfl⟩ := succ_of h5 hp
    rw [parseB, hg] at h3
    dsimp only at h3
    have tr := place_track css (p - tsp) tsp
    rw [Nat.add_sub_cancel' h1] at tr
    refine tst_pos (Int.ofNat_lt.mpr hp) ?_
    have body : ∀ {L N : Int} {a3 c11 : Option PV}, L = (placeAt css p).1 → N = (p : Int) - (placeAt css p).2 →
        vcSs B T d r_parse_12 (kwhb (PaI cl ser serU css a1 H0 root sa R) (css.length - p) Q) [some (.str css), a1, some (.int css.length), a3, some (.int p), some (.int L), some (.int N), some (.ref root), some (.ref l), some (ecPV b.ec), some (.ref sa), c11, b12, b13, b14, b15, b16, b17, b18, b19, b20, b21, b22, b23, b24, b25, b26, b27, b28] H' := by
      rintro L N a3 c11 rfl rfl
      refine body_ok E hL hg S.get (Nat.le_trans len.1 (Nat.le_trans (Nat.mul_le_mul_left 2 (Nat.le_trans h2 hL)) (by decide))) S.stk (Nat.le_trans (stkOf_len b.fr ls) (Nat.le_trans len.2.2 (Nat.le_trans (Nat.le_trans h2 hL) (by decide)))) (Ne.symm S.sl) (hcm p) (okF_ec ok) (hnum p) (.inr (hpl _)) ?_
      refine stepP_mk S ok fun f' l' ls' ρ' H'' hf hR' S' => ?_
      obtain ⟨o1, o2⟩ := step_ok (cl := cl) (pl := placeAt css p) ok len hfw.1 hfw.2.2
      have go : ∃ m, m < css.length - p ∧ PaI cl ser serU css a1 H0 root sa R m ρ' H'' :=
        ⟨css.length - (stepAt ser serU css p c).2, Nat.sub_lt_sub_left hp hfw.1, .mk _ p f _ l' ls' hR' S' o1 o2 (Nat.le_of_lt hfw.1) hfw.2.1 h3 (dec_of h5 hfw.1)⟩
      rcases hf with rfl | rfl <;> exact go
    cases hr : lastR (isAt css 10) tsp (p - tsp) with
    | none =>
      have hr2 : rfindL 10 css tsp p = none := by rw [rfindL_is h1 h2, hr]
      rw [hr] at tr
      dsimp only at tr
      refine tst_neg (fun h => h (by rw [hr2])) (seq_nil (vr := vcSs B T d r_parse_12) (body ?_ ?_))
      · rw [tr]
      · rw [tr]; dsimp only; lia
    | some i =>
      have hr2 : rfindL 10 css tsp p = some i := by rw [rfindL_is h1 h2, hr]
      rw [hr] at tr
      obtain ⟨t1, t2, t3⟩ := tr
      refine tst_pos (by rw [hr2]; exact fun h => nomatch h) ?_
      rw [hr2]
      refine b1_ok (seq_next (vr := vcSs B T d r_parse_12) (body ?_ ?_))
      · rw [t3]; dsimp only; rw [countL_is t1 (by lia)]; lia
      · rw [t3]; dsimp only; lia
  | none =>
    refine tst_neg (lt_no hg) ?_
    have h3' : closeAll b.fr b.cur = R := by
      cases fuel with
      | zero => exact h3
      | succ f => rw [parseB, hg] at h3; exact h3
    exact hq _ _ _ _ _ _ _ _ b ls .mk S h3'
end
noncomputable def m0 (t : List Nat) : List Nat := replL [0] 65533 t
noncomputable def m1 (t : List Nat) : List Nat := replL [13, 10] 10 (m0 t)
noncomputable def m2 (t : List Nat) : List Nat := replL [13] 10 (m1 t)
noncomputable def mendR (t : List Nat) : List Nat := replL [12] 10 (m2 t)
structure Mends (t : List Nat) : Prop where
  k0 : 2 * t.length + 1 ≤ 16777216 ∧ sok (m0 t)
  k1 : 2 * (m0 t).length + 1 ≤ 16777216 ∧ sok (m1 t)
  k2 : 2 * (m1 t).length + 1 ≤ 16777216 ∧ sok (m2 t)
  k3 : 2 * (m2 t).length + 1 ≤ 16777216 ∧ sok (mendR t)
  len : (mendR t).length ≤ 100000
  com : ∀ p, startsAt (mendR t) [47, 42] p = false
  plus : ∀ p : Nat, ¬ (mendR t)[p]? = some 43
  num : ∀ p e pl, numFrom (mendR t) p = some (e, pl) → p < e ∧ e ≤ (mendR t).length ∧ (pl = true → (((mendR t).drop p).take (e - p)).length ≤ 640 ∧ PySem.intText? (sOf (((mendR t).drop p).take (e - p))) = some (numVal (((mendR t).drop p).take (e - p))))
theorem parse_ok (G : GoodB B) (GT : GoodT B T) {cl : Cls} {ser serU : List Nat → List Nat} (F : FnAt B "parse_component_value_list" p_parse 1 [.bool false] v_parse m_parse) (E : ParseEnv B d cl ser serU) {t : List Nat} (M : Mends t) :
    Con B (d + 1) "parse_component_value_list" [.str t] (.lst (parseB cl ser serU (mendR t) (mendR t).length 0 ⟨[], [], none⟩)) := by
  obtain ⟨k0, k1, k2, k3, hL, hcm, hpl, hnum⟩ := M
  refine conDefS G GT F rfl fun H => ⟨⟨by decide, by decide, k0.1, k0.2⟩, ⟨by decide, by decide, k1.1, k1.2⟩, ⟨by decide, by decide, k2.1, k2.2⟩, ⟨by decide, by decide, k3.1, k3.2⟩, fun l hl st hst => ?_⟩
  have hne : st ≠ l := by rintro rfl; rw [upd_self] at hst; cases hst
  have hst0 : H st = none := by rw [← hst]; exact (upd_ne hne).symm
  refine loop_ok (css := mendR t) (H0 := H) (root := l) (sa := st) E hL hcm hpl ⟨(upd_ne (Ne.symm hne)).trans (upd_self ..), upd_self .., ⟨rfl, rfl⟩, fun h => (nomatch h), List.nodup_nil, hne, fun h => (nomatch h), fun a q1 q2 q3 => (upd_ne q1).trans (upd_ne q2), hst0, hl, fun a h => nomatch h⟩ hnum ?_
  rintro ρ tsp p L N a9 lc H' b ls @⟨b11, b12, b13, b14, b15, b16, b17, b18, b19, b20, b21, b22, b23, b24, b25, b26, b27, b28⟩ S e
  obtain ⟨H'', g1, g2, g3⟩ := shut_all S.get S.own S.nl S.nd S.sl S.ss S.out S.f2 S.f3
  refine ⟨H'', _, g1, g2, congrArg PV.lst e, fun a x ha => ?_⟩
  have n1 : a ≠ l := by rintro rfl; rw [hl] at ha; cases ha
  have n2 : a ≠ st := by rintro rfl; rw [hst0] at ha; cases ha
  exact (del_ne n1).trans ((g3 a n2 n1).trans ha)
end Mine
end
section
set_option backward.match.sparseCases false
namespace Mine
open PySem PySem.W
variable {B : Base} {T : Tab} {d : Nat}
theorem chPV_drop (l : List (List Nat)) (n : Nat) : (chPV l).drop n = chPV (l.drop n) := by simp [chPV, List.map_drop]
theorem chPV_take (l : List (List Nat)) (n : Nat) : (chPV l).take n = chPV (l.take n) := by simp [chPV, List.map_take]
theorem chPV_get {l : List (List Nat)} {n : Nat} {x : List Nat} (h : l[n]? = some x) : (chPV l)[n]? = some (.str x) := by simp [chPV, h]
theorem toPDs_ch : ∀ l : List (List Nat), toPDs (chPV l) = some (l.map fun s => PyData.str (sOf s))
  | [] => rfl
  | x :: r => by
    have ih := toPDs_ch r
    show ((toPDs (chPV r)).bind fun y => some (PyData.str (sOf x) :: y)) = _
    rw [ih]; rfl
theorem depth_ch : ∀ l : List (List Nat), PyData.depthAll (l.map fun s => PyData.str (sOf s)) = 0
  | [] => rfl
  | x :: r => by
    show max (PyData.depth (.str (sOf x))) (PyData.depthAll (r.map fun s => PyData.str (sOf s))) = 0
    rw [depth_ch r]; rfl
theorem eqvAll_ch : ∀ a b : List (List Nat), PyData.eqvAll (a.map fun s => PyData.str (sOf s)) (b.map fun s => PyData.str (sOf s)) = decide (a = b)
  | [], [] => by simp [PyData.eqvAll]
  | [], _ :: _ => by simp [PyData.eqvAll]
  | _ :: _, [] => by simp [PyData.eqvAll]
  | x :: a, y :: b => by
    show (PyData.eqv (.str (sOf x)) (.str (sOf y)) && PyData.eqvAll _ _) = _
    rw [eqvAll_ch a b]
    have : PyData.eqv (.str (sOf x)) (.str (sOf y)) = decide (x = y) := by
      show (sOf x == sOf y) = _
      rw [Bool.eq_iff_iff, beq_iff_eq, decide_eq_true_eq]
      exact ⟨sOf_inj, fun h => by rw [h]⟩
    rw [this, Bool.eq_iff_iff]; simp
theorem depth1 (a : List (List Nat)) : (PyData.list (a.map fun s => PyData.str (sOf s))).depth = 1 := by show PyData.depthAll _ + 1 = 1; rw [depth_ch]
theorem toPD_ch (a : List (List Nat)) : toPD (.lst (chPV a)) = some (.list (a.map fun s => PyData.str (sOf s))) := by show (toPDs (chPV a)).map _ = _; rw [toPDs_ch]; rfl
theorem chPV_slice (l : List (List Nat)) (a n : Nat) : ((chPV l).drop a).take n = chPV ((l.drop a).take n) := by rw [chPV_drop, chPV_take]
theorem sl1_ch {α : Type} {l : List α} {a : Nat} {x : α} : (l.drop a).take (a + 1 - a) = [x] ↔ l[a]? = some x := by
  rw [Nat.add_sub_cancel_left]
  cases h : l[a]? with
  | none => rw [drop_none h]; exact ⟨fun h => (nomatch h), fun h => (nomatch h)⟩
  | some c => rw [drop_get h]; exact ⟨fun h => congrArg some (List.cons.inj h).1, fun h => by rw [Option.some.inj h]; rfl⟩
noncomputable def one1 (s : List Nat) : List PV := s.map fun c => PV.str [c]
theorem one1_snoc (s : List Nat) (c : Nat) : one1 s ++ [.str [c]] = one1 (s ++ [c]) := by simp [one1]
theorem one1_ch (s : List Nat) : one1 s = chPV (s.map fun c => [c]) := by simp [one1, chPV]
theorem one1_len (s : List Nat) : (one1 s).length = s.length := by simp [one1]
theorem one1_get {s : List Nat} {n c : Nat} (h : s[n]? = some c) : (one1 s)[n]? = some (.str [c]) := by simp [one1, h]
noncomputable def mendF : Bool → List Nat → List Nat
  | _, [] => []
  | b, c :: r => (if c = 13 ∨ c = 12 ∨ (c = 10 ∧ b = false) then [10] else if c = 10 then [] else [if c = 0 then 65533 else c]) ++ mendF (c == 13) r
theorem mendF_len : ∀ (b : Bool) (s : List Nat), (mendF b s).length ≤ s.length
  | _, [] => Nat.le_refl _
  | b, c :: r => by
    have := mendF_len (c == 13) r
    rw [mendF, List.length_append, List.length_cons]
    have h1 : (if c = 13 ∨ c = 12 ∨ (c = 10 ∧ b = false) then [10] else if c = 10 then [] else [if c = 0 then 65533 else c]).length ≤ 1 := by
      split
      · exact Nat.le_refl 1
      · split
        · exact Nat.zero_le _
        · exact Nat.le_refl 1
    lia
noncomputable def mendI (t : List Nat) (H : AH) (a : Addr) (xs : List PV) (ρ : Loc) (H' : AH) : Prop :=
  ∃ (done rest b : List Nat) (x : Option PV), xs = one1 rest ∧ ρ = [some (.str t), some (.ref a), some (.str b), x] ∧ H' = H.upd a (.list (one1 done)) ∧ done.length + rest.length ≤ 100000 ∧ done ++ mendF (decide (b = [13])) rest = mendF false t
theorem one1_snoc2 {H : AH} {a : Addr} {s : List Nat} {c : Nat} : (H.upd a (.list (one1 s))).upd a (.list (one1 s ++ [.str [c]])) = H.upd a (.list (one1 (s ++ [c]))) := by rw [upd_upd, one1_snoc]
theorem mended_ok (G : GoodB B) (GT : GoodT B T) (F : FnAt B "_law_mended" p_law_mended 1 [] v_law_mended m_law_mended) {t : List Nat} (hL : t.length ≤ 100000) :
    Con B (d + 1) "_law_mended" [.str t] (.lst (one1 (mendF false t))) := by
  refine conDef G GT F rfl fun H a ha => for_mk (mendI t H a) ⟨[], t, [], none, rfl, rfl, rfl, by show 0 + _ ≤ _; lia, rfl⟩ ?_ ?_
  · rintro x r ρ H' ⟨done, rest, b, y, hx, rfl, rfl, hl, he⟩
    cases rest with
    | nil => cases hx
    | cons c rest =>
      obtain ⟨rfl, rfl⟩ := List.cons.inj hx
      rw [List.length_cons] at hl
      rw [mendF] at he
      have hlen : (one1 done).length ≤ 1000000 := by rw [one1_len]; lia
      have hb : decide ([c] = [13]) = (c == 13) := by rw [Bool.eq_iff_iff, decide_eq_true_eq, beq_iff_eq]; exact ⟨cons1, fun h => by rw [h]⟩
      have nl : (c = 13 ∨ c = 12 ∨ (c = 10 ∧ decide (b = [13]) = false)) → mendI t H a (one1 rest) [some (.str t), some (.ref a), some (.str [c]), some (.str [c])] ((H.upd a (.list (one1 done))).upd a (.list (one1 done ++ [.str [10]]))) := by
        intro h
        rw [if_pos h, ← List.append_assoc] at he
        exact ⟨done ++ [10], rest, [c], _, rfl, rfl, one1_snoc2, by rw [List.length_append, List.length_singleton]; lia, by rw [hb]; exact he⟩
      by_cases h13 : c = 13
      · exact tst_pos (congrArg (fun x => [x]) h13) (tst_dT ⟨⟨_, upd_self ..⟩, app_mk (upd_self ..) hlen ⟨rfl, nl (.inl h13)⟩⟩)
      refine tst_neg (fun h => h13 (cons1 h)) ?_
      by_cases h12 : c = 12
      · exact tst_pos (congrArg (fun x => [x]) h12) (tst_dT ⟨⟨_, upd_self ..⟩, app_mk (upd_self ..) hlen ⟨rfl, nl (.inr (.inl h12))⟩⟩)
      refine tst_neg (fun h => h12 (cons1 h)) ?_
      by_cases h10 : c = 10
      · refine tst_pos (congrArg (fun x => [x]) h10) ?_
        by_cases hb' : b = [13]
        · refine tst_neg (fun h => h hb') (tst_dF (tst_dF (tst_neg (fun h => h (congrArg (fun x => [x]) h10)) ?_)))
          have hn : ¬ (c = 13 ∨ c = 12 ∨ (c = 10 ∧ decide (b = [13]) = false)) := by
            rintro (h | h | h)
            · exact h13 h
            · exact h12 h
            · exact of_decide_eq_false h.2 hb'
          rw [if_neg hn, if_pos h10] at he
          exact ⟨done, rest, [c], _, rfl, rfl, rfl, by lia, by rw [hb]; exact he⟩
        · exact tst_pos hb' (tst_dT (tst_dT ⟨⟨_, upd_self ..⟩, app_mk (upd_self ..) hlen ⟨rfl, nl (.inr (.inr ⟨h10, decide_eq_false hb'⟩))⟩⟩))
      · refine tst_neg (fun h => h10 (cons1 h)) (tst_dF (tst_dF (tst_pos (fun h => h10 (cons1 h)) ⟨⟨_, upd_self ..⟩, ?_⟩)))
        have hn : ¬ (c = 13 ∨ c = 12 ∨ (c = 10 ∧ decide (b = [13]) = false)) := by
          rintro (h | h | h)
          · exact h13 h
          · exact h12 h
          · exact h10 h.1
        rw [if_neg hn, if_neg h10, ← List.append_assoc] at he
        refine tst_both (fun h => app_mk (upd_self ..) hlen ⟨rfl, done ++ [65533], rest, [c], _, rfl, rfl, one1_snoc2, by rw [List.length_append, List.length_singleton]; lia, ?_⟩) (fun h => app_mk (upd_self ..) hlen ⟨rfl, done ++ [c], rest, [c], _, rfl, rfl, one1_snoc2, by rw [List.length_append, List.length_singleton]; lia, ?_⟩)
        · rw [if_pos (cons1 h)] at he; rw [hb]; exact he
        · rw [if_neg (fun e => h (by rw [e]))] at he; rw [hb]; exact he
  · rintro ρ H' ⟨done, rest, b, y, hx, rfl, rfl, hl, he⟩
    cases rest with
    | cons c r => cases hx
    | nil =>
      rw [mendF, List.append_nil] at he
      subst he
      exact ⟨_, upd_self .., rfl, del_upd ha _⟩
noncomputable def plPV (q : Nat × Nat) : PV := .tup [.int q.1, .int q.2]
noncomputable def placesF : Nat → Nat → List Nat → List (Nat × Nat)
  | _, _, [] => []
  | l, c, x :: r => (l, c) :: (if x = 10 then placesF (l + 1) 1 r else placesF l (c + 1) r)
theorem placesF_len : ∀ (l c : Nat) (s : List Nat), (placesF l c s).length = s.length
  | _, _, [] => rfl
  | l, c, x :: r => by
    rw [placesF]
    split
    · exact congrArg (· + 1) (placesF_len _ _ r)
    · exact congrArg (· + 1) (placesF_len _ _ r)
noncomputable def placesI (t : List Nat) (H : AH) (a : Addr) (xs : List PV) (ρ : Loc) (H' : AH) : Prop :=
  ∃ (done : List (Nat × Nat)) (rest : List Nat) (l c : Nat) (x : Option PV), xs = one1 rest ∧ ρ = [some (.lst (one1 t)), some (.ref a), some (.int l), some (.int c), x] ∧ H' = H.upd a (.list (done.map plPV)) ∧ done.length + rest.length ≤ 100000 ∧ done ++ placesF l c rest = placesF 1 1 t
theorem places_ok (G : GoodB B) (GT : GoodT B T) (F : FnAt B "_law_places" p_law_places 1 [] v_law_places m_law_places) {t : List Nat} (hL : t.length ≤ 100000) :
    Con B (d + 1) "_law_places" [.lst (one1 t)] (.lst ((placesF 1 1 t).map plPV)) := by
  refine conDef G GT F rfl fun H a ha => for_mk (placesI t H a) ⟨[], t, 1, 1, none, rfl, rfl, rfl, by show 0 + _ ≤ _; lia, rfl⟩ ?_ ?_
  · rintro x r ρ H' ⟨done, rest, l, c, y, hx, rfl, rfl, hl, he⟩
    cases rest with
    | nil => cases hx
    | cons k rest =>
      obtain ⟨rfl, rfl⟩ := List.cons.inj hx
      rw [List.length_cons] at hl
      rw [placesF] at he
      have hlen : (done.map plPV).length ≤ 1000000 := by rw [List.length_map]; lia
      have eu : (H.upd a (.list (done.map plPV))).upd a (.list (done.map plPV ++ [.tup [.int l, .int c]])) = H.upd a (.list ((done ++ [(l, c)]).map plPV)) := by rw [upd_upd, List.map_append]; rfl
      have hl' : (done ++ [(l, c)]).length + rest.length ≤ 100000 := by rw [List.length_append, List.length_singleton]; lia
      refine ⟨⟨_, upd_self ..⟩, app_mk (upd_self ..) hlen ⟨rfl, tst_both (fun h => ⟨done ++ [(l, c)], rest, l + 1, 1, _, rfl, rfl, eu, hl', ?_⟩) (fun h => ⟨done ++ [(l, c)], rest, l, c + 1, _, rfl, rfl, eu, hl', ?_⟩)⟩⟩
      · rw [if_pos (cons1 h)] at he; rw [← he, List.append_assoc]; rfl
      · rw [if_neg (fun e => h (by rw [e]))] at he; rw [← he, List.append_assoc]; rfl
  · rintro ρ H' ⟨done, rest, l, c, y, hx, rfl, rfl, hl, he⟩
    cases rest with
    | cons c r => cases hx
    | nil =>
      rw [placesF, List.append_nil] at he
      subst he
      exact ⟨_, upd_self .., rfl, del_upd ha _⟩
theorem getD_one {α : Type} {l : List α} {i : Nat} {x : α} (h : i < l.length) : l[i]? = some (l.getD i x) := by
  rw [List.getD_eq_getElem?_getD, List.getElem?_eq_getElem h]; rfl
theorem chD {l : List (List Nat)} {i : Nat} (h : i < l.length) : (chPV l)[i]? = some (.str (l.getD i [])) := chPV_get (getD_one h)
noncomputable def hexChars : List Nat := [48, 49, 50, 51, 52, 53, 54, 55, 56, 57, 97, 98, 99, 100, 101, 102, 65, 66, 67, 68, 69, 70]
noncomputable def worthK : List (List Nat) := [[48], [49], [50], [51], [52], [53], [54], [55], [56], [57], [97], [98], [99], [100], [101], [102], [65], [66], [67], [68], [69], [70]]
noncomputable def worthV : List PV := [.int 0, .int 1, .int 2, .int 3, .int 4, .int 5, .int 6, .int 7, .int 8, .int 9, .int 10, .int 11, .int 12, .int 13, .int 14, .int 15, .int 10, .int 11, .int 12, .int 13, .int 14, .int 15]
theorem worth_mem (c : Nat) : [c] ∈ worthK ↔ isHex c = true := (mem_one (l := hexChars)).trans (hexChars_is c)
theorem worth_get {c : Nat} (h : isHex c = true) : assocP [c] worthK worthV = some (.int ((hexV c).getD 0 : Nat)) := by
  have := (hexChars_is c).mpr h
  simp only [List.mem_cons, List.not_mem_nil, or_false] at this
  rcases this with rfl | rfl | rfl | rfl | rfl | rfl | rfl | rfl | rfl | rfl | rfl | rfl | rfl | rfl | rfl | rfl | rfl | rfl | rfl | rfl | rfl | rfl <;> rfl
theorem hexNum_snoc (l : List Nat) (c : Nat) : hexNum (l ++ [c]) = 16 * hexNum l + (hexV c).getD 0 := by
  simp [hexNum, List.foldl_append, Nat.mul_comm]
theorem hexRun_zero (k : Nat) {s : List Nat} {p : Nat} (h : s[p]? = none) : hexRun k (s.drop p) = 0 := by
  rw [drop_none h]; cases k <;> rfl
theorem lt1_no {s : List Nat} {a : Nat} (h : s[a]? = none) : ¬ (a : Int) < ((one1 s).length : Int) := by rw [one1_len]; exact lt_no h
theorem lt1_yes {s : List Nat} {a c : Nat} (h : s[a]? = some c) : (a : Int) < ((one1 s).length : Int) := by rw [one1_len]; exact lt_yes h
theorem bl_iff {c : Nat} : ([c] ∈ ([[32], [9], [10]] : List (List Nat))) ↔ decide (c ∈ [32, 10, 9]) = true :=
  (mem_one (l := [32, 9, 10])).trans (mem_below (p := fun c => decide (c ∈ [32, 10, 9])) (by decide) (by decide) (fun c h => decide_eq_false (fun k => by
    rcases List.mem_cons.mp k with k | k
    · lia
    · rcases List.mem_cons.mp k with k | k
      · lia
      · cases List.mem_singleton.mp k; lia)) c)
theorem sOf_injL {l : List (List Nat)} (h : l.Nodup) : (l.map sOf).Nodup := List.Pairwise.map sOf (fun a b hab e => hab (sOf_inj e)) h
theorem worth_ok (G : GoodB B) (GT : GoodT B T) (F : FnAt B "_law_WORTH" p_law_WORTH 0 [] v_law_WORTH m_law_WORTH) : Con B (d + 1) "_law_WORTH" [] (.dct worthK worthV) := by
  refine conDef G GT F rfl fun H => ⟨worthV, rfl, ⟨by decide, by decide⟩, sOf_injL (by decide), ?_, rfl, rfl⟩
  intro k hk
  simp only [List.mem_cons, List.not_mem_nil, or_false] at hk
  rcases hk with rfl | rfl | rfl | rfl | rfl | rfl | rfl | rfl | rfl | rfl | rfl | rfl | rfl | rfl | rfl | rfl | rfl | rfl | rfl | rfl | rfl | rfl <;> rfl
end Mine
end
section
set_option backward.match.sparseCases false
namespace Mine
open PySem PySem.W
variable {B : Base} {T : Tab} {d : Nat}
theorem take_nx {s : List Nat} {p e c : Nat} (hc : s[p + e]? = some c) : (s.drop p).take (e + 1) = (s.drop p).take e ++ [c] := by
  have := take_snoc (s := s) (a := p) (p := p + e) hc (Nat.le_add_right _ _)
  rw [Nat.add_assoc p e 1, Nat.add_sub_cancel_left, Nat.add_sub_cancel_left] at this
  exact this
noncomputable def escI (s : List Nat) (p : Nat) (H : AH) (m : Nat) (ρ : Loc) (H' : AH) : Prop :=
  ∃ e, ρ = [some (.lst (one1 s)), some (.int (p + e : Nat)), some (.int (hexNum ((s.drop p).take e) : Nat)), some (.int p)] ∧ H' = H ∧ e ≤ 6 ∧ e + hexRun (6 - e) (s.drop (p + e)) = hexRun 6 (s.drop p) ∧ m = 6 - e
theorem esc_loop (W : Con B d "_law_WORTH" [] (.dct worthK worthV)) {s : List Nat} {p : Nat} {H : AH} {Q : KS}
    (hq : ∀ e, e = hexRun 6 (s.drop p) → Q .next [some (.lst (one1 s)), some (.int (p + e : Nat)), some (.int (hexNum ((s.drop p).take e) : Nat)), some (.int p)] H) :
    vcS B T d w_law_escape_1 Q [some (.lst (one1 s)), some (.int p), some (.int 0), some (.int p)] H := by
  refine wh_mk (escI s p H) 6 ⟨0, rfl, rfl, Nat.zero_le _, Nat.zero_add _, rfl⟩ ?_
  rintro m ρ H' ⟨e, rfl, rfl, he6, he, rfl⟩
  by_cases h6 : e < 6
  · refine tst_pos (Int.ofNat_lt.mpr (Nat.add_lt_add_left h6 p)) ?_
    obtain ⟨k, hk, hk'⟩ := six h6
    rw [hk] at he
    cases hc : s[p + e]? with
    | none =>
      rw [hexRun_zero _ hc] at he
      exact tst_neg (lt1_no hc) (tst_dF (hq e he))
    | some c =>
      rw [drop_get hc, hexRun] at he
      refine tst_pos (lt1_yes hc) ⟨_, one1_get hc, W.run (tst_iff (worth_mem c) (fun hx => tst_dT ⟨rfl, W.run ⟨_, one1_get hc, _, worth_get hx, 6 - (e + 1), Nat.sub_lt_sub_left h6 (Nat.lt_succ_self e), e + 1, ?_, rfl, h6, ?_, rfl⟩⟩) (fun hx => tst_dF (hq e ?_)))⟩
      · rw [take_nx hc, hexNum_snoc]; rfl
      · rw [if_pos hx] at he
        rw [← he, hk']; exact Nat.succ_add_eq_add_succ ..
      · rw [hx] at he; exact he
  · rw [six0 h6] at he
    exact tst_neg (fun h => h6 (Nat.lt_of_add_lt_add_left (Int.ofNat_lt.mp h))) (tst_dF (hq e he))
theorem tst_rng {p q : Prop} {i : Decidable p} {j : Decidable q} {X Y Z : Prop} (x : p ∧ q → X) (y : ¬ (p ∧ q) → Y) : tst ⟨p, i⟩ (tst ⟨q, j⟩ X Y) (tst dF Z Y) :=
  tst_both (fun h => tst_both (fun k => x ⟨h, k⟩) (fun k => y fun z => k z.2)) (fun h => tst_dF (y fun z => h z.1))
theorem law_escape_ok (G : GoodB B) (GT : GoodT B T) (F : FnAt B "_law_escape" p_law_escape 2 [] v_law_escape m_law_escape) (W : Con B d "_law_WORTH" [] (.dct worthK worthV)) {s : List Nat} {p y : Nat} (hy : s[p]? = some y) :
    Con B (d + 1) "_law_escape" [.lst (one1 s), .int p] (.tup [.str [(escSpec (s.drop p)).1], .int (p + (escSpec (s.drop p)).2 : Nat)]) := by
  refine conDef G GT F rfl fun H => esc_loop W fun e hE => ?_
  by_cases h0 : e = 0
  · subst h0
    have e1 : escSpec (s.drop p) = (y, 1) := by
      unfold escSpec
      rw [← hE, if_neg (Nat.lt_irrefl 0), drop_get hy]
    exact tst_pos rfl ⟨_, one1_get hy, by rw [e1]; rfl, rfl⟩
  have e1 : escSpec (s.drop p) = (if 0 < hexNum ((s.drop p).take e) ∧ hexNum ((s.drop p).take e) ≤ 1114111 then hexNum ((s.drop p).take e) else 65533, if blankAt s (p + e) then e + 1 else e) := by
    unfold escSpec
    rw [← hE, if_pos (Nat.pos_of_ne_zero h0), blankAt_drop]
  rw [e1]
  generalize hexNum ((s.drop p).take e) = N
  refine tst_neg (fun h => h0 (Nat.add_left_cancel (n := p) (Int.ofNat.inj h))) ?_
  generalize hK : (if blankAt s (p + e) then e + 1 else e) = K
  have fin : ∀ {q : Nat}, q = p + K → vcSs B T d r_law_escape_1 (isRet (.tup [.str [if 0 < N ∧ N ≤ 1114111 then N else 65533], .int (p + K : Nat)]) H) [some (.lst (one1 s)), some (.int q), some (.int (N : Nat)), some (.int p)] H := by
    rintro q rfl
    refine tst_rng (p := (0 : Int) < N) (q := (N : Int) < 1114112) (fun h => ?_) (fun h => ?_)
    · have h' : 0 < N ∧ N ≤ 1114111 := ⟨Int.ofNat_lt.mp h.1, Nat.le_of_lt_succ (Int.ofNat_lt.mp h.2)⟩
      exact ⟨Int.ofNat_lt.mp h.2, by rw [if_pos h'], rfl⟩
    · have h' : ¬ (0 < N ∧ N ≤ 1114111) := fun k => h ⟨Int.ofNat_lt.mpr k.1, Int.ofNat_lt.mpr (Nat.lt_succ_of_le k.2)⟩
      exact ⟨by rw [if_neg h'], rfl⟩
  cases hc : s[p + e]? with
  | none =>
    have hb : blankAt s (p + e) = false := by unfold blankAt; rw [hc]
    rw [hb] at hK
    exact tst_neg (lt1_no hc) (tst_dF (fin (by rw [← hK]; rfl)))
  | some c =>
    have hb : blankAt s (p + e) = decide (c ∈ [32, 10, 9]) := by unfold blankAt; rw [hc]
    refine tst_pos (lt1_yes hc) ⟨_, one1_get hc, tst_iff bl_iff (fun h => tst_dT (fin ?_)) (fun h => tst_dF (fin ?_))⟩
    · rw [hb.trans h] at hK; rw [← hK]; rfl
    · rw [hb.trans h] at hK; rw [← hK]; rfl
end Mine
end
section
set_option backward.match.sparseCases false
namespace Mine
open PySem PySem.W
variable {B : Base} {T : Tab} {d : Nat}
theorem sl0_ch {α : Type} {l : List α} {a : Nat} : (l.drop a).take (a + 1 - a) = [] ↔ l[a]? = none := by
  rw [Nat.add_sub_cancel_left]
  constructor
  · intro h
    cases hg : l[a]? with
    | none => rfl
    | some c =>
      have hlt := get_lt hg
      have := congrArg List.length h
      rw [List.length_take, List.length_drop] at this
      replace this : min 1 (l.length - a) = 0 := this
      lia
  · intro h
    rw [List.drop_eq_nil_of_le (get_ge h)]; rfl
theorem in_e {l : List (List Nat)} {a : Nat} {x : List Nat} {k : DP → Prop} {b : Bool} (hb : (l[a]? = none ∨ l[a]? = some x) ↔ b = true) (h : k (dB b)) : inLK (.lst (((chPV l).drop a).take (a + 1 - a))) (.lst [.lst [], .lst [.str x]]) k := by
  unfold inLK
  rw [chPV_slice]
  refine ⟨_, [.list (([] : List (List Nat)).map fun s => PyData.str (sOf s)), .list ([x].map fun s => PyData.str (sOf s))], toPD_ch _, rfl, by rw [depth1]; exact Nat.le_of_ble_eq_true rfl, ?_⟩
  have e : ([PyData.list (([] : List (List Nat)).map fun s => PyData.str (sOf s)), .list ([x].map fun s => PyData.str (sOf s))].any fun w => PyData.eqv w (.list (((l.drop a).take (a + 1 - a)).map fun s => PyData.str (sOf s)))) = b := by
    show (PyData.eqvAll (([] : List (List Nat)).map fun s => PyData.str (sOf s)) _ || (PyData.eqvAll _ _ || false)) = _
    rw [eqvAll_ch, eqvAll_ch, Bool.or_false, Bool.eq_iff_iff, Bool.or_eq_true, decide_eq_true_eq, decide_eq_true_eq, ← hb, ← sl0_ch (l := l), ← sl1_ch (l := l) (x := x), eq_comm, @eq_comm _ [x]]
  rw [e]; exact h
noncomputable def urlL (c : Nat) : Bool := decide (c = 117 ∨ c = 85 ∨ c = 114 ∨ c = 82 ∨ c = 108 ∨ c = 76)
noncomputable def isEscAt (s : List Nat) (p : Nat) : Bool := decide (s[p]? = some 92) && (s[p + 1]?).any fun c => !decide (c = 10)
structure Fold where
  sg : List Nat
  org : List Nat
  ks : List Nat
  vs : List Nat
noncomputable def foldS (s : List Nat) : Nat → Nat → Nat → Fold
  | 0, _, _ => ⟨[], [], [], []⟩
  | n + 1, p, m => match s[p]? with
    | none => ⟨[], [], [], []⟩
    | some c => if isEscAt s p = true then
        (if urlL (escSpec (s.drop (p + 1))).1 = true then
          let r := foldS s n (p + 1 + (escSpec (s.drop (p + 1))).2) m; ⟨(escSpec (s.drop (p + 1))).1 :: r.sg, p :: r.org, r.ks, r.vs⟩
        else let r := foldS s n (p + 1 + (escSpec (s.drop (p + 1))).2) (m + 1); ⟨(57344 + m) :: r.sg, p :: r.org, (57344 + m) :: r.ks, (escSpec (s.drop (p + 1))).1 :: r.vs⟩)
      else let r := foldS s n (p + 1) m; ⟨c :: r.sg, p :: r.org, r.ks, r.vs⟩
noncomputable def keysM (m : Nat) : List (List Nat) := (List.range m).map fun i => [57344 + i]
noncomputable def foPV (r : Fold) : PV := .tup [.lst (one1 r.sg), .lst (r.org.map fun p => PV.int (p : Nat)), .dct (r.ks.map fun k => [k]) (one1 r.vs)]
noncomputable def hp (H : AH) (a1 a2 a3 : Addr) (x y z : AO) : AH := ((H.upd a1 x).upd a2 y).upd a3 z
section
variable {H : AH} {a1 a2 a3 : Addr} {x y z w : AO} (h12 : a1 ≠ a2) (h13 : a1 ≠ a3) (h23 : a2 ≠ a3)
include h12 h13 in
theorem hp_g1 : hp H a1 a2 a3 x y z a1 = some x := (upd_ne h13).trans ((upd_ne h12).trans (upd_self ..))
include h23 in
theorem hp_g2 : hp H a1 a2 a3 x y z a2 = some y := (upd_ne h23).trans (upd_self ..)
theorem hp_g3 : hp H a1 a2 a3 x y z a3 = some z := upd_self ..
include h12 h13 in
theorem hp_1 : (hp H a1 a2 a3 x y z).upd a1 w = hp H a1 a2 a3 w y z := by
  funext b
  by_cases e : b = a1
  · subst e; exact (upd_self ..).trans (hp_g1 h12 h13).symm
  · refine (upd_ne e).trans ?_
    unfold hp
    by_cases e3 : b = a3
    · subst e3; exact (upd_self ..).trans (upd_self ..).symm
    · refine (upd_ne e3).trans (Eq.trans ?_ (upd_ne e3).symm)
      by_cases e2 : b = a2
      · subst e2; exact (upd_self ..).trans (upd_self ..).symm
      · exact (upd_ne e2).trans ((upd_ne e).trans ((upd_ne e2).trans (upd_ne e)).symm)
include h23 in
theorem hp_2 : (hp H a1 a2 a3 x y z).upd a2 w = hp H a1 a2 a3 x w z := by
  funext b
  by_cases e : b = a2
  · subst e; exact (upd_self ..).trans (hp_g2 h23).symm
  · refine (upd_ne e).trans ?_
    unfold hp
    by_cases e3 : b = a3
    · subst e3; exact (upd_self ..).trans (upd_self ..).symm
    · exact (upd_ne e3).trans ((upd_ne e).trans ((upd_ne e3).trans (upd_ne e)).symm)
theorem hp_3 : (hp H a1 a2 a3 x y z).upd a3 w = hp H a1 a2 a3 x y w := by unfold hp; rw [upd_upd]
end
noncomputable def FoI (s : List Nat) (a1 a2 a3 : Addr) (R : Fold) (H : AH) (n : Nat) (ρ : Loc) (H' : AH) : Prop :=
  ∃ (p m f : Nat) (sg og vs : List Nat) (x5 x6 : Option PV), ρ = [some (.lst (one1 s)), some (.ref a1), some (.ref a2), some (.ref a3), some (.int (p : Nat)), x5, x6] ∧
    H' = hp H a1 a2 a3 (.list (one1 sg)) (.list (og.map fun p => PV.int (p : Nat))) (.dict (keysM m) (one1 vs)) ∧
    R = ⟨sg ++ (foldS s f p m).sg, og ++ (foldS s f p m).org, (List.range m).map (57344 + ·) ++ (foldS s f p m).ks, vs ++ (foldS s f p m).vs⟩ ∧
    p ≤ s.length ∧ m ≤ p ∧ sg.length ≤ p ∧ og.length ≤ p ∧ s.length - p ≤ f ∧ n = s.length - p
theorem keysM_snoc (m : Nat) : keysM m ++ [[57344 + m]] = keysM (m + 1) := by
  unfold keysM; rw [List.range_succ, List.map_append]; rfl
theorem keysM_new (m : Nat) : [57344 + m] ∉ keysM m := by
  intro h
  obtain ⟨i, hi, e⟩ := List.mem_map.mp h
  have := List.mem_range.mp hi
  have := cons1 e
  lia
theorem keysM_len (m : Nat) : (keysM m).length = m := by unfold keysM; rw [List.length_map, List.length_range]
theorem map_snoc (og : List Nat) (p : Nat) : (og.map fun p => PV.int (p : Nat)) ++ [.int (p : Nat)] = (og ++ [p]).map fun p => PV.int (p : Nat) := by rw [List.map_append]; rfl
theorem frz_end {H : AH} {a1 a2 a3 : Addr} {x y z : AO} (h12 : a1 ≠ a2) (h13 : a1 ≠ a3) (h23 : a2 ≠ a3) (n1 : H a1 = none) (n2 : H a2 = none) (n3 : H a3 = none) : subH H ((((hp H a1 a2 a3 x y z).del a1).del a2).del a3) := by
  intro a v ha
  have e1 : a ≠ a1 := by rintro rfl; rw [n1] at ha; cases ha
  have e2 : a ≠ a2 := by rintro rfl; rw [n2] at ha; cases ha
  have e3 : a ≠ a3 := by rintro rfl; rw [n3] at ha; cases ha
  exact (del_ne e3).trans ((del_ne e2).trans ((del_ne e1).trans ((upd_ne e3).trans ((upd_ne e2).trans ((upd_ne e1).trans ha)))))
theorem in_e1 {s : List Nat} {a x : Nat} {k : DP → Prop} {b : Bool} (hb : (s[a]? = none ∨ s[a]? = some x) ↔ b = true) (h : k (dB b)) : inLK (.lst (((one1 s).drop a).take (a + 1 - a))) (.lst [.lst [], .lst [.str [x]]]) k := by
  rw [one1_ch]
  refine in_e (Iff.trans ?_ hb) h
  rw [List.getElem?_map]
  cases s[a]? with
  | none => exact ⟨fun _ => .inl rfl, fun _ => .inl rfl⟩
  | some c => exact ⟨fun h => h.elim (fun h => nomatch h) (fun h => .inr (congrArg some (cons1 (Option.some.inj h)))), fun h => h.elim (fun h => nomatch h) (fun h => .inr (congrArg (Option.map fun c => [c]) h))⟩
theorem len_mk {l : Addr} {n : Nat} {ks : List (List Nat)} {vs : List PV} {Q : KE} {H : AH} (h : H l = some (.dict ks vs)) (hn : ks.length = n) (q : Q (.int (n : Nat)) H) : ∃ ks vs, H l = some (.dict ks vs) ∧ Q (.int ks.length) H := ⟨ks, vs, h, by rw [hn]; exact q⟩
theorem set_mk1 {l : Addr} {s : List Nat} {v : PV} {Q : AH → Prop} {H : AH} {ks : List (List Nat)} {vs : List PV} (h : H l = some (.dict ks vs)) (hn : s ∉ ks) (hs : sok s) (hl : ks.length < 1000) (q : Q (H.upd l (.dict (ks ++ [s]) (vs ++ [v])))) : setB l (.str s) v Q H := by
  unfold setB; exact .inl ⟨ks, vs, s, rfl, h, hn, hs, hl, q⟩
theorem urlL_iff {c : Nat} : ([c] ∈ ([[117], [85], [114], [82], [108], [76]] : List (List Nat))) ↔ urlL c = true :=
  (mem_one (l := [117, 85, 114, 82, 108, 76])).trans (by
    unfold urlL
    rw [decide_eq_true_eq]
    simp only [List.mem_cons, List.not_mem_nil, or_false])
theorem fold_end {s : List Nat} {p : Nat} (h : s[p]? = none) : ∀ (f m : Nat), foldS s f p m = ⟨[], [], [], []⟩
  | 0, _ => rfl
  | f + 1, m => by rw [foldS, h]
theorem fold_plain {s : List Nat} {p c : Nat} (h : s[p]? = some c) (he : isEscAt s p = false) (f m : Nat) : foldS s (f + 1) p m = ⟨c :: (foldS s f (p + 1) m).sg, p :: (foldS s f (p + 1) m).org, (foldS s f (p + 1) m).ks, (foldS s f (p + 1) m).vs⟩ := by
  rw [foldS, h]
  dsimp only
  rw [if_neg (by rw [he]; exact Bool.false_ne_true)]
theorem fold_url {s : List Nat} {p c g n : Nat} (h : s[p]? = some c) (he : isEscAt s p = true) (hg : escSpec (s.drop (p + 1)) = (g, n)) (hu : urlL g = true) (f m : Nat) :
    foldS s (f + 1) p m = ⟨g :: (foldS s f (p + 1 + n) m).sg, p :: (foldS s f (p + 1 + n) m).org, (foldS s f (p + 1 + n) m).ks, (foldS s f (p + 1 + n) m).vs⟩ := by
  rw [foldS, h]
  dsimp only
  rw [if_pos he, hg, if_pos hu]
theorem fold_esc {s : List Nat} {p c g n : Nat} (h : s[p]? = some c) (he : isEscAt s p = true) (hg : escSpec (s.drop (p + 1)) = (g, n)) (hu : urlL g = false) (f m : Nat) :
    foldS s (f + 1) p m = ⟨(57344 + m) :: (foldS s f (p + 1 + n) (m + 1)).sg, p :: (foldS s f (p + 1 + n) (m + 1)).org, (57344 + m) :: (foldS s f (p + 1 + n) (m + 1)).ks, g :: (foldS s f (p + 1 + n) (m + 1)).vs⟩ := by
  rw [foldS, h]
  dsimp only
  rw [if_pos he, hg, if_neg (by rw [hu]; exact Bool.false_ne_true)]
theorem app1 {α : Type} {a r : List α} {x : α} : a ++ x :: r = a ++ [x] ++ r := by rw [List.append_assoc]; rfl
end Mine
end
section
set_option backward.match.sparseCases false
namespace Mine
open PySem PySem.W
variable {B : Base} {T : Tab} {d : Nat}
theorem esc_le {s : List Nat} {p y : Nat} (h : s[p]? = some y) : p + (escSpec (s.drop p)).2 ≤ s.length ∧ 0 < (escSpec (s.drop p)).2 := by
  have h1 := escSpec_le (s.drop p)
  have hlt := get_lt h
  rw [List.length_drop] at h1
  exact ⟨add_sub_le h1.1 (Nat.le_of_lt hlt), h1.2 (by rw [drop_get h]; exact List.cons_ne_nil _ _)⟩
theorem fo_step1 {s : List Nat} {a1 a2 a3 : Addr} {R : Fold} {H : AH} (h12 : a1 ≠ a2) (h13 : a1 ≠ a3) (h23 : a2 ≠ a3) {p m f : Nat} {sg og vs : List Nat} {c q : Nat} {x5 x6 : Option PV}
    (hR : R = ⟨(sg ++ [c]) ++ (foldS s f q m).sg, (og ++ [p]) ++ (foldS s f q m).org, (List.range m).map (57344 + ·) ++ (foldS s f q m).ks, vs ++ (foldS s f q m).vs⟩)
    (hq : q ≤ s.length) (hp : p < q) (hm : m ≤ p) (h1 : sg.length ≤ p) (h2 : og.length ≤ p) (hf : s.length - p ≤ f + 1) :
    FoI s a1 a2 a3 R H (s.length - q) [some (.lst (one1 s)), some (.ref a1), some (.ref a2), some (.ref a3), some (.int (q : Nat)), x5, x6]
      (((Mine.hp H a1 a2 a3 (.list (one1 sg)) (.list (og.map fun p => PV.int (p : Nat))) (.dict (keysM m) (one1 vs))).upd a2 (.list ((og.map fun p => PV.int (p : Nat)) ++ [.int (p : Nat)]))).upd a1 (.list (one1 sg ++ [.str [c]]))) := by
  refine ⟨q, m, f, sg ++ [c], og ++ [p], vs, x5, x6, rfl, ?_, hR, hq, Nat.le_trans hm (Nat.le_of_lt hp), by rw [List.length_append]; exact Nat.le_trans (Nat.succ_le_succ h1) hp, by rw [List.length_append]; exact Nat.le_trans (Nat.succ_le_succ h2) hp, dec_of hf hp, rfl⟩
  rw [hp_2 h23, hp_1 h12 h13, one1_snoc, map_snoc]
theorem fo_step2 {s : List Nat} {a1 a2 a3 : Addr} {R : Fold} {H : AH} (h12 : a1 ≠ a2) (h13 : a1 ≠ a3) (h23 : a2 ≠ a3) {p m f : Nat} {sg og vs : List Nat} {q g : Nat} {x5 x6 : Option PV}
    (hR : R = ⟨(sg ++ [57344 + m]) ++ (foldS s f q (m + 1)).sg, (og ++ [p]) ++ (foldS s f q (m + 1)).org, (List.range (m + 1)).map (57344 + ·) ++ (foldS s f q (m + 1)).ks, (vs ++ [g]) ++ (foldS s f q (m + 1)).vs⟩)
    (hq : q ≤ s.length) (hp : p < q) (hm : m ≤ p) (h1 : sg.length ≤ p) (h2 : og.length ≤ p) (hf : s.length - p ≤ f + 1) :
    FoI s a1 a2 a3 R H (s.length - q) [some (.lst (one1 s)), some (.ref a1), some (.ref a2), some (.ref a3), some (.int (q : Nat)), x5, x6]
      ((((Mine.hp H a1 a2 a3 (.list (one1 sg)) (.list (og.map fun p => PV.int (p : Nat))) (.dict (keysM m) (one1 vs))).upd a2 (.list ((og.map fun p => PV.int (p : Nat)) ++ [.int (p : Nat)]))).upd a3 (.dict (keysM m ++ [[57344 + m]]) (one1 vs ++ [.str [g]]))).upd a1 (.list (one1 sg ++ [.str [57344 + m]]))) := by
  refine ⟨q, m + 1, f, sg ++ [57344 + m], og ++ [p], vs ++ [g], x5, x6, rfl, ?_, hR, hq, Nat.le_trans (Nat.succ_le_succ hm) hp, by rw [List.length_append]; exact Nat.le_trans (Nat.succ_le_succ h1) hp, by rw [List.length_append]; exact Nat.le_trans (Nat.succ_le_succ h2) hp, dec_of hf hp, rfl⟩
  rw [hp_2 h23, hp_3, hp_1 h12 h13, one1_snoc, map_snoc, one1_snoc, keysM_snoc]
theorem law_folded_ok (G : GoodB B) (GT : GoodT B T) (F : FnAt B "_law_folded" p_law_folded 1 [] v_law_folded m_law_folded) {s : List Nat} (hL : s.length ≤ 900)
    (E : ∀ {p y : Nat}, s[p]? = some y → Con B d "_law_escape" [.lst (one1 s), .int p] (.tup [.str [(escSpec (s.drop p)).1], .int (p + (escSpec (s.drop p)).2 : Nat)])) :
    Con B (d + 1) "_law_folded" [.lst (one1 s)] (foPV (foldS s s.length 0 0)) := by
  refine conDefS G GT F rfl fun H a1 n1 a2 n2 a3 n3 => ?_
  have h12 : a1 ≠ a2 := by rintro rfl; rw [upd_self] at n2; cases n2
  have h23 : a2 ≠ a3 := by rintro rfl; rw [upd_self] at n3; cases n3
  have n3' := (upd_ne h23.symm).symm.trans n3
  have h13 : a1 ≠ a3 := by rintro rfl; rw [upd_self] at n3'; cases n3'
  have n2' : H a2 = none := (upd_ne h12.symm).symm.trans n2
  have n3'' : H a3 = none := (upd_ne h13.symm).symm.trans n3'
  refine wh_mk (FoI s a1 a2 a3 (foldS s s.length 0 0) H) s.length ⟨0, 0, s.length, [], [], [], none, none, rfl, rfl, rfl, Nat.zero_le _, Nat.zero_le _, Nat.zero_le _, Nat.zero_le _, Nat.le_refl _, rfl⟩ ?_
  rintro n ρ H' ⟨p, m, f, sg, og, vs, x5, x6, rfl, rfl, hR, hps, hm, h1, h2, hf, rfl⟩
  cases hc : s[p]? with
  | none =>
    rw [fold_end hc, List.append_nil, List.append_nil, List.append_nil, List.append_nil] at hR
    refine tst_neg (lt1_no hc) ⟨_, hp_g1 h12 h13, _, (del_ne h12.symm).trans (hp_g2 h23), _, (del_ne h23.symm).trans ((del_ne h13.symm).trans hp_g3), ?_, frz_end h12 h13 h23 n1 n2' n3''⟩
    rw [hR]
    show PV.tup [_, _, .dct (keysM m) _] = PV.tup [_, _, .dct (((List.range m).map (57344 + ·)).map fun k => [k]) _]
    rw [List.map_map]; rfl
  | some c =>
    have hlt := get_lt hc
    obtain ⟨f, rfl⟩ := succ_of hf hlt
    have pL := Nat.lt_of_lt_of_le hlt hL
    have p6 : p ≤ 1000000 := Nat.le_trans (Nat.le_of_lt pL) (by decide)
    have m9 := Nat.lt_of_le_of_lt hm pL
    have m11 : 57344 + m < 1114112 := Nat.lt_of_lt_of_le (Nat.add_lt_add_left m9 57344) (by decide)
    have g1 : ((Mine.hp H a1 a2 a3 (.list (one1 sg)) (.list (og.map fun p => PV.int (p : Nat))) (.dict (keysM m) (one1 vs))).upd a2 (.list ((og.map fun p => PV.int (p : Nat)) ++ [.int (p : Nat)]))) a1 = some (.list (one1 sg)) := (upd_ne h12).trans (hp_g1 h12 h13)
    have g3 : ((Mine.hp H a1 a2 a3 (.list (one1 sg)) (.list (og.map fun p => PV.int (p : Nat))) (.dict (keysM m) (one1 vs))).upd a2 (.list ((og.map fun p => PV.int (p : Nat)) ++ [.int (p : Nat)]))) a3 = some (.dict (keysM m) (one1 vs)) := (upd_ne h23.symm).trans hp_g3
    have l1 : (one1 sg).length ≤ 1000000 := by rw [one1_len]; exact Nat.le_trans h1 p6
    refine tst_pos (lt1_yes hc) ⟨⟨_, hp_g2 h23⟩, app_mk (hp_g2 h23) (by rw [List.length_map]; exact Nat.le_trans h2 p6) ⟨rfl, _, one1_get hc, ?_⟩⟩
    have plain := fun (he : isEscAt s p = false) => fo_step1 (R := foldS s s.length 0 0) (H := H) (p := p) (m := m) (f := f) (sg := sg) (og := og) (vs := vs) (c := c) (q := p + 1) (x5 := x5) (x6 := x6) h12 h13 h23 (by rw [hR, fold_plain hc he, app1, app1 (a := og)]) hlt (Nat.lt_succ_self p) hm h1 h2 hf
    by_cases h92 : c = 92
    · subst h92
      refine tst_neg (fun h => h rfl) (in_e1 (a := p + 1) (x := 10) (b := !isEscAt s p) ?_ (tst_b (fun hb => tst_dT ⟨⟨_, g1⟩, _, one1_get hc, app_mk g1 l1 ⟨rfl, _, Nat.sub_lt_sub_left hlt (Nat.lt_succ_self p), plain (by rw [← Bool.not_not (isEscAt s p), hb]; rfl)⟩⟩) (fun hb => tst_dF ?_)))
      · unfold isEscAt
        rw [hc, decide_eq_true rfl, Bool.true_and]
        cases s[p + 1]? with
        | none => exact ⟨fun _ => rfl, fun _ => .inl rfl⟩
        | some x =>
          show (some x = none ∨ some x = some 10) ↔ (!!decide (x = 10)) = true
          rw [Bool.not_not, decide_eq_true_eq]
          exact ⟨fun h => h.elim (fun h => nomatch h) Option.some.inj, fun h => .inr (congrArg some h)⟩
      · have he : isEscAt s p = true := by rw [← Bool.not_not (isEscAt s p), hb]; rfl
        obtain ⟨y, hy⟩ : ∃ y, s[p + 1]? = some y := by
          unfold isEscAt at he
          cases q : s[p + 1]? with
          | none => rw [q, Option.any_none, Bool.and_false] at he; cases he
          | some y => exact ⟨y, rfl⟩
        have hle := esc_le hy
        obtain ⟨g, n, hg⟩ : ∃ g n, escSpec (s.drop (p + 1)) = (g, n) := ⟨_, _, rfl⟩
        have e := E hy
        rw [hg] at hle e
        refine e.run ⟨rfl, tst_iff urlL_iff (fun hu => ⟨⟨_, g1⟩, app_mk g1 l1 ⟨rfl, ?_⟩⟩) (fun hu => len_mk g3 (keysM_len m) ⟨m11, set_mk1 g3 (keysM_new m) ?_ (by rw [keysM_len]; exact Nat.lt_trans m9 (by decide)) ?_⟩)⟩
        · exact ⟨_, Nat.sub_lt_sub_left hlt lt1_of, fo_step1 (R := foldS s s.length 0 0) (H := H) (p := p) (m := m) (f := f) (sg := sg) (og := og) (vs := vs) (c := g) (q := p + 1 + n) (x6 := x6) h12 h13 h23 (by rw [hR, fold_url hc he hg hu, app1, app1 (a := og)]) hle.1 lt1_of hm h1 h2 hf⟩
        · refine ⟨fun c hc => ?_, Nat.le_of_ble_eq_true rfl⟩
          cases List.mem_singleton.mp hc
          exact m11
        · exact ⟨⟨_, (upd_ne h13).trans g1⟩, app_mk ((upd_ne h13).trans g1) l1 ⟨rfl, _, Nat.sub_lt_sub_left hlt lt1_of, fo_step2 (R := foldS s s.length 0 0) (H := H) (p := p) (m := m) (f := f) (sg := sg) (og := og) (vs := vs) (g := g) (q := p + 1 + n) h12 h13 h23 (by rw [hR, fold_esc hc he hg hu, app1, app1 (a := og), app1 (a := vs), app1 (a := (List.range m).map _), List.range_succ, List.map_append]; rfl) hle.1 lt1_of hm h1 h2 hf⟩⟩
    · refine tst_pos (fun h => h92 (cons1 h)) (tst_dT ⟨⟨_, g1⟩, _, one1_get hc, app_mk g1 l1 ⟨rfl, _, Nat.sub_lt_sub_left hlt (Nat.lt_succ_self p), plain ?_⟩⟩)
      unfold isEscAt
      rw [hc, decide_eq_false (fun h => h92 (Option.some.inj h))]; rfl
end Mine
end
section
set_option backward.match.sparseCases false
namespace Mine
open PySem PySem.W
variable {B : Base} {T : Tab} {d : Nat}
theorem mapW_map {α : Type} {f : PV → KE → AH → Prop} {h g : α → PV} : ∀ {l : List α} {xs ys : List PV} {Q : KL} {H : AH}, l.map h = xs → l.map g = ys → (∀ a ∈ l, ∀ (Q : KE) (H : AH), Q (g a) H → f (h a) Q H) → Q ys H → mapW f xs Q H
  | [], _, _, _, _, e', e, _, hq => by subst e'; subst e; exact hq
  | a :: r, _, ys, Q, H, e', e, hf, hq => by
    subst e'; subst e
    exact hf a List.mem_cons_self _ H (mapW_map (ys := r.map g) (Q := fun rs H'' => Q (g a :: rs) H'') rfl rfl (fun b hb => hf b (List.mem_cons_of_mem _ hb)) hq)
noncomputable def Rd (A : Addr → Str → Option AttR) (c : Addr) (fs : List PV) (nm : Str) (p : PV) : Prop := ∃ i, A c nm = some (.slot i) ∧ fs[i]? = some p
structure At (A : Addr → Str → Option AttR) (c : Addr) (fs : List PV) (k : List Nat) (ln cn : Int) : Prop where
  ty : A c "type" = some (.val (.str k))
  ln : Rd A c fs "source_line" (.int ln)
  cn : Rd A c fs "source_column" (.int cn)
noncomputable def plG (tks : List (List Int)) (tvs : List PV) (ln cn : Int) : PV := (assocT [ln, cn] tks tvs).getD (.tup [.int ln, .int cn])
noncomputable def rowT (k : List Nat) (pl : PV) (v : List Nat) (flag below : PV) : PV := .tup [.str k, pl, .str v, flag, below]
noncomputable def kFn : List Nat := [102, 117, 110, 99, 116, 105, 111, 110]
noncomputable def kBl : List (List Nat) := [[40, 41, 32, 98, 108, 111, 99, 107], [91, 93, 32, 98, 108, 111, 99, 107], [123, 125, 32, 98, 108, 111, 99, 107]]
noncomputable def kEr : List Nat := [101, 114, 114, 111, 114]
noncomputable def kDi : List Nat := [100, 105, 109, 101, 110, 115, 105, 111, 110]
noncomputable def kNu : List Nat := [110, 117, 109, 98, 101, 114]
noncomputable def kPc : List Nat := [112, 101, 114, 99, 101, 110, 116, 97, 103, 101]
noncomputable def kHa : List Nat := [104, 97, 115, 104]
noncomputable def kVa : List (List Nat) := [[105, 100, 101, 110, 116], [97, 116, 45, 107, 101, 121, 119, 111, 114, 100], [115, 116, 114, 105, 110, 103], [117, 114, 108], [119, 104, 105, 116, 101, 115, 112, 97, 99, 101], [108, 105, 116, 101, 114, 97, 108]]
inductive TR (A : Addr → Str → Option AttR) (f : Nat → Nat) (pl : Int → Int → PV) (R : List PV → List PV → Prop) : PV → PV → Prop where
  | fn {c : Addr} {fs : List PV} {ln cn : Int} {v : List Nat} {xs ys : List PV} (a : At A c fs kFn ln cn) (n : Rd A c fs "name" (.str v)) (hv : v.length ≤ 100000) (x : Rd A c fs "arguments" (.lst xs)) (r : R xs ys) : TR A f pl R (.node c fs) (rowT kFn (pl ln cn) (v.map f) .none (.lst ys))
  | bl {c : Addr} {fs : List PV} {ln cn : Int} {k : List Nat} {xs ys : List PV} (hk : k ∈ kBl) (a : At A c fs k ln cn) (x : Rd A c fs "content" (.lst xs)) (r : R xs ys) : TR A f pl R (.node c fs) (rowT k (pl ln cn) [] .none (.lst ys))
  | er {c : Addr} {fs : List PV} {ln cn : Int} {m : List Nat} (a : At A c fs kEr ln cn) (x : Rd A c fs "kind" (.str m)) : TR A f pl R (.node c fs) (rowT kEr (pl ln cn) [] (.str m) .none)
  | di {c : Addr} {fs : List PV} {ln cn : Int} {v r : List Nat} {iv : Option Int} (a : At A c fs kDi ln cn) (n : Rd A c fs "unit" (.str v)) (hv : v.length ≤ 100000) (x : Rd A c fs "representation" (.str r)) (y : Rd A c fs "int_value" (ivPV iv)) : TR A f pl R (.node c fs) (rowT kDi (pl ln cn) (v.map f) (.tup [.str r, ivPV iv]) .none)
  | nu {c : Addr} {fs : List PV} {ln cn : Int} {k r : List Nat} {iv : Option Int} (hk : k = kNu ∨ k = kPc) (a : At A c fs k ln cn) (x : Rd A c fs "representation" (.str r)) (y : Rd A c fs "int_value" (ivPV iv)) : TR A f pl R (.node c fs) (rowT k (pl ln cn) [] (.tup [.str r, ivPV iv]) .none)
  | ha {c : Addr} {fs : List PV} {ln cn : Int} {v : List Nat} {b : Bool} (a : At A c fs kHa ln cn) (n : Rd A c fs "value" (.str v)) (hv : v.length ≤ 100000) (x : Rd A c fs "is_identifier" (.bool b)) : TR A f pl R (.node c fs) (rowT kHa (pl ln cn) (v.map f) (.bool b) .none)
  | va {c : Addr} {fs : List PV} {ln cn : Int} {k v : List Nat} (hk : k ∈ kVa) (a : At A c fs k ln cn) (n : Rd A c fs "value" (.str v)) (hv : v.length ≤ 100000) : TR A f pl R (.node c fs) (rowT k (pl ln cn) (v.map f) .none .none)
noncomputable def All2 (P : PV → PV → Prop) : List PV → List PV → Prop
  | [], ys => ys = []
  | x :: xs, ys => ∃ y r, ys = y :: r ∧ P x y ∧ All2 P xs r
noncomputable def TRs (A : Addr → Str → Option AttR) (f : Nat → Nat) (pl : Int → Int → PV) : Nat → List PV → List PV → Prop
  | 0 => fun a b => b.length ≤ 1000000 ∧ All2 (TR A f pl fun _ _ => False) a b
  | n + 1 => fun a b => b.length ≤ 1000000 ∧ All2 (TR A f pl (TRs A f pl n)) a b
noncomputable def MeanOK (ks : List (List Nat)) (vs : List PV) (f : Nat → Nat) : Prop := ∀ c, (assocP [c] ks vs).getD (.str [c]) = .str [f c]
theorem flat1 (f : Nat → Nat) : ∀ v : List Nat, (v.map fun c => [f c]).flatten = v.map f
  | [] => rfl
  | c :: r => congrArg (f c :: ·) (flat1 f r)
theorem va_no {k : List Nat} (h : k ∈ kVa) : ¬ k = kFn ∧ ¬ k ∈ kBl ∧ ¬ k = kEr ∧ ¬ k = kDi ∧ ¬ k = kNu ∧ ¬ k = kPc ∧ ¬ k = kHa := by
  have : ∀ k ∈ kVa, ¬ k = kFn ∧ ¬ k ∈ kBl ∧ ¬ k = kEr ∧ ¬ k = kDi ∧ ¬ k = kNu ∧ ¬ k = kPc ∧ ¬ k = kHa := by decide
  exact this k h
theorem nu_no {k : List Nat} (h : k = kNu ∨ k = kPc) : ¬ k = kFn ∧ ¬ k ∈ kBl ∧ ¬ k = kEr ∧ ¬ k = kDi := by
  rcases h with rfl | rfl <;> decide
theorem bl_no {k : List Nat} (h : k ∈ kBl) : ¬ k = kFn := by
  have : ∀ k ∈ kBl, ¬ k = kFn := by decide
  exact this k h
noncomputable def toldB : List MS := match w_law_told_1 with
  | .for1 _ _ b => b
  | _ => []
section
variable {ks : List (List Nat)} {vs : List PV} {tks : List (List Int)} {tvs : List PV} {f : Nat → Nat} (hM : MeanOK ks vs f) (hcel : T.cel "meaning" = some (.dct ks vs))
include hM hcel
theorem told_tail {l : Addr} {rows : List PV} {nd flag below : PV} {k v : List Nat} {ln cn : Int} {a0 : Option PV} {Q : KS} {H : AH} (hv : v.length ≤ 100000) (hget : H l = some (.list rows)) (hr : rows.length ≤ 1000000)
    (hq : ∀ a4 a5 a6 a7 a8 : Option PV, Q .next [a0, some (.tdc tks tvs), some (.ref l), some nd, a4, a5, a6, a7, a8] (H.upd l (.list (rows ++ [rowT k (plG tks tvs ln cn) (v.map f) flag below])))) :
    vcSs B T d r_law_told_1 Q [a0, some (.tdc tks tvs), some (.ref l), some nd, some (.str k), some (.tup [.int ln, .int cn]), some below, some flag, some (.str v)] H := by
  have e1 : (v.map fun c => PV.str [f c]) = chPV (v.map fun c => [f c]) := by unfold chPV; rw [List.map_map]; rfl
  have e2 := flat1 f v
  refine ⟨_, rfl, by rw [List.length_map]; lia, mapW_map (l := v) (h := fun c => .str [c]) (g := fun c => .str [f c]) rfl e1 (fun c hc Q H hq => ⟨_, hcel, (congrArg (fun x => Q x H) (hM c)).mpr hq⟩) ⟨_, allStr_chPV _, by rw [e2, List.length_map]; lia, ?_⟩⟩
  rw [e2]
  exact ⟨⟨_, hget⟩, ⟨[ln, cn], rfl, app_mk hget hr ⟨rfl, hq _ _ _ _ _⟩⟩⟩
theorem told_node {R : List PV → List PV → Prop} (ih : ∀ xs ys, R xs ys → Con B d "_law_told" [.lst xs, .dct ks vs, .tdc tks tvs] (.lst ys)) {x y : PV} (h : TR T.att f (plG tks tvs) R x y) {l : Addr} {rows : List PV} {a0 a4 a5 a6 a7 a8 : Option PV} {Q : KS} {H : AH} (hget : H l = some (.list rows)) (hr : rows.length ≤ 1000000)
    (hq : ∀ a3 a4 a5 a6 a7 a8 : Option PV, Q .next [a0, some (.tdc tks tvs), some (.ref l), a3, a4, a5, a6, a7, a8] (H.upd l (.list (rows ++ [y])))) :
    vcSs B T d toldB Q [a0, some (.tdc tks tvs), some (.ref l), some x, a4, a5, a6, a7, a8] H := by
  cases h with
  | fn a n hv z r =>
    obtain ⟨i1, g1, g2⟩ := a.ln
    obtain ⟨i2, g3, g4⟩ := a.cn
    obtain ⟨i3, g5, g6⟩ := n
    obtain ⟨i4, g7, g8⟩ := z
    exact ⟨_, a.ty, _, g1, _, g2, _, g3, _, g4, tst_pos rfl ⟨_, g5, _, g6, (ih _ _ r).b, _, g7, _, g8, _, hcel, (ih _ _ r).use (told_tail hM hcel hv hget hr (hq _))⟩⟩
  | bl hk a z r =>
    obtain ⟨i1, g1, g2⟩ := a.ln
    obtain ⟨i2, g3, g4⟩ := a.cn
    obtain ⟨i4, g7, g8⟩ := z
    exact ⟨_, a.ty, _, g1, _, g2, _, g3, _, g4, tst_neg (bl_no hk) (tst_pos hk ⟨(ih _ _ r).b, _, g7, _, g8, _, hcel, (ih _ _ r).use (told_tail hM hcel (v := []) (Nat.zero_le _) hget hr (hq _))⟩)⟩
  | er a z =>
    obtain ⟨i1, g1, g2⟩ := a.ln
    obtain ⟨i2, g3, g4⟩ := a.cn
    obtain ⟨i4, g7, g8⟩ := z
    exact ⟨_, a.ty, _, g1, _, g2, _, g3, _, g4, tst_neg (by decide) (tst_neg (by decide) (tst_pos rfl ⟨_, g7, _, g8, told_tail hM hcel (v := []) (Nat.zero_le _) hget hr (hq _)⟩))⟩
  | di a n hv z w =>
    obtain ⟨i1, g1, g2⟩ := a.ln
    obtain ⟨i2, g3, g4⟩ := a.cn
    obtain ⟨i3, g5, g6⟩ := n
    obtain ⟨i4, g7, g8⟩ := z
    obtain ⟨i5, g9, g10⟩ := w
    exact ⟨_, a.ty, _, g1, _, g2, _, g3, _, g4, tst_neg (by decide) (tst_neg (by decide) (tst_neg (by decide) (tst_pos rfl ⟨_, g5, _, g6, _, g7, _, g8, _, g9, _, g10, told_tail hM hcel hv hget hr (hq _)⟩)))⟩
  | nu hk a z w =>
    obtain ⟨i1, g1, g2⟩ := a.ln
    obtain ⟨i2, g3, g4⟩ := a.cn
    obtain ⟨i4, g7, g8⟩ := z
    obtain ⟨i5, g9, g10⟩ := w
    obtain ⟨k1, k2, k3, k4⟩ := nu_no hk
    refine ⟨_, a.ty, _, g1, _, g2, _, g3, _, g4, tst_neg k1 (tst_neg k2 (tst_neg k3 (tst_neg k4 (tst_both (fun h => tst_dT ?_) (fun h => tst_pos (hk.resolve_left h) (tst_dT ?_))))))⟩
    · exact ⟨_, g7, _, g8, _, g9, _, g10, told_tail hM hcel (v := []) (Nat.zero_le _) hget hr (hq _)⟩
    · exact ⟨_, g7, _, g8, _, g9, _, g10, told_tail hM hcel (v := []) (Nat.zero_le _) hget hr (hq _)⟩
  | ha a n hv z =>
    obtain ⟨i1, g1, g2⟩ := a.ln
    obtain ⟨i2, g3, g4⟩ := a.cn
    obtain ⟨i3, g5, g6⟩ := n
    obtain ⟨i4, g7, g8⟩ := z
    exact ⟨_, a.ty, _, g1, _, g2, _, g3, _, g4, tst_neg (by decide) (tst_neg (by decide) (tst_neg (by decide) (tst_neg (by decide) (tst_neg (by decide) (tst_neg (by decide) (tst_dF (tst_pos rfl ⟨_, g5, _, g6, _, g7, _, g8, told_tail hM hcel hv hget hr (hq _)⟩)))))))⟩
  | va hk a n hv =>
    obtain ⟨i1, g1, g2⟩ := a.ln
    obtain ⟨i2, g3, g4⟩ := a.cn
    obtain ⟨i3, g5, g6⟩ := n
    obtain ⟨k1, k2, k3, k4, k5, k6, k7⟩ := va_no hk
    exact ⟨_, a.ty, _, g1, _, g2, _, g3, _, g4, tst_neg k1 (tst_neg k2 (tst_neg k3 (tst_neg k4 (tst_neg k5 (tst_neg k6 (tst_dF (tst_neg k7 (tst_pos hk ⟨_, g5, _, g6, told_tail hM hcel hv hget hr (hq _)⟩))))))))⟩
end
noncomputable def toldI (R : PV → PV → Prop) (l : Addr) (a0 a1 : Option PV) (ys : List PV) (H : AH) (xs : List PV) (ρ : Loc) (H' : AH) : Prop :=
  ∃ (done rest : List PV) (a3 a4 a5 a6 a7 a8 : Option PV), ρ = [a0, a1, some (.ref l), a3, a4, a5, a6, a7, a8] ∧ H' = H.upd l (.list done) ∧ done ++ rest = ys ∧ All2 R xs rest
theorem told_lvl (G : GoodB B) (GT : GoodT B T) {fv : Value} (F : FnOKc B fv "nodes" "meaning" "places" v_law_told m_law_told) (hb : B.mg "_law_told" = some fv) {ks : List (List Nat)} {vs : List PV} {tks : List (List Int)} {tvs : List PV} {f : Nat → Nat} (hM : MeanOK ks vs f) {R : List PV → List PV → Prop}
    (ih : ∀ h, (∀ a o, B.heap.get? a = some o → h.get? a = some o) → ∀ xs ys, R xs ys → Con (rb B h) d "_law_told" [.lst xs, .dct ks vs, .tdc tks tvs] (.lst ys)) {xs ys : List PV} (hlen : ys.length ≤ 1000000) (h : All2 (TR T.att f (plG tks tvs) R) xs ys) : Con B (d + 1) "_law_told" [.lst xs, .dct ks vs, .tdc tks tvs] (.lst ys) := by
  refine ⟨fv, hb, F.keep, fun H => (callCell (T := T) (H := H) (Q := keq (.lst ys) H) (p0 := .lst xs) (pm := .dct ks vs) (p2 := .tdc tks tvs) G GT F fun hh hx l hl => for_mk (toldI (TR T.att f (plG tks tvs) R) l _ _ ys H) ⟨[], ys, _, _, _, _, _, _, rfl, rfl, rfl, h⟩ ?_ ?_).sem⟩
  · rintro x r ρ H' ⟨done, rest, a3, a4, a5, a6, a7, a8, rfl, rfl, hd, ha⟩
    obtain ⟨y, r', rfl, hy, hr⟩ := ha
    have hdl : done.length ≤ 1000000 := by
      have := congrArg List.length hd
      rw [List.length_append] at this; lia
    refine told_node (T := { T with cel := fun nm => if nm = "meaning" then some (.dct ks vs) else none }) hM (by show (if ("meaning" : Str) = "meaning" then some (PV.dct ks vs) else none) = _; exact if_pos rfl) (ih hh hx) hy (upd_self ..) hdl fun a3 a4 a5 a6 a7 a8 => ⟨done ++ [y], r', a3, a4, a5, a6, a7, a8, rfl, upd_upd .., ?_, hr⟩
    rw [← hd, List.append_assoc]; rfl
  · rintro ρ H' ⟨done, rest, a3, a4, a5, a6, a7, a8, rfl, rfl, hd, ha⟩
    cases ha
    rw [List.append_nil] at hd
    subst hd
    exact ⟨_, upd_self .., rfl, del_upd hl _⟩
theorem told_ok (G : GoodB B) (GT : GoodT B T) {fv : Value} (F : FnOKc B fv "nodes" "meaning" "places" v_law_told m_law_told) (hb : B.mg "_law_told" = some fv) {ks : List (List Nat)} {vs : List PV} {tks : List (List Int)} {tvs : List PV} {f : Nat → Nat} (hM : MeanOK ks vs f) :
    ∀ (n : Nat) (h : Heap), (∀ a o, B.heap.get? a = some o → h.get? a = some o) → ∀ xs ys, TRs T.att f (plG tks tvs) n xs ys → Con (rb B h) (d + n + 1) "_law_told" [.lst xs, .dct ks vs, .tdc tks tvs] (.lst ys)
  | 0, h, hx, xs, ys, r => told_lvl (G.up hx) (GT.up hx) (F.up hx) hb hM (fun _ _ _ _ k => k.elim) r.1 r.2
  | n + 1, h, hx, xs, ys, r => told_lvl (G.up hx) (GT.up hx) (F.up hx) hb hM (fun h' hx' xs ys k => told_ok G GT F hb hM n h' (fun a o e => hx' a o (hx a o e)) xs ys k) r.1 r.2
end Mine
end
section
set_option backward.match.sparseCases false
namespace Mine
open PySem PySem.W
noncomputable def letter (c : Nat) : Prop := 57344 ≤ c ∨ urlL c = true
inductive Cs (s F : List Nat) (f : Nat → Nat) (A : Nat → Nat → Prop) (p q : Nat) : Prop where
  | nil (h1 : s[p]? = none) (h2 : F[q]? = none)
  | pl (c : Nat) (h1 : s[p]? = some c) (h2 : F[q]? = some c) (h3 : c = 92 → (s[p + 1]? = none ∧ F[q + 1]? = none) ∨ (s[p + 1]? = some 10 ∧ F[q + 1]? = some 10)) (h4 : f c = c) (h5 : A (p + 1) (q + 1))
  | es (x y : Nat) (h1 : s[p]? = some 92) (h2 : s[p + 1]? = some y) (h3 : y ≠ 10) (h4 : F[q]? = some x) (h5 : letter x) (h6 : f x = (escSpec (s.drop (p + 1))).1) (h7 : A (p + 1 + (escSpec (s.drop (p + 1))).2) (q + 1))
structure Al (s F : List Nat) (f : Nat → Nat) (A : Nat → Nat → Prop) : Prop where
  cs : ∀ {p q : Nat}, A p q → Cs s F f A p q
  le : ∀ {p q : Nat}, A p q → p ≤ s.length ∧ q ≤ F.length
  bad : f 65533 = 65533
  low : ∀ {c : Nat}, c < 57344 → f c = c
  url : ∀ x, urlL x = true ∨ urlL (f x) = true → f x = x
  esc : ∀ {p : Nat}, s[p]? = some 92 → s[p + 1]? = some 92 → ¬ s[p + 2]? = some 41
noncomputable def ltr0 (c : Nat) : Bool := decide (c < 57344) && !urlL c
theorem letter_ne {x c : Nat} (h : letter x) (k : ltr0 c = true) : ¬ x = c := by
  rintro rfl
  obtain ⟨h1, h2⟩ := Bool.and_eq_true_iff.mp k
  have h1 := of_decide_eq_true h1
  rcases h with h | h
  · lia
  · rw [h] at h2; cases h2
theorem letter_cls {P : Nat → Bool} {v : Bool} (h1 : ([117, 85, 114, 82, 108, 76].all fun c => P c == v) = true) (h2 : ∀ x, 57344 ≤ x → P x = v) {x : Nat} (h : letter x) : P x = v := by
  rcases h with h | h
  · exact h2 x h
  · refine beq_iff_eq.mp (List.all_eq_true.mp h1 x ?_)
    rcases of_decide_eq_true h with h | h | h | h | h | h <;> subst h <;> decide
theorem letter_NS {x : Nat} (h : letter x) : isNS x = true := letter_cls (by decide) (fun x hx => by unfold isNS; rw [decide_eq_true (show 127 < x by lia), Bool.or_true]) h
theorem letter_NC {x : Nat} (h : letter x) : isNC x = true := letter_cls (by decide) (fun x hx => by unfold isNC; rw [decide_eq_true (show 127 < x by lia), Bool.or_true]) h
theorem letter_Bl {x : Nat} (h : letter x) : isBl x = false := letter_cls (by decide) (fun x hx => decide_eq_false fun h => by
  rcases List.mem_cons.mp h with h | h
  · lia
  · rcases List.mem_cons.mp h with h | h
    · lia
    · cases List.mem_singleton.mp h; lia) h
theorem letter_Dig {x : Nat} (h : letter x) : isDig x = false := letter_cls (P := isDig) (by decide) (fun x hx => decide_eq_false (by lia)) h
theorem letter_Us {x : Nat} (h : letter x) : ¬ x ∈ badUs := of_decide_eq_false (letter_cls (P := fun x => decide (x ∈ badUs)) (by decide) (fun x hx => decide_eq_false fun h => by
  have h3 : (badUs.all fun c => decide (c < 128)) = true := by decide
  have := of_decide_eq_true (List.all_eq_true.mp h3 x h)
  lia) h)
section
variable {s F : List Nat} {f : Nat → Nat} {A : Nat → Nat → Prop} {p q : Nat}
theorem al_ind (X : Al s F f A) {C : Nat → Nat → Prop} (h : ∀ p q, A p q → (∀ p' q', A p' q' → p < p' → C p' q') → C p q) : ∀ {p q : Nat}, A p q → C p q := by
  have : ∀ (n p q : Nat), s.length - p < n → A p q → C p q := by
    intro n
    induction n with
    | zero => intro p q h; cases h
    | succ n ih => exact fun p q hn a => h p q a fun p' q' a' hp => ih p' q' (Nat.lt_of_lt_of_le (Nat.sub_lt_sub_left (Nat.lt_of_lt_of_le hp (X.le a').1) hp) (Nat.le_of_lt_succ hn)) a'
  exact fun {p q} a => this _ _ _ (Nat.lt_succ_self _) a
structure Rn (s F : List Nat) (f : Nat → Nat) (A : Nat → Nat → Prop) (p q k : Nat) : Prop where
  al : A (p + k) (q + k)
  eq : (s.drop p).take k = (F.drop q).take k
  mp : (s.drop p).take k = ((F.drop q).take k).map f
theorem Rn.zero (a : A p q) : Rn s F f A p q 0 := ⟨a, rfl, rfl⟩
theorem Rn.trans {k m : Nat} (h : Rn s F f A p q k) (g : Rn s F f A (p + k) (q + k) m) : Rn s F f A p q (k + m) := by
  refine ⟨by rw [← Nat.add_assoc, ← Nat.add_assoc]; exact g.al, ?_, ?_⟩
  · rw [List.take_add, List.take_add, List.drop_drop, List.drop_drop, h.eq, g.eq]
  · rw [List.take_add, List.take_add, List.drop_drop, List.drop_drop, List.map_append, h.mp, g.mp]
theorem Rn.one {c : Nat} (h1 : s[p]? = some c) (h2 : F[q]? = some c) (h4 : f c = c) (h5 : A (p + 1) (q + 1)) : Rn s F f A p q 1 := by
  refine ⟨h5, ?_, ?_⟩
  · rw [drop_get h1, drop_get h2]; rfl
  · rw [drop_get h1, drop_get h2]; exact congrArg (fun x => [x]) h4.symm
theorem run_al (X : Al s F f A) {P : Nat → Bool} {R : List Nat → Nat} (h0 : R [] = 0) (hR : ∀ c r, R (c :: r) = if P c = true then R r + 1 else 0) (h92 : P 92 = false) (hl : ∀ {x}, letter x → P x = false) : A p q → R (s.drop p) = R (F.drop q) ∧ Rn s F f A p q (R (F.drop q)) := by
  refine al_ind X (C := fun p q => R (s.drop p) = R (F.drop q) ∧ Rn s F f A p q (R (F.drop q))) fun p q a ih => ?_
  cases X.cs a with
  | nil h1 h2 => rw [drop_none h1, drop_none h2, h0]; exact ⟨rfl, .zero a⟩
  | pl c h1 h2 h3 h4 h5 =>
    rw [drop_get h1, drop_get h2, hR, hR]
    cases P c with
    | false => exact ⟨rfl, .zero a⟩
    | true =>
      obtain ⟨e1, e2⟩ := ih _ _ h5 (Nat.lt_succ_self _)
      rw [if_pos rfl, if_pos rfl, e1, Nat.add_comm]
      exact ⟨rfl, (Rn.one h1 h2 h4 h5).trans e2⟩
  | es x y h1 h2 h3 h4 h5 h6 h7 =>
    rw [drop_get h1, drop_get h4, hR, hR, h92, hl h5]; exact ⟨rfl, .zero a⟩
theorem ws_al (X : Al s F f A) (a : A p q) : wsRun (s.drop p) = wsRun (F.drop q) ∧ Rn s F f A p q (wsRun (F.drop q)) := run_al X rfl (fun xx xx => rfl) (by decide) letter_Bl a
theorem dig_al (X : Al s F f A) (a : A p q) : digRun (s.drop p) = digRun (F.drop q) ∧ Rn s F f A p q (digRun (F.drop q)) := run_al X rfl (fun xx xx => rfl) (by decide) letter_Dig a
theorem one_al (X : Al s F f A) {P : Nat → Bool} (h92 : P 92 = false) (hl : ∀ {x}, letter x → P x = false) (a : A p q) : (s[p]?).any P = (F[q]?).any P ∧ ((F[q]?).any P = true → Rn s F f A p q 1) := by
  cases X.cs a with
  | nil h1 h2 => rw [h1, h2]; exact ⟨rfl, fun h => nomatch h⟩
  | pl c h1 h2 h3 h4 h5 =>
    have r := Rn.one h1 h2 h4 h5
    rw [h1, h2]; exact ⟨rfl, fun h => r⟩
  | es x y h1 h2 h3 h4 h5 h6 h7 =>
    rw [h1, h4, Option.any_some, Option.any_some, h92, hl h5]
    exact ⟨rfl, fun h => nomatch h⟩
theorem is_al (X : Al s F f A) {c : Nat} (hc : ltr0 c = true) (h92 : ¬ c = 92) (a : A p q) : (s[p]? = some c ↔ F[q]? = some c) ∧ (F[q]? = some c → Rn s F f A p q 1) := by
  cases X.cs a with
  | nil h1 h2 => rw [h1, h2]; exact ⟨Iff.rfl, fun h => nomatch h⟩
  | pl c h1 h2 h3 h4 h5 =>
    have r := Rn.one h1 h2 h4 h5
    rw [h1, h2]; exact ⟨Iff.rfl, fun h => r⟩
  | es x y h1 h2 h3 h4 h5 h6 h7 =>
    rw [h1, h4]
    exact ⟨⟨fun h => (h92 (Option.some.inj h).symm).elim, fun h => (letter_ne h5 hc (Option.some.inj h)).elim⟩, fun h => (letter_ne h5 hc (Option.some.inj h)).elim⟩
theorem hd {s : List Nat} {p : Nat} {o : Option Nat} (h : s[p]? = o) : (s.drop p).head? = o := by rw [List.head?_drop, h]
theorem id_al (X : Al s F f A) : A p q → (identSpec (s.drop p)).1 = (identSpec (F.drop q)).1.map f ∧ A (p + (identSpec (s.drop p)).2) (q + (identSpec (F.drop q)).2) := by
  refine al_ind X (C := fun p q => (identSpec (s.drop p)).1 = (identSpec (F.drop q)).1.map f ∧ A (p + (identSpec (s.drop p)).2) (q + (identSpec (F.drop q)).2)) fun p q a ih => ?_
  cases X.cs a with
  | nil h1 h2 => rw [drop_none h1, drop_none h2, identSpec_nil]; exact ⟨rfl, a⟩
  | pl c h1 h2 h3 h4 h5 =>
    rw [drop_get h1, drop_get h2]
    cases hc : isNC c with
    | true =>
      obtain ⟨e1, e2⟩ := ih _ _ h5 (Nat.lt_succ_self _)
      rw [identSpec_nc hc, identSpec_nc hc, e1]
      rw [Nat.add_assoc p, Nat.add_assoc q, Nat.add_comm 1, Nat.add_comm 1] at e2
      exact ⟨congrArg (· :: _) h4.symm, e2⟩
    | false =>
      by_cases h92 : c = 92
      · subst h92
        rcases h3 rfl with ⟨k1, k2⟩ | ⟨k1, k2⟩
        · rw [drop_none k1, drop_none k2, identSpec_esc (r := []) (fun h => nomatch h)]
          show [65533] ++ (identSpec []).1 = ([65533] ++ (identSpec []).1).map f ∧ A (p + ((identSpec []).2 + 0 + 1)) (q + ((identSpec []).2 + 0 + 1))
          rw [identSpec_nil]
          exact ⟨congrArg (fun x => [x]) X.bad.symm, h5⟩
        · rw [identSpec_stop hc fun h => h.2 (hd k1), identSpec_stop hc fun h => h.2 (hd k2)]
          exact ⟨rfl, a⟩
      · rw [identSpec_stop hc fun h => h92 h.1, identSpec_stop hc fun h => h92 h.1]
        exact ⟨rfl, a⟩
  | es x y h1 h2 h3 h4 h5 h6 h7 =>
    obtain ⟨e1, e2⟩ := ih _ _ h7 (by lia)
    rw [drop_get h1, drop_get h4, identSpec_nc (letter_NC h5), identSpec_esc (fun h => h3 (Option.some.inj ((hd h2).symm.trans h))), List.drop_drop, e1, ← h6]
    refine ⟨rfl, ?_⟩
    generalize (identSpec (s.drop (p + 1 + (escSpec (s.drop (p + 1))).2))).2 = n at *
    generalize (identSpec (F.drop (q + 1))).2 = m at *
    rw [show p + (n + (escSpec (s.drop (p + 1))).2 + 1) = p + 1 + (escSpec (s.drop (p + 1))).2 + n by lia, show q + (m + 1) = q + 1 + m by lia]
    exact e2
theorem is_start_al (X : Al s F f A) (a : A p q) : identStart (s.drop p) = identStart (F.drop q) := by
  cases X.cs a with
  | nil h1 h2 => rw [drop_none h1, drop_none h2]
  | pl c h1 h2 h3 h4 h5 =>
    rw [drop_get h1, drop_get h2]
    unfold identStart
    dsimp only
    by_cases h92 : c = 92
    · subst h92
      rcases h3 rfl with ⟨k1, k2⟩ | ⟨k1, k2⟩
      · rw [hd k1, hd k2]; rfl
      · rw [hd k1, hd k2]; rfl
    rw [if_neg h92, if_neg h92]
    refine ite_congr rfl (fun _ => rfl) fun _ => ite_congr rfl (fun _ => ?_) fun _ => rfl
    cases X.cs h5 with
    | nil h1 h2 => rw [drop_none h1, drop_none h2]
    | pl c h1 h2 h3 h4 h5 =>
      rw [drop_get h1, drop_get h2]
      dsimp only
      by_cases h92 : c = 92
      · subst h92
        rcases h3 rfl with ⟨k1, k2⟩ | ⟨k1, k2⟩
        · rw [hd k1, hd k2]
        · rw [hd k1, hd k2]
      · rw [decide_eq_false h92]; rfl
    | es x y h1 h2 h3 h4 h5 h6 h7 =>
      rw [drop_get h1, drop_get h4]
      dsimp only
      rw [letter_NS h5, hd h2, decide_eq_false fun h => h3 (Option.some.inj h)]; rfl
  | es x y h1 h2 h3 h4 h5 h6 h7 =>
    rw [drop_get h1, drop_get h4]
    unfold identStart
    dsimp only
    rw [letter_NS h5, hd h2, decide_eq_false fun h => h3 (Option.some.inj h)]; rfl
theorem h_start_al (X : Al s F f A) (a : A p q) : hashStart (s.drop p) = hashStart (F.drop q) := by
  cases X.cs a with
  | nil h1 h2 => rw [drop_none h1, drop_none h2]
  | pl c h1 h2 h3 h4 h5 =>
    rw [drop_get h1, drop_get h2]
    unfold hashStart
    dsimp only
    by_cases h92 : c = 92
    · subst h92
      rcases h3 rfl with ⟨k1, k2⟩ | ⟨k1, k2⟩
      · rw [hd k1, hd k2]
      · rw [hd k1, hd k2]
    · rw [decide_eq_false h92]; rfl
  | es x y h1 h2 h3 h4 h5 h6 h7 =>
    rw [drop_get h1, drop_get h4]
    unfold hashStart
    dsimp only
    rw [letter_NC h5, hd h2, decide_eq_false fun h => h3 (Option.some.inj h)]; rfl
end
end Mine
end
section
set_option backward.match.sparseCases false
namespace Mine
open PySem PySem.W
section
variable {s F : List Nat} {f : Nat → Nat} {A : Nat → Nat → Prop} {p q : Nat}
noncomputable def Ov (f : Nat → Nat) (A : Nat → Nat → Prop) (p q : Nat) (x y : Option (List Nat) × Nat × Nat) : Prop := x.1 = y.1.map (List.map f) ∧ A (p + x.2.1) (q + y.2.1) ∧ x.2.2 = y.2.2
theorem Ov.cons {c d i j : Nat} {x y : Option (List Nat) × Nat × Nat} (h : Ov f A (p + i) (q + j) x y) (e : f d = c) : Ov f A p q (x.1.map (c :: ·), x.2.1 + i, x.2.2) (y.1.map (d :: ·), y.2.1 + j, y.2.2) := by
  obtain ⟨x1, x2, x3⟩ := x
  obtain ⟨y1, y2, y3⟩ := y
  obtain ⟨h1, h2, h3⟩ := h
  dsimp only at h1 h2 h3
  subst h1 e
  refine ⟨?_, ?_, h3⟩
  · cases y1 <;> rfl
  · show A (p + (x2 + i)) (q + (y2 + j))
    rw [Nat.add_comm x2, Nat.add_comm y2, ← Nat.add_assoc, ← Nat.add_assoc]; exact h2
theorem Ov.skip {i j : Nat} {x y : Option (List Nat) × Nat × Nat} (h : Ov f A (p + i) (q + j) x y) : Ov f A p q (x.1, x.2.1 + i, x.2.2) (y.1, y.2.1 + j, y.2.2) :=
  ⟨h.1, by show A (p + (x.2.1 + i)) (q + (y.2.1 + j)); rw [Nat.add_comm x.2.1, Nat.add_comm y.2.1, ← Nat.add_assoc, ← Nat.add_assoc]; exact h.2.1, h.2.2⟩
theorem quo_al (X : Al s F f A) {t : Nat} (ht : ltr0 t = true) (h92 : ¬ 92 = t) : A p q → Ov f A p q (quotedSpec t (s.drop p)) (quotedSpec t (F.drop q)) := by
  refine al_ind X (C := fun p q => Ov f A p q (quotedSpec t (s.drop p)) (quotedSpec t (F.drop q))) fun p q a ih => ?_
  cases X.cs a with
  | nil h1 h2 => rw [drop_none h1, drop_none h2, qs_nil]; exact ⟨rfl, a, rfl⟩
  | pl c h1 h2 h3 h4 h5 =>
    rw [drop_get h1, drop_get h2]
    by_cases ht' : c = t
    · subst ht'; rw [qs_q, qs_q]; exact ⟨rfl, h5, rfl⟩
    by_cases hc : c = 92
    · subst hc
      rw [qs_bs h92, qs_bs h92]
      rcases h3 rfl with ⟨k1, k2⟩ | ⟨k1, k2⟩
      · rw [drop_none k1, drop_none k2]; exact ⟨rfl, h5, rfl⟩
      · rw [drop_get k1, drop_get k2, if_neg (List.cons_ne_nil _ _), if_neg (List.cons_ne_nil _ _), if_pos (show (10 :: List.drop (p + 1 + 1) s).head? = some 10 from rfl), if_pos (show (10 :: List.drop (q + 1 + 1) F).head? = some 10 from rfl)]
        cases X.cs h5 with
        | nil h1 h2 => rw [h1] at k1; cases k1
        | es x y h1 => rw [h1] at k1; cases k1
        | pl c h1 h2 h3 h4 h5 => exact Ov.skip (ih _ _ h5 (by lia))
    by_cases h10 : c = 10
    · subst h10
      rw [qs_nl ht', qs_nl ht']; exact ⟨rfl, a, rfl⟩
    · rw [qs_ch ht' hc h10, qs_ch ht' hc h10]
      exact (ih _ _ h5 (Nat.lt_succ_self _)).cons h4
  | es x y h1 h2 h3 h4 h5 h6 h7 =>
    rw [drop_get h1, drop_get h4, qs_bs h92, qs_ch (letter_ne h5 ht) (letter_ne h5 (by decide)) (letter_ne h5 (by decide)), if_neg (by rw [drop_get h2]; exact List.cons_ne_nil _ _), if_neg fun h => h3 (Option.some.inj ((hd h2).symm.trans h)), List.drop_drop]
    exact ((show p + 1 + (escSpec (s.drop (p + 1))).2 = p + ((escSpec (s.drop (p + 1))).2 + 1) by lia) ▸ ih _ _ h7 (by lia) : Ov f A (p + ((escSpec (s.drop (p + 1))).2 + 1)) (q + 1) _ _).cons h6
noncomputable def Gv (f : Nat → Nat) (A : Nat → Nat → Prop) (p q : Nat) (x y : List Nat × Nat × Nat) : Prop := x.1 = y.1.map f ∧ A (p + x.2.1) (q + y.2.1) ∧ x.2.2 = y.2.2
theorem Gv.cons {c d i j : Nat} {x y : List Nat × Nat × Nat} (h : Gv f A (p + i) (q + j) x y) (e : f d = c) : Gv f A p q (c :: x.1, x.2.1 + i, x.2.2) (d :: y.1, y.2.1 + j, y.2.2) := by
  obtain ⟨x1, x2, x3⟩ := x
  obtain ⟨y1, y2, y3⟩ := y
  obtain ⟨h1, h2, h3⟩ := h
  dsimp only at h1 h2 h3
  subst h1 e
  refine ⟨rfl, ?_, h3⟩
  show A (p + (x2 + i)) (q + (y2 + j))
  rw [Nat.add_comm x2, Nat.add_comm y2, ← Nat.add_assoc, ← Nat.add_assoc]; exact h2
theorem ug_41 {r : List Nat} : urlGo (41 :: r) 0 = ([], 1, 1) := by rw [urlGo, if_pos rfl]
theorem ug_bl {c : Nat} {r : List Nat} (h1 : ¬ c = 41) (h : isBl c = true) : urlGo (c :: r) 0 = ([], 1, 2) := by rw [urlGo, if_neg h1, if_pos h]
theorem ug_es {r : List Nat} (h : ¬ r.head? = some 10) : urlGo (92 :: r) 0 = ((escSpec r).1 :: (urlGo (r.drop (escSpec r).2) 0).1, (urlGo (r.drop (escSpec r).2) 0).2.1 + ((escSpec r).2 + 1), (urlGo (r.drop (escSpec r).2) 0).2.2) := by
  rw [urlGo, if_neg (by decide), if_neg (by decide), if_pos ⟨rfl, h⟩, urlGo_skip _ _ (escSpec_le r).1]; rfl
theorem ug_us {c : Nat} {r : List Nat} (h1 : ¬ c = 41) (h2 : isBl c = false) (h3 : ¬ c = 92) (h : c ∈ badUs) : urlGo (c :: r) 0 = ([], 1, 3) := by rw [urlGo, if_neg h1, if_neg (by rw [h2]; exact Bool.false_ne_true), if_neg fun h => h3 h.1, if_pos h]
theorem ug_ch {c : Nat} {r : List Nat} (h1 : ¬ c = 41) (h2 : isBl c = false) (h3 : ¬ (c = 92 ∧ ¬ r.head? = some 10)) (h : ¬ c ∈ badUs) : urlGo (c :: r) 0 = (c :: (urlGo r 0).1, (urlGo r 0).2.1 + 1, (urlGo r 0).2.2) := by rw [urlGo, if_neg h1, if_neg (by rw [h2]; exact Bool.false_ne_true), if_neg h3, if_neg h]
theorem ug_al (X : Al s F f A) : A p q → Gv f A p q (urlGo (s.drop p) 0) (urlGo (F.drop q) 0) := by
  refine al_ind X (C := fun p q => Gv f A p q (urlGo (s.drop p) 0) (urlGo (F.drop q) 0)) fun p q a ih => ?_
  cases X.cs a with
  | nil h1 h2 => rw [drop_none h1, drop_none h2]; exact ⟨rfl, a, rfl⟩
  | pl c h1 h2 h3 h4 h5 =>
    rw [drop_get h1, drop_get h2]
    by_cases h41 : c = 41
    · subst h41; rw [ug_41, ug_41]; exact ⟨rfl, h5, rfl⟩
    cases hb : isBl c with
    | true => rw [ug_bl h41 hb, ug_bl h41 hb]; exact ⟨rfl, h5, rfl⟩
    | false =>
    by_cases hc : c = 92
    · subst hc
      rcases h3 rfl with ⟨k1, k2⟩ | ⟨k1, k2⟩
      · rw [drop_none k1, drop_none k2, ug_es (r := []) (fun h => nomatch h)]
        exact ⟨congrArg (fun x => [x]) X.bad.symm, h5, rfl⟩
      · rw [ug_ch h41 hb (fun h => h.2 (hd k1)) (by decide), ug_ch h41 hb (fun h => h.2 (hd k2)) (by decide)]
        exact (ih _ _ h5 (Nat.lt_succ_self _)).cons h4
    by_cases hu : c ∈ badUs
    · rw [ug_us h41 hb hc hu, ug_us h41 hb hc hu]; exact ⟨rfl, h5, rfl⟩
    · rw [ug_ch h41 hb (fun h => hc h.1) hu, ug_ch h41 hb (fun h => hc h.1) hu]
      exact (ih _ _ h5 (Nat.lt_succ_self _)).cons h4
  | es x y h1 h2 h3 h4 h5 h6 h7 =>
    rw [drop_get h1, drop_get h4, ug_es (fun h => h3 (Option.some.inj ((hd h2).symm.trans h))), ug_ch (letter_ne h5 (by decide)) (letter_Bl h5) (fun h => letter_ne h5 (by decide) h.1) (letter_Us h5), List.drop_drop]
    exact ((show p + 1 + (escSpec (s.drop (p + 1))).2 = p + ((escSpec (s.drop (p + 1))).2 + 1) by lia) ▸ ih _ _ h7 (by lia) : Gv f A (p + ((escSpec (s.drop (p + 1))).2 + 1)) (q + 1) _ _).cons h6
theorem rem_ch {c : Nat} {r : List Nat} (h : ¬ (c = 92 ∧ r.head? = some 41)) (h2 : ¬ c = 41) : remGo (c :: r) false = remGo r false + 1 := by rw [remGo, if_neg Bool.false_ne_true, if_neg h, if_neg h2]
theorem rem_skip : ∀ (k : Nat) (l : List Nat), k ≤ l.length → (∀ c ∈ l.take k, ¬ c = 92 ∧ ¬ c = 41) → remGo l false = remGo (l.drop k) false + k
  | 0, _, _, _ => rfl
  | k + 1, [], h, _ => nomatch h
  | k + 1, c :: r, h, h2 => by
    obtain ⟨n1, n2⟩ := h2 c List.mem_cons_self
    rw [rem_ch (fun h => n1 h.1) n2, rem_skip k r (Nat.le_of_succ_le_succ h) fun c hc => h2 c (List.mem_cons_of_mem _ hc)]; rfl
theorem rem_esc {r : List Nat} {y : Nat} (hy : r.head? = some y) (hn : y = 92 → ¬ r[1]? = some 41) : remGo (92 :: r) false = remGo (r.drop (escSpec r).2) false + (escSpec r).2 + 1 := by
  cases r with
  | nil => cases hy
  | cons c r =>
    cases hy
    obtain ⟨l1, l2, l3⟩ := hexRun_le 6 (y :: r)
    have hx : ∀ c, isHex c = true → ¬ c = 92 ∧ ¬ c = 41 := fun c h => ⟨fun e => by subst e; revert h; decide, fun e => by subst e; revert h; decide⟩
    unfold escSpec
    by_cases h0 : 0 < hexRun 6 (y :: r)
    · rw [if_pos h0]
      dsimp only
      have hyx : isHex y = true := by
        rw [hexRun] at h0
        by_cases e : isHex y = true
        · exact e
        · rw [if_neg e] at h0; exact (Nat.lt_irrefl 0 h0).elim
      rw [rem_ch (c := 92) (r := y :: r) (fun h => (hx y hyx).2 (Option.some.inj h.2)) (by decide)]
      cases hb : blankAt (y :: r) (hexRun 6 (y :: r)) with
      | false => exact congrArg (· + 1) (rem_skip _ _ l2 fun c hc => hx c (l3 c hc))
      | true =>
        unfold blankAt at hb
        cases hg : (y :: r)[hexRun 6 (y :: r)]? with
        | none => rw [hg] at hb; cases hb
        | some z =>
          rw [hg] at hb
          rw [if_pos rfl]
          refine congrArg (· + 1) (rem_skip _ _ (get_lt hg) fun c hc => ?_)
          rw [List.take_succ, hg] at hc
          rcases List.mem_append.mp hc with hc | hc
          · exact hx c (l3 c hc)
          · cases List.mem_singleton.mp hc
            have hb := of_decide_eq_true hb
            refine ⟨fun e => ?_, fun e => ?_⟩ <;> subst e <;> revert hb <;> decide
    · rw [if_neg h0]
      dsimp only
      by_cases h41 : y = 41
      · subst h41
        rw [remGo, if_neg Bool.false_ne_true, if_pos ⟨rfl, rfl⟩, remGo, if_pos rfl]; rfl
      · rw [rem_ch (c := 92) (r := y :: r) (fun h => h41 (Option.some.inj h.2)) (by decide), rem_ch (fun h => hn h.1 (by rw [← h.2, List.head?_eq_getElem?]; rfl)) h41]; rfl
theorem rem_al (X : Al s F f A) : A p q → A (p + remGo (s.drop p) false) (q + remGo (F.drop q) false) := by
  refine al_ind X (C := fun p q => A (p + remGo (s.drop p) false) (q + remGo (F.drop q) false)) fun p q a ih => ?_
  have up : ∀ {i j n m : Nat}, A (p + i + n) (q + j + m) → A (p + (n + i)) (q + (m + j)) := fun {i j n m} h => by rw [Nat.add_comm n, Nat.add_comm m, ← Nat.add_assoc, ← Nat.add_assoc]; exact h
  cases X.cs a with
  | nil h1 h2 => rw [drop_none h1, drop_none h2]; exact a
  | pl c h1 h2 h3 h4 h5 =>
    rw [drop_get h1, drop_get h2]
    by_cases h41 : c = 41
    · subst h41; exact h5
    have n1 : ¬ (c = 92 ∧ (s.drop (p + 1)).head? = some 41) := fun h => by
      rcases h3 h.1 with ⟨k1, k2⟩ | ⟨k1, k2⟩
      · rw [hd k1] at h; exact nomatch h.2
      · rw [hd k1] at h; exact absurd h.2 (by decide)
    have n2 : ¬ (c = 92 ∧ (F.drop (q + 1)).head? = some 41) := fun h => by
      rcases h3 h.1 with ⟨k1, k2⟩ | ⟨k1, k2⟩
      · rw [hd k2] at h; exact nomatch h.2
      · rw [hd k2] at h; exact absurd h.2 (by decide)
    rw [rem_ch n1 h41, rem_ch n2 h41]
    exact up (ih _ _ h5 (Nat.lt_succ_self _))
  | es x y h1 h2 h3 h4 h5 h6 h7 =>
    rw [drop_get h1, drop_get h4, rem_esc (hd h2) fun e => ?_, rem_ch (fun h => letter_ne h5 (by decide) h.1) (letter_ne h5 (by decide)), List.drop_drop]
    · exact up (i := (escSpec (s.drop (p + 1))).2 + 1) (by rw [Nat.add_comm _ 1, ← Nat.add_assoc]; exact ih _ _ h7 (by lia))
    · subst e
      rw [List.getElem?_drop]
      exact X.esc h1 h2
theorem bad_al (X : Al s F f A) (a : A p q) : Ov f A 0 0 (badAt s p) (badAt F q) := ⟨rfl, by rw [Nat.zero_add, Nat.zero_add]; exact rem_al X a, rfl⟩
theorem ov_mk {v w : Option (List Nat)} {e : Nat} (h : v = w.map (List.map f)) (a : A p q) : Ov f A 0 0 (v, p, e) (w, q, e) := ⟨h, by rw [Nat.zero_add, Nat.zero_add]; exact a, rfl⟩
theorem ufin_al (X : Al s F f A) {g g' : List Nat × Nat × Nat} (h : Gv f A p q g g') : Ov f A 0 0 (urlFin s p g) (urlFin F q g') := by
  obtain ⟨v, n, e⟩ := g
  obtain ⟨w, m, e'⟩ := g'
  obtain ⟨h1, h2, h3⟩ := h
  dsimp only at h1 h2 h3
  subst h1 h3
  unfold urlFin
  dsimp only
  split
  · exact ov_mk rfl h2
  split
  · exact ov_mk rfl h2
  split
  · obtain ⟨w1, ⟨w2, xx, xx⟩⟩ := ws_al X h2
    rw [w1]
    unfold urlEnd
    cases X.cs w2 with
    | nil h1 h2 => rw [h1, h2]; exact ov_mk rfl w2
    | pl c h1 h2 h3 h4 h5 =>
      rw [h1, h2]
      dsimp only
      split
      · exact ov_mk rfl h5
      · exact bad_al X w2
    | es x y h1 h2 h3 h4 h5 h6 h7 =>
      rw [h1, h4]
      dsimp only
      rw [if_neg (by decide), if_neg (letter_ne h5 (by decide))]
      exact bad_al X w2
  · exact bad_al X h2
theorem url_al (X : Al s F f A) (a : A p q) : Ov f A 0 0 (urlSpec s p) (urlSpec F q) := by
  obtain ⟨w1, ⟨w2, xx, xx⟩⟩ := ws_al X a
  unfold urlSpec
  rw [w1]
  cases X.cs w2 with
  | nil h1 h2 => rw [h1, h2]; exact ov_mk rfl w2
  | pl c h1 h2 h3 h4 h5 =>
    rw [h1, h2]
    dsimp only
    split
    · exact ov_mk rfl h5
    · exact ufin_al X (ug_al X w2)
  | es x y h1 h2 h3 h4 h5 h6 h7 =>
    rw [h1, h4]
    dsimp only
    rw [if_neg (by decide), if_neg (letter_ne h5 (by decide))]
    exact ufin_al X (ug_al X w2)
end
end Mine
end
section
set_option backward.match.sparseCases false
namespace Mine
open PySem PySem.W
noncomputable def tkK : TK → List Nat
  | .ws _ => [119, 104, 105, 116, 101, 115, 112, 97, 99, 101]
  | .lit _ => [108, 105, 116, 101, 114, 97, 108]
  | .ident _ => [105, 100, 101, 110, 116]
  | .at_ _ => [97, 116, 45, 107, 101, 121, 119, 111, 114, 100]
  | .hash _ _ => kHa
  | .str _ _ => [115, 116, 114, 105, 110, 103]
  | .num _ _ => kNu
  | .pct _ _ => kPc
  | .dim _ _ _ => kDi
  | .url _ _ => [117, 114, 108]
  | _ => kEr
noncomputable def tkV : TK → List Nat
  | .ws v => v
  | .lit v => v
  | .ident v => v
  | .at_ v => v
  | .hash v _ => v
  | .str v _ => v
  | .dim _ _ v => v
  | .url v _ => v
  | _ => []
noncomputable def tkF : TK → PV
  | .hash _ b => .bool b
  | .num r iv => .tup [.str r, ivPV iv]
  | .pct r iv => .tup [.str r, ivPV iv]
  | .dim r iv _ => .tup [.str r, ivPV iv]
  | .err k => errK k
  | .eru k => eruK k
  | .unm c => .str [c]
  | _ => .none
structure TKR (f : Nat → Nat) (n : Nat) (t t' : TK) : Prop where
  k : tkK t = tkK t'
  v : tkV t = (tkV t').map f
  f : tkF t = tkF t'
  n : (tkV t).length ≤ n
inductive TKs (f : Nat → Nat) (n : Nat) : List TK → List TK → Prop where
  | nil : TKs f n [] []
  | cons {t t' : TK} {r r' : List TK} (h : TKR f n t t') (k : TKs f n r r') : TKs f n (t :: r) (t' :: r')
noncomputable def Opn (s : List Nat) (p n : Nat) : Prop := ∃ e o, p ≤ e ∧ n = e + 1 ∧ s[e]? = some o ∧ (o = 40 ∨ o = 91 ∨ o = 123)
inductive SR (s : List Nat) (f : Nat → Nat) (p n : Nat) : Stp → Stp → Prop where
  | tk {ts ts' : List TK} (h : TKs f s.length ts ts') : SR s f p n (.tk ts) (.tk ts')
  | fn (w : List Nat) (h : Opn s p n) (hl : w.length ≤ s.length) : SR s f p n (.fn (w.map f)) (.fn w)
  | blk (c : Nat) (hc : c = 123 ∨ c = 91 ∨ c = 40) (h : Opn s p n) : SR s f p n (.blk c) (.blk c)
  | clo (c : Nat) : SR s f p n (.clo c) (.clo c)
noncomputable def TuR (s : List Nat) (f : Nat → Nat) (A : Nat → Nat → Prop) (p : Nat) (x y : Stp × Nat) : Prop := SR s f p x.2 x.1 y.1 ∧ A x.2 y.2
section
variable {s F : List Nat} {f : Nat → Nat} {A : Nat → Nat → Prop} {p q k : Nat}
theorem ltr_of {P : Nat → Bool} (h1 : ([117, 85, 114, 82, 108, 76].all fun c => P c == false) = true) (h2 : ∀ x, 57344 ≤ x → P x = false) : ∀ {x}, letter x → P x = false := fun h => letter_cls h1 h2 h
theorem dig_m {s : List Nat} {p : Nat} : digAt s p = (s[p]?).any isDig := by unfold digAt; cases s[p]? <;> rfl
theorem sign_m {s : List Nat} {p : Nat} : signAt s p = (s[p]?).any fun c => decide (c = 45 ∨ c = 43) := by unfold signAt; cases s[p]? <;> rfl
theorem e_m {s : List Nat} {p : Nat} : eAt s p = (s[p]?).any fun c => decide (c = 101 ∨ c = 69) := by unfold eAt; cases s[p]? <;> rfl
theorem digit_al (X : Al s F f A) (a : A p q) : digAt s p = digAt F q ∧ (digAt F q = true → Rn s F f A p q 1) := by
  rw [dig_m, dig_m]; exact one_al X (by decide) letter_Dig a
theorem sign_al (X : Al s F f A) (a : A p q) : signAt s p = signAt F q ∧ (signAt F q = true → Rn s F f A p q 1) := by
  rw [sign_m, sign_m]; exact one_al X (by decide) (ltr_of (P := fun c => decide (c = 45 ∨ c = 43)) (by decide) fun x hx => decide_eq_false (by lia)) a
theorem e_al (X : Al s F f A) (a : A p q) : eAt s p = eAt F q ∧ (eAt F q = true → Rn s F f A p q 1) := by
  rw [e_m, e_m]; exact one_al X (by decide) (ltr_of (P := fun c => decide (c = 101 ∨ c = 69)) (by decide) fun x hx => decide_eq_false (by lia)) a
noncomputable def Sp (s F : List Nat) (f : Nat → Nat) (A : Nat → Nat → Prop) (p q a b : Nat) : Prop := ∃ k, a = p + k ∧ b = q + k ∧ Rn s F f A p q k
theorem Sp.add {a b m : Nat} (h : Sp s F f A p q a b) (g : Rn s F f A a b m) : Sp s F f A p q (a + m) (b + m) := by
  obtain ⟨k, rfl, rfl, h⟩ := h
  exact ⟨k + m, Nat.add_assoc .., Nat.add_assoc .., h.trans g⟩
theorem Sp.al {a b : Nat} (h : Sp s F f A p q a b) : A a b := by
  obtain ⟨k, rfl, rfl, h⟩ := h; exact h.al
theorem Sp.run (X : Al s F f A) {a b : Nat} (h : Sp s F f A p q a b) : digRun (s.drop a) = digRun (F.drop b) ∧ Sp s F f A p q (a + digRun (F.drop b)) (b + digRun (F.drop b)) := ⟨(dig_al X h.al).1, h.add (dig_al X h.al).2⟩
noncomputable def NR (s F : List Nat) (f : Nat → Nat) (A : Nat → Nat → Prop) (p q : Nat) (x y : Nat × Bool) : Prop := Sp s F f A p q x.1 y.1 ∧ x.2 = y.2
theorem exp_al (X : Al s F f A) {a b : Nat} {pl : Bool} (h : Sp s F f A p q a b) : NR s F f A p q (numExp s a pl) (numExp F b pl) := by
  have fin : ∀ {a' b' : Nat}, Sp s F f A p q a' b' → NR s F f A p q (if digAt s a' then (a' + digRun (s.drop a'), false) else (a, pl)) (if digAt F b' then (b' + digRun (F.drop b'), false) else (b, pl)) := by
    intro a' b' h'
    rw [(digit_al X h'.al).1]
    obtain ⟨e1, e2⟩ := h'.run X
    split
    · rw [e1]; exact ⟨e2, rfl⟩
    · exact ⟨h, rfl⟩
  unfold numExp
  obtain ⟨e1, e2⟩ := e_al X h.al
  rw [e1]
  by_cases he : eAt F b = true
  · rw [if_pos he, if_pos he]
    have h1 := h.add (e2 he)
    obtain ⟨g1, g2⟩ := sign_al X h1.al
    rw [g1]
    by_cases hs : signAt F (b + 1) = true
    · rw [if_pos hs, if_pos hs]; exact fin (h1.add (g2 hs))
    · rw [if_neg hs, if_neg hs]; exact fin h1
  · rw [if_neg he, if_neg he]; exact ⟨h, rfl⟩
noncomputable def NO (s F : List Nat) (f : Nat → Nat) (A : Nat → Nat → Prop) (p q : Nat) (x y : Option (Nat × Bool)) : Prop := (x = none ∧ y = none) ∨ ∃ a b, x = some a ∧ y = some b ∧ NR s F f A p q a b
noncomputable def numB (s : List Nat) (i a : Nat) : Option (Nat × Bool) := if s[a]? = some 46 ∧ digAt s (a + 1) = true then some (numExp s (a + 2 + digRun (s.drop (a + 2))) false) else if a = i then none else some (numExp s a true)
theorem numB_al (X : Al s F f A) {i j a b : Nat} (h : Sp s F f A p q a b) (hz : a = i ↔ b = j) : NO s F f A p q (numB s i a) (numB F j b) := by
  have whole : NO s F f A p q (if a = i then none else some (numExp s a true)) (if b = j then none else some (numExp F b true)) := by
    by_cases hb : b = j
    · rw [if_pos hb, if_pos (hz.mpr hb)]; exact .inl ⟨rfl, rfl⟩
    · rw [if_neg hb, if_neg (fun h => hb (hz.mp h))]; exact .inr ⟨_, _, rfl, rfl, exp_al X h⟩
  obtain ⟨d1, d2⟩ := is_al X (c := 46) (by decide) (by decide) h.al
  unfold numB
  by_cases hd : F[b]? = some 46
  · have h1 := h.add (d2 hd)
    obtain ⟨g1, g2⟩ := digit_al X h1.al
    by_cases hg : digAt F (b + 1) = true
    · rw [if_pos ⟨d1.mpr hd, g1.trans hg⟩, if_pos ⟨hd, hg⟩]
      obtain ⟨k1, k2⟩ := (h1.add (g2 hg)).run X
      replace k1 : digRun (s.drop (a + 2)) = digRun (F.drop (b + 2)) := k1
      rw [k1]
      exact .inr ⟨_, _, rfl, rfl, exp_al X k2⟩
    · rw [if_neg (show ¬ (s[a]? = some 46 ∧ digAt s (a + 1) = true) from fun h => hg (g1.symm.trans h.2)), if_neg (show ¬ (F[b]? = some 46 ∧ digAt F (b + 1) = true) from fun h => hg h.2)]; exact whole
  · rw [if_neg (show ¬ (s[a]? = some 46 ∧ digAt s (a + 1) = true) from fun h => hd (d1.mp h.1)), if_neg (show ¬ (F[b]? = some 46 ∧ digAt F (b + 1) = true) from fun h => hd h.1)]; exact whole
theorem num_al (X : Al s F f A) (a : A p q) : NO s F f A p q (numFrom s p) (numFrom F q) := by
  have main : ∀ {i j : Nat}, Sp s F f A p q i j → NO s F f A p q (numB s i (i + digRun (s.drop i))) (numB F j (j + digRun (F.drop j))) := fun {i j} h => by
    obtain ⟨r1, r2⟩ := h.run X
    rw [r1]; exact numB_al X r2 ⟨fun h => by lia, fun h => by lia⟩
  obtain ⟨g1, g2⟩ := sign_al X a
  have h0 : Sp s F f A p q p q := ⟨0, rfl, rfl, .zero a⟩
  show NO s F f A p q (numB s (if signAt s p then p + 1 else p) _) (numB F (if signAt F q then q + 1 else q) _)
  rw [g1]
  by_cases hs : signAt F q = true
  · rw [if_pos hs, if_pos hs]; exact main (h0.add (g2 hs))
  · rw [if_neg hs, if_neg hs]; exact main h0
end
end Mine
end
section
set_option backward.match.sparseCases false
namespace Mine
open PySem PySem.W
theorem sw_cons (s t : List Nat) (c p : Nat) : startsAt s (c :: t) p = (decide (s[p]? = some c) && startsAt s t (p + 1)) := by
  unfold startsAt
  cases h : s[p]? with
  | none => rw [drop_none h]; rfl
  | some x =>
    rw [drop_get h, List.length_cons, List.take_succ_cons, Nat.add_assoc p 1, Nat.add_comm 1, Bool.eq_iff_iff]
    simp only [Bool.and_eq_true, beq_iff_eq, decide_eq_true_eq, List.cons.injEq, Option.some.injEq]
    exact and_assoc
section
variable {s F : List Nat} {f : Nat → Nat} {A : Nat → Nat → Prop} {p q k : Nat}
theorem sa_al (X : Al s F f A) : ∀ (t : List Nat) {p q : Nat}, (t.all fun c => ltr0 c && !decide (c = 92)) = true → A p q → startsAt s t p = startsAt F t q ∧ (startsAt F t q = true → Rn s F f A p q t.length)
  | [], p, q, _, a => by
    have e : ∀ {s : List Nat} {p : Nat}, p ≤ s.length → startsAt s [] p = true := fun h => decide_eq_true h
    rw [e (X.le a).1, e (X.le a).2]; exact ⟨rfl, fun _ => .zero a⟩
  | c :: t, p, q, h, a => by
    obtain ⟨h1, h2⟩ := Bool.and_eq_true_iff.mp h
    obtain ⟨h1, h3⟩ := Bool.and_eq_true_iff.mp h1
    obtain ⟨e1, e2⟩ := is_al X h1 (of_decide_eq_false (by cases k : decide (c = 92) with
      | false => rfl
      | true => rw [k] at h3; cases h3)) a
    rw [sw_cons, sw_cons, decide_eq_decide.mpr e1]
    by_cases hc : F[q]? = some c
    · obtain ⟨g1, g2⟩ := sa_al X t h2 (e2 hc).al
      rw [g1]
      exact ⟨rfl, fun h => by
        have := (e2 hc).trans (g2 (Bool.and_eq_true_iff.mp h).2)
        rw [Nat.add_comm] at this; exact this⟩
    · rw [decide_eq_false hc]; exact ⟨rfl, fun h => nomatch h⟩
theorem tk1 {t t' : TK} {n m : Nat} (h1 : tkK t = tkK t') (h2 : tkV t = (tkV t').map f) (h3 : tkF t = tkF t') (h4 : (tkV t).length ≤ s.length) (a : A n m) : TuR s f A p (.tk [t], n) (.tk [t'], m) := ⟨.tk (.cons ⟨h1, h2, h3, h4⟩ .nil), a⟩
theorem lit_al (X : Al s F f A) {v : List Nat} {n m : Nat} (h : (v.all fun c => decide (c < 57344)) = true) (hl : v.length ≤ s.length) (a : A n m) : TuR s f A p (.tk [.lit v], n) (.tk [.lit v], m) := by
  refine tk1 rfl ?_ rfl hl a
  show v = v.map f
  refine (Eq.trans (List.map_congr_left fun c hc => ?_) (List.map_id v)).symm
  exact X.low (of_decide_eq_true (List.all_eq_true.mp h c hc))
theorem lit1_al {c n m : Nat} (h : f c = c) (hl : p < s.length) (a : A n m) : TuR s f A p (.tk [.lit [c]], n) (.tk [.lit [c]], m) :=
  tk1 rfl (congrArg (fun x => [x]) h.symm) rfl (Nat.le_trans (Nat.succ_le_succ (Nat.zero_le p)) hl) a
theorem id_len (e : Nat) : (identSpec (s.drop e)).1.length ≤ s.length := by
  exact Nat.le_trans (identSpec_len _ (s.drop e) (Nat.le_refl _)).1 (List.drop_sublist e s).length_le
theorem sl_len (e k : Nat) : ((s.drop e).take k).length ≤ s.length := by
  exact ((List.take_sublist k _).trans (List.drop_sublist e s)).length_le
theorem low_url (X : Al s F f A) : ∀ (L w : List Nat), (∀ l ∈ L, l = 117 ∨ l = 114 ∨ l = 108) → ((w.map f).map lowC = L ↔ w.map lowC = L)
  | [], [], _ => Iff.rfl
  | [], _ :: _, _ => Iff.intro (fun h => by cases h) (fun h => by cases h)
  | _ :: _, [], _ => Iff.intro (fun h => by cases h) (fun h => by cases h)
  | l :: L, c :: w, h => by
    have ih := low_url X L w fun x hx => h x (List.mem_cons_of_mem _ hx)
    have hu : ∀ x, lowC x = l → urlL x = true := fun x hx => decide_eq_true (by
      have := h l List.mem_cons_self
      unfold lowC at hx
      split at hx <;> lia)
    show lowC (f c) :: _ = _ ↔ lowC c :: _ = _
    rw [List.cons.injEq, List.cons.injEq, ih]
    refine and_congr_left fun _ => ⟨fun e => ?_, fun e => ?_⟩
    · have k := X.url c (.inr (hu _ e))
      rw [k] at e; exact e
    · rw [X.url c (.inl (hu _ e))]; exact e
theorem urlW_al (X : Al s F f A) (w : List Nat) : isUrlW (w.map f) = isUrlW w :=
  decide_eq_decide.mpr (low_url X _ w fun l hl => by
    rcases List.mem_cons.mp hl with h | hl
    · exact .inl h
    rcases List.mem_cons.mp hl with h | hl
    · exact .inr (.inl h)
    · exact .inr (.inr (List.mem_singleton.mp hl)))
theorem notQ_al (X : Al s F f A) (a : A p q) : notQ s p = notQ F q := by
  obtain ⟨w1, w2⟩ := ws_al X a
  unfold notQ
  rw [w1, (one_al X (P := fun c => decide (c = 34 ∨ c = 39)) (by decide) (ltr_of (P := fun c => decide (c = 34 ∨ c = 39)) (by decide) fun x hx => decide_eq_false (by lia)) w2.al).1]
theorem toks_al {x y : Option (List Nat) × Nat × Nat} {T : List Nat → Nat → TK} {E : Nat → TK} (o : Ov f A p q x y) (hl : ∀ v, x.1 = some v → v.length ≤ s.length) (hT : ∀ v e w e', tkK (T v e) = tkK (T w e') ∧ tkV (T v e) = v ∧ tkF (T v e) = tkF (T w e')) (hE : ∀ e, tkV (E e) = []) :
    TKs f s.length ((match x.1 with | none => [] | some v => [T v x.2.2]) ++ if x.2.2 = 0 then [] else [E x.2.2]) ((match y.1 with | none => [] | some v => [T v y.2.2]) ++ if y.2.2 = 0 then [] else [E y.2.2]) := by
  obtain ⟨x1, x2, x3⟩ := x
  obtain ⟨y1, y2, y3⟩ := y
  obtain ⟨h1, h2, h3⟩ := o
  dsimp only at h1 h2 h3 hl
  subst h1 h3
  have er : TKs f s.length (if x3 = 0 then [] else [E x3]) (if x3 = 0 then [] else [E x3]) := by
    split
    · exact .nil
    · exact .cons ⟨rfl, by rw [hE]; rfl, rfl, by rw [hE]; exact Nat.zero_le _⟩ .nil
  cases y1 with
  | none => exact er
  | some w =>
    obtain ⟨e1, e2, e3⟩ := hT (w.map f) x3 w x3
    exact .cons ⟨e1, by rw [e2, (hT w x3 w x3).2.1], e3, by rw [e2]; exact hl _ rfl⟩ er
theorem Ov.al0 {x y : Option (List Nat) × Nat × Nat} (o : Ov f A 0 0 x y) : A x.2.1 y.2.1 := by
  have := o.2.1
  rwa [Nat.zero_add, Nat.zero_add] at this
theorem stepId_al (X : Al s F f A) {serU : List Nat → List Nat} {w : List Nat} {n m : Nat} (hl : w.length ≤ s.length) (hp : p ≤ n) (a : A n m) : TuR s f A p (stepId serU s (w.map f) n) (stepId serU F w m) := by
  obtain ⟨e1, e2⟩ := is_al X (c := 40) (by decide) (by decide) a
  have hl' : (w.map f).length ≤ s.length := by rw [List.length_map]; exact hl
  unfold stepId
  by_cases h : F[m]? = some 40
  · have a1 := (e2 h).al
    rw [if_pos (e1.mpr h), if_pos h, urlW_al X, notQ_al X a1]
    by_cases hu : (isUrlW w && notQ F (m + 1)) = true
    · rw [if_pos hu, if_pos hu]
      have o := url_al X a1
      exact ⟨.tk (toks_al (T := fun v e => .url v (reprU serU e v)) (E := .eru) o (fun v hv => ((urlSpec_facts s (n + 1)).1 v hv).1) (fun _ _ _ _ => ⟨rfl, rfl, rfl⟩) fun _ => rfl), o.al0⟩
    · rw [if_neg hu, if_neg hu]
      exact ⟨.fn w ⟨n, 40, hp, rfl, e1.mpr h, .inl rfl⟩ hl, a1⟩
  · rw [if_neg (fun k => h (e1.mp k)), if_neg h]
    exact tk1 rfl rfl rfl hl' a
theorem sym_al (X : Al s F f A) {c : Nat} (h1 : s[p]? = some c) (h4 : f c = c) (h5 : A (p + 1) (q + 1)) (a : A p q) : TuR s f A p (tkOf (symStep s p c)) (tkOf (symStep F q c)) := by
  obtain ⟨a1, a2⟩ := sa_al X [60, 33, 45, 45] (by decide) a
  obtain ⟨b1, b2⟩ := sa_al X [124, 124] (by decide) a
  obtain ⟨d1, d2⟩ := is_al X (c := 61) (by decide) (by decide) h5
  unfold symStep
  rw [a1, b1]
  by_cases ha : startsAt F [60, 33, 45, 45] q = true
  · rw [if_pos ha, if_pos ha]; exact lit_al X (by decide) (by have := sw_len (a1.trans ha); exact Nat.le_trans (Nat.le_add_left _ _) this) (a2 ha).al
  rw [if_neg ha, if_neg ha]
  by_cases hb : startsAt F [124, 124] q = true
  · rw [if_pos hb, if_pos hb]; exact lit_al X (by decide) (by have := sw_len (b1.trans hb); exact Nat.le_trans (Nat.le_add_left _ _) this) (b2 hb).al
  rw [if_neg hb, if_neg hb]
  by_cases hd : c ∈ [126, 124, 94, 36, 42] ∧ F[q + 1]? = some 61
  · rw [if_pos (show c ∈ [126, 124, 94, 36, 42] ∧ s[p + 1]? = some 61 from ⟨hd.1, d1.mpr hd.2⟩), if_pos hd]
    have := get_lt (d1.mpr hd.2)
    refine tk1 rfl ?_ rfl (show 2 ≤ _ by lia) (d2 hd.2).al
    show [c, 61] = [f c, f 61]
    rw [h4, X.low (by decide)]
  · rw [if_neg (fun k : c ∈ [126, 124, 94, 36, 42] ∧ s[p + 1]? = some 61 => hd ⟨k.1, d1.mp k.2⟩), if_neg hd]
    exact lit1_al h4 (get_lt h1) h5
end
end Mine
end
section
set_option backward.match.sparseCases false
namespace Mine
open PySem PySem.W
section
variable {s F : List Nat} {f : Nat → Nat} {A : Nat → Nat → Prop} {p q k : Nat} {ser serU : List Nat → List Nat}
theorem numT_al (X : Al s F f A) (h : Rn s F f A p q k) {pl : Bool} : TuR s f A p
    (tkOf (if identStart (s.drop (p + k)) then ([.dim ((s.drop p).take (p + k - p)) (ivOf pl ((s.drop p).take (p + k - p))) (identSpec (s.drop (p + k))).1], p + k + (identSpec (s.drop (p + k))).2)
      else if s[p + k]? = some 37 then ([.pct ((s.drop p).take (p + k - p)) (ivOf pl ((s.drop p).take (p + k - p)))], p + k + 1) else ([.num ((s.drop p).take (p + k - p)) (ivOf pl ((s.drop p).take (p + k - p)))], p + k)))
    (tkOf (if identStart (F.drop (q + k)) then ([.dim ((F.drop q).take (q + k - q)) (ivOf pl ((F.drop q).take (q + k - q))) (identSpec (F.drop (q + k))).1], q + k + (identSpec (F.drop (q + k))).2)
      else if F[q + k]? = some 37 then ([.pct ((F.drop q).take (q + k - q)) (ivOf pl ((F.drop q).take (q + k - q)))], q + k + 1) else ([.num ((F.drop q).take (q + k - q)) (ivOf pl ((F.drop q).take (q + k - q)))], q + k))) := by
  obtain ⟨d1, d2⟩ := is_al X (c := 37) (by decide) (by decide) h.al
  rw [Nat.add_sub_cancel_left, Nat.add_sub_cancel_left, h.eq, is_start_al X h.al]
  by_cases hi : identStart (F.drop (q + k)) = true
  · rw [if_pos hi, if_pos hi]
    obtain ⟨e1, e2⟩ := id_al X h.al
    exact tk1 rfl e1 rfl (id_len _) e2
  rw [if_neg hi, if_neg hi]
  by_cases hp : F[q + k]? = some 37
  · rw [if_pos (d1.mpr hp), if_pos hp]
    exact tk1 rfl rfl rfl (Nat.zero_le _) (d2 hp).al
  · rw [if_neg (fun x => hp (d1.mp x)), if_neg hp]
    exact tk1 rfl rfl rfl (Nat.zero_le _) h.al
theorem stepN_al (X : Al s F f A) {c : Nat} (h1 : s[p]? = some c) (h4 : f c = c) (h5 : A (p + 1) (q + 1)) (a : A p q) : TuR s f A p (stepN ser s p c) (stepN ser F q c) := by
  have hp := get_lt h1
  unfold stepN
  rcases num_al X a with ⟨n1, n2⟩ | ⟨x, y, n1, n2, ⟨k, g1, g2, g⟩, g3⟩
  · rw [n1, n2]
    dsimp only
    by_cases h64 : c = 64
    · rw [if_pos h64, if_pos h64, is_start_al X h5]
      by_cases hi : identStart (F.drop (q + 1)) = true
      · rw [if_pos hi, if_pos hi]
        obtain ⟨e1, e2⟩ := id_al X h5
        exact tk1 rfl e1 rfl (id_len _) e2
      · rw [if_neg hi, if_neg hi]
        exact lit_al X (by decide) (show 1 ≤ _ by lia) h5
    rw [if_neg h64, if_neg h64]
    by_cases h35 : c = 35
    · rw [if_pos h35, if_pos h35, h_start_al X h5, is_start_al X h5]
      by_cases hi : hashStart (F.drop (q + 1)) = true
      · rw [if_pos hi, if_pos hi]
        obtain ⟨e1, e2⟩ := id_al X h5
        exact tk1 rfl e1 rfl (id_len _) e2
      · rw [if_neg hi, if_neg hi]
        exact lit_al X (by decide) (show 1 ≤ _ by lia) h5
    rw [if_neg h35, if_neg h35]
    by_cases hb : c = 123 ∨ c = 91 ∨ c = 40
    · rw [if_pos hb, if_pos hb]
      exact ⟨.blk c hb ⟨p, c, Nat.le_refl _, rfl, h1, hb.elim (fun h => .inr (.inr h)) (fun h => h.elim (fun h => .inr (.inl h)) .inl)⟩, h5⟩
    rw [if_neg hb, if_neg hb]
    by_cases hc : c = 125 ∨ c = 93 ∨ c = 41
    · rw [if_pos hc, if_pos hc]; exact ⟨.clo c, h5⟩
    rw [if_neg hc, if_neg hc]
    by_cases hq : c = 34 ∨ c = 39
    · rw [if_pos hq, if_pos hq]
      have o : Ov f A (p + 1) (q + 1) (quotedSpec c (s.drop (p + 1))) (quotedSpec c (F.drop (q + 1))) := by
        rcases hq with rfl | rfl
        · exact quo_al X (by decide) (by decide) h5
        · exact quo_al X (by decide) (by decide) h5
      have hl := (quotedSpec_len c _ (s.drop (p + 1)) (Nat.le_refl _)).1
      rw [List.length_drop] at hl
      exact ⟨.tk (toks_al (T := fun v e => .str v (if e = 0 then [34] ++ ser v ++ [34] else [34] ++ ser v)) (E := .err) o (fun v hv => Nat.le_trans (hl v hv) (Nat.sub_le _ _)) (fun _ _ _ _ => ⟨rfl, rfl, rfl⟩) fun _ => rfl), o.2.1⟩
    · rw [if_neg hq, if_neg hq]; exact sym_al X h1 h4 h5 a
  · rw [n1, n2]
    obtain ⟨x1, x2⟩ := x
    obtain ⟨y1, y2⟩ := y
    dsimp only at g1 g2 g3
    subst g1 g2 g3
    exact numT_al X g
theorem stepAt_al (X : Al s F f A) (a : A p q) {c : Nat} (h1 : s[p]? = some c) : ∃ d, F[q]? = some d ∧ TuR s f A p (stepAt ser serU s p c) (stepAt ser serU F q d) := by
  obtain ⟨a1, a2⟩ := sa_al X [45, 45, 62] (by decide) a
  obtain ⟨i1, i2⟩ := id_al X a
  have hI := is_start_al X a
  have ids : TuR s f A p (stepId serU s (identSpec (s.drop p)).1 (p + (identSpec (s.drop p)).2)) (stepId serU F (identSpec (F.drop q)).1 (q + (identSpec (F.drop q)).2)) := by
    have := id_len (s := s) p
    rw [i1, List.length_map] at this
    rw [i1]; exact stepId_al X this (Nat.le_add_right _ _) i2
  unfold stepAt
  rw [a1, hI]
  cases X.cs a with
  | nil h2 => rw [h2] at h1; cases h1
  | pl d h2 h3 h4 h5 h6 =>
    rw [h2] at h1; cases h1
    refine ⟨c, h3, ?_⟩
    by_cases hb : isBl c = true
    · rw [if_pos hb, if_pos hb]
      obtain ⟨w1, w2⟩ := ws_al X h6
      have r := (Rn.one h2 h3 h5 h6).trans w2
      rw [w1]
      exact tk1 rfl r.mp rfl (sl_len _ _) r.al
    rw [if_neg hb, if_neg hb]
    by_cases ha : startsAt F [45, 45, 62] q = true
    · rw [if_pos ha, if_pos ha]
      exact lit_al X (by decide) (by have := sw_len (a1.trans ha); exact Nat.le_trans (Nat.le_add_left _ _) this) (a2 ha).al
    rw [if_neg ha, if_neg ha]
    by_cases hi : identStart (F.drop q) = true
    · rw [if_pos hi, if_pos hi]; exact ids
    · rw [if_neg hi, if_neg hi]; exact stepN_al X h2 h5 h6 a
  | es x y h2 h3 h4 h5 h6 h7 h8 =>
    rw [h2] at h1; cases h1
    refine ⟨x, h5, ?_⟩
    have ha : ¬ startsAt F [45, 45, 62] q = true := fun h => by
      rw [sw_cons, h5, decide_eq_false fun h => letter_ne h6 (by decide) (Option.some.inj h)] at h; cases h
    have hi : identStart (F.drop q) = true := by
      rw [drop_get h5]; unfold identStart; dsimp only; rw [letter_NS h6]; rfl
    rw [if_neg (show ¬ isBl 92 = true by decide), if_neg (show ¬ isBl x = true by rw [letter_Bl h6]; decide), if_neg ha, if_neg ha, if_pos hi, if_pos hi]
    exact ids
end
end Mine
end
section
set_option backward.match.sparseCases false
namespace Mine
open PySem PySem.W
structure AttAt (C : Addr → Str → Option AttR) (c : Addr) (tp : List Nat) (fs : List Str) : Prop where
  ty : C c "type" = some (.val (.str tp))
  slot : ∀ (i : Nat) (g : Str), fs[i]? = some g → C c g = some (.slot i)
structure TellAt (C : Addr → Str → Option AttR) (cl : Cls) : Prop where
  ws : AttAt C cl.ws [119, 104, 105, 116, 101, 115, 112, 97, 99, 101] ["value", "source_column", "source_line"]
  lit : AttAt C cl.lit [108, 105, 116, 101, 114, 97, 108] ["value", "source_column", "source_line"]
  ident : AttAt C cl.ident [105, 100, 101, 110, 116] ["lower_value", "value", "source_column", "source_line"]
  at_ : AttAt C cl.at_ [97, 116, 45, 107, 101, 121, 119, 111, 114, 100] ["lower_value", "value", "source_column", "source_line"]
  hash : AttAt C cl.hash kHa ["is_identifier", "value", "source_column", "source_line"]
  str : AttAt C cl.str [115, 116, 114, 105, 110, 103] ["representation", "value", "source_column", "source_line"]
  num : AttAt C cl.num kNu ["int_value", "is_integer", "representation", "value", "source_column", "source_line"]
  pct : AttAt C cl.pct kPc ["int_value", "is_integer", "representation", "value", "source_column", "source_line"]
  dim : AttAt C cl.dim kDi ["int_value", "is_integer", "lower_unit", "representation", "unit", "value", "source_column", "source_line"]
  err : AttAt C cl.err kEr ["kind", "message", "source_column", "source_line"]
  url : AttAt C cl.url [117, 114, 108] ["representation", "value", "source_column", "source_line"]
  fn : AttAt C cl.fn kFn ["arguments", "lower_name", "name", "source_column", "source_line"]
  par : AttAt C cl.par [40, 41, 32, 98, 108, 111, 99, 107] ["content", "source_column", "source_line"]
  sqr : AttAt C cl.sqr [91, 93, 32, 98, 108, 111, 99, 107] ["content", "source_column", "source_line"]
  cur : AttAt C cl.cur [123, 125, 32, 98, 108, 111, 99, 107] ["content", "source_column", "source_line"]
section
variable {C : Addr → Str → Option AttR} {cl : Cls} {f : Nat → Nat} {P P1 P2 : Int → Int → PV} {R : List PV → List PV → Prop} {l c l' c' : Int}
theorem AttAt.rd {a : Addr} {tp : List Nat} {fs : List Str} (h : AttAt C a tp fs) (i : Nat) {vs : List PV} {nm : Str} {v : PV} (h1 : fs[i]? = some nm) (h2 : vs[i]? = some v) : Rd C a vs nm v := ⟨i, h.slot i nm h1, h2⟩
theorem AttAt.at {a : Addr} {tp : List Nat} {fs : List Str} (h : AttAt C a tp fs) (i : Nat) {vs : List PV} (h1 : fs[i]? = some "source_column") (h2 : fs[i + 1]? = some "source_line") (h3 : vs[i]? = some (.int c)) (h4 : vs[i + 1]? = some (.int l)) : At C a vs tp l c := ⟨h.ty, h.rd _ h2 h4, h.rd _ h1 h3⟩
theorem tr_tk (T : TellAt C cl) (t : TK) (hl : (tkV t).length ≤ 100000) : TR C f P R (tkPV cl (.int l) (.int c) t) (rowT (tkK t) (P l c) ((tkV t).map f) (tkF t) .none) := by
  have er : ∀ {fs : List PV} {m : List Nat}, fs[0]? = some (.str m) → fs[2]? = some (.int c) → fs[3]? = some (.int l) → TR C f P R (.node cl.err fs) (rowT kEr (P l c) [] (.str m) .none) :=
    fun h0 h2 h3 => .er (T.err.at 2 rfl rfl h2 h3) (T.err.rd 0 rfl h0)
  have nu : ∀ {a : Addr} {k r : List Nat} {iv : Option Int} {x1 x3 : PV}, k = kNu ∨ k = kPc → AttAt C a k ["int_value", "is_integer", "representation", "value", "source_column", "source_line"] → TR C f P R (.node a [ivPV iv, x1, .str r, x3, .int c, .int l]) (rowT k (P l c) [] (.tup [.str r, ivPV iv]) .none) :=
    fun hk h => .nu hk (h.at 4 rfl rfl rfl rfl) (h.rd 2 rfl rfl) (h.rd 0 rfl rfl)
  have v3 : ∀ {a : Addr} {k v : List Nat}, k ∈ kVa → AttAt C a k ["value", "source_column", "source_line"] → v.length ≤ 100000 → TR C f P R (.node a [.str v, .int c, .int l]) (rowT k (P l c) (v.map f) .none .none) :=
    fun hk h hv => .va hk (h.at 1 rfl rfl rfl rfl) (h.rd 0 rfl rfl) hv
  have v4 : ∀ {a : Addr} {k v : List Nat} {x : PV} {nm : Str}, k ∈ kVa → AttAt C a k [nm, "value", "source_column", "source_line"] → v.length ≤ 100000 → TR C f P R (.node a [x, .str v, .int c, .int l]) (rowT k (P l c) (v.map f) .none .none) :=
    fun hk h hv => .va hk (h.at 2 rfl rfl rfl rfl) (h.rd 1 rfl rfl) hv
  cases t with
  | ws v => exact v3 (List.mem_of_getElem? (i := 4) rfl) T.ws hl
  | lit v => exact v3 (List.mem_of_getElem? (i := 5) rfl) T.lit hl
  | ident v => exact v4 (List.mem_of_getElem? (i := 0) rfl) T.ident hl
  | at_ v => exact v4 (List.mem_of_getElem? (i := 1) rfl) T.at_ hl
  | hash v b => exact .ha (T.hash.at 2 rfl rfl rfl rfl) (T.hash.rd 1 rfl rfl) hl (T.hash.rd 0 rfl rfl)
  | str v r => exact v4 (List.mem_of_getElem? (i := 2) rfl) T.str hl
  | num r iv => exact nu (.inl rfl) T.num
  | pct r iv => exact nu (.inr rfl) T.pct
  | dim r iv u => exact .di (T.dim.at 6 rfl rfl rfl rfl) (T.dim.rd 4 rfl rfl) hl (T.dim.rd 3 rfl rfl) (T.dim.rd 0 rfl rfl)
  | err k =>
    rcases k with _ | _ | k
    · exact er rfl rfl rfl
    · exact er rfl rfl rfl
    · exact er rfl rfl rfl
  | url v r => exact v4 (List.mem_of_getElem? (i := 3) rfl) T.url hl
  | unm x => exact er rfl rfl rfl
  | eru k =>
    rcases k with _ | _ | k
    · exact er rfl rfl rfl
    · exact er rfl rfl rfl
    · exact er rfl rfl rfl
noncomputable def RA (C : Addr → Str → Option AttR) (f : Nat → Nat) (P : Int → Int → PV) : Nat → List PV → List PV → Prop
  | 0 => fun _ _ => False
  | n + 1 => TRs C f P n
theorem TRs.mk {n : Nat} {xs ys : List PV} (h : ys.length ≤ 1000000) (k : All2 (TR C f P (RA C f P n)) xs ys) : TRs C f P n xs ys := by
  cases n <;> exact ⟨h, k⟩
theorem All2.len {Q : PV → PV → Prop} : ∀ {xs ys : List PV}, All2 Q xs ys → ys.length = xs.length
  | [], _, h => by cases h; rfl
  | _ :: _, _, h => by obtain ⟨y, r, rfl, _, h⟩ := h; exact congrArg (· + 1) h.len
theorem All2.snoc {Q : PV → PV → Prop} {x y : PV} (q : Q x y) : ∀ {xs ys : List PV}, All2 Q xs ys → All2 Q (xs ++ [x]) (ys ++ [y])
  | [], _, h => by cases h; exact ⟨y, [], rfl, q, rfl⟩
  | _ :: _, _, h => by obtain ⟨z, r, rfl, h1, h⟩ := h; exact ⟨z, _, rfl, h1, h.snoc q⟩
noncomputable def One (C : Addr → Str → Option AttR) (f : Nat → Nat) (P1 P2 : Int → Int → PV) (n : Nat) (x x' : PV) : Prop := ∃ y, TR C id P1 (RA C id P1 n) x y ∧ TR C f P2 (RA C f P2 n) x' y
noncomputable def Sm (C : Addr → Str → Option AttR) (f : Nat → Nat) (P1 P2 : Int → Int → PV) (n : Nat) (xs xs' : List PV) : Prop := ∃ ys, All2 (TR C id P1 (RA C id P1 n)) xs ys ∧ All2 (TR C f P2 (RA C f P2 n)) xs' ys
theorem Sm.add {n : Nat} {xs xs' : List PV} {x x' : PV} (h : Sm C f P1 P2 n xs xs') (g : One C f P1 P2 n x x') : Sm C f P1 P2 n (xs ++ [x]) (xs' ++ [x']) := by
  obtain ⟨ys, h1, h2⟩ := h
  obtain ⟨y, g1, g2⟩ := g
  exact ⟨ys ++ [y], h1.snoc g1, h2.snoc g2⟩
theorem one_tk (T : TellAt C cl) {n m : Nat} {t t' : TK} (h : TKR f m t t') (hm : m ≤ 100000) (hp : P1 l c = P2 l' c') : One C f P1 P2 n (tkPV cl (.int l) (.int c) t) (tkPV cl (.int l') (.int c') t') := by
  have hn := h.n
  refine ⟨_, tr_tk T t (Nat.le_trans hn hm), ?_⟩
  rw [h.v, List.length_map] at hn
  rw [List.map_id, h.k, h.v, h.f, hp]
  exact tr_tk T t' (Nat.le_trans hn hm)
theorem Sm.toks (T : TellAt C cl) {n m : Nat} (hm : m ≤ 100000) (hp : P1 l c = P2 l' c') {ts ts' : List TK} (h : TKs f m ts ts') : ∀ {xs xs' : List PV}, Sm C f P1 P2 n xs xs' → Sm C f P1 P2 n (xs ++ ts.map (tkPV cl (.int l) (.int c))) (xs' ++ ts'.map (tkPV cl (.int l') (.int c'))) := by
  induction h with
  | nil => intro xs xs' g; rw [List.map_nil, List.map_nil, List.append_nil, List.append_nil]; exact g
  | cons h k ih =>
    intro xs xs' g
    have := ih (g.add (one_tk T h hm hp))
    rw [List.append_assoc, List.append_assoc] at this
    exact this
noncomputable def FrS (C : Addr → Str → Option AttR) (f : Nat → Nat) (P1 P2 : Int → Int → PV) : Nat → List Fr → List Fr → Prop
  | _, [], [] => True
  | n, a :: r, b :: r' => a.ec = b.ec ∧ Sm C f P1 P2 (n + 1) a.ini b.ini ∧ (∀ xs xs' : List PV, xs.length ≤ 1000000 → Sm C f P1 P2 n xs xs' → One C f P1 P2 (n + 1) (a.nd (.lst xs)) (b.nd (.lst xs'))) ∧ FrS C f P1 P2 (n + 1) r r'
  | _, _, _ => False
theorem clo_al : ∀ {fr fr' : List Fr} {n : Nat} {cur cur' : List PV}, cur.length ≤ 999999 → (∀ a ∈ fr, a.ini.length < 999999) → FrS C f P1 P2 n fr fr' → Sm C f P1 P2 n cur cur' → Sm C f P1 P2 (n + fr.length) (closeAll fr cur) (closeAll fr' cur') ∧ (closeAll fr cur).length ≤ 999999
  | [], [], _, _, _, hc, _, _, h => ⟨h, hc⟩
  | [], _ :: _, _, _, _, _, _, h, _ => h.elim
  | _ :: _, [], _, _, _, _, _, h, _ => h.elim
  | a :: r, b :: r', n, cur, cur', hc, hi, h, g => by
    obtain ⟨_, h2, h3, h4⟩ := h
    have := clo_al (fr := r) (fr' := r') (n := n + 1) (cur := a.ini ++ [a.nd (.lst cur)]) (cur' := b.ini ++ [b.nd (.lst cur')]) (by rw [List.length_append]; exact hi a List.mem_cons_self) (fun x hx => hi x (List.mem_cons_of_mem _ hx)) h4 (h2.add (h3 cur cur' (by lia) g))
    rw [Nat.add_assoc n 1, Nat.add_comm 1] at this
    exact this
end
end Mine
end
section
set_option backward.match.sparseCases false
namespace Mine
open PySem PySem.W
noncomputable def opn (l : List Nat) : Nat := l.countP fun c => decide (c = 40 ∨ c = 91 ∨ c = 123)
theorem opn_le {s : List Nat} {p n : Nat} (h : p ≤ n) : opn (s.drop n) ≤ opn (s.drop p) := by
  rw [← Nat.add_sub_cancel' h, ← List.drop_drop]
  exact (List.drop_sublist _ _).countP_le
theorem opn_lt {s : List Nat} {p n : Nat} (h : Opn s p n) : opn (s.drop n) + 1 ≤ opn (s.drop p) := by
  obtain ⟨e, o, h1, rfl, h2, h3⟩ := h
  refine Nat.le_trans (Nat.le_of_eq ?_) (opn_le h1)
  unfold opn
  rw [drop_get h2, List.countP_cons, if_pos (decide_eq_true h3)]
section
variable {C : Addr → Str → Option AttR} {cl : Cls} {f : Nat → Nat} {P1 P2 : Int → Int → PV} {s F : List Nat} {A : Nat → Nat → Prop} {ser serU : List Nat → List Nat}
theorem fn_one (T : TellAt C cl) {n : Nat} {l c l' c' : Nat} {w : List Nat} (hw : w.length ≤ 100000) (hp : P1 l c = P2 l' c') {b b' : Bs} {xs xs' : List PV} (hx : xs.length ≤ 1000000) (h : Sm C f P1 P2 n xs xs') :
    One C f P1 P2 (n + 1) ((fnFr cl (l, c) b (w.map f)).nd (.lst xs)) ((fnFr cl (l', c') b' w).nd (.lst xs')) := by
  obtain ⟨ys, h1, h2⟩ := h
  have hy : ys.length ≤ 1000000 := by rw [h1.len]; exact hx
  have hw' : (w.map f).length ≤ 100000 := by rw [List.length_map]; exact hw
  refine ⟨_, .fn (T.fn.at 3 rfl rfl rfl rfl) (T.fn.rd 2 rfl rfl) hw' (T.fn.rd 0 rfl rfl) (TRs.mk hy h1), ?_⟩
  rw [List.map_id, hp]
  exact .fn (T.fn.at 3 rfl rfl rfl rfl) (T.fn.rd 2 rfl rfl) hw (T.fn.rd 0 rfl rfl) (TRs.mk hy h2)
theorem blk_one (T : TellAt C cl) {n : Nat} {l c l' c' k : Nat} (hk : k = 123 ∨ k = 91 ∨ k = 40) (hp : P1 l c = P2 l' c') {b b' : Bs} {xs xs' : List PV} (hx : xs.length ≤ 1000000) (h : Sm C f P1 P2 n xs xs') :
    One C f P1 P2 (n + 1) ((blkFr cl (l, c) b k).nd (.lst xs)) ((blkFr cl (l', c') b' k).nd (.lst xs')) := by
  obtain ⟨ys, h1, h2⟩ := h
  have hy : ys.length ≤ 1000000 := by rw [h1.len]; exact hx
  have go : ∀ {tp : List Nat}, tp ∈ kBl → AttAt C (blkC cl k) tp ["content", "source_column", "source_line"] → One C f P1 P2 (n + 1) ((blkFr cl (l, c) b k).nd (.lst xs)) ((blkFr cl (l', c') b' k).nd (.lst xs')) := by
    intro tp ht h
    refine ⟨_, .bl ht (h.at 1 rfl rfl rfl rfl) (h.rd 0 rfl rfl) (TRs.mk hy h1), ?_⟩
    rw [hp]
    exact .bl ht (h.at 1 rfl rfl rfl rfl) (h.rd 0 rfl rfl) (TRs.mk hy h2)
  rcases hk with rfl | rfl | rfl
  · exact go (by decide) T.cur
  · exact go (by decide) T.sqr
  · exact go (by decide) T.par
structure Bo (C : Addr → Str → Option AttR) (f : Nat → Nat) (P1 P2 : Int → Int → PV) (k : Nat) (b b' : Bs) : Prop where
  ec : b.ec = b'.ec
  fr : FrS C f P1 P2 k b.fr b'.fr
  cu : Sm C f P1 P2 k b.cur b'.cur
theorem bo_step (T : TellAt C cl) (hL : s.length ≤ 100000) {p n k : Nat} {l c l' c' : Nat} (hp : P1 l c = P2 l' c') {st st' : Stp} (hs : SR s f p n st st') {b b' : Bs} (h : Bo C f P1 P2 k b b') (hn : p ≤ n) (hk : opn (s.drop p) ≤ k) (hcl : b.cur.length ≤ 1000000) :
    ∃ k', Bo C f P1 P2 k' (stepB cl (l, c) b st) (stepB cl (l', c') b' st') ∧ opn (s.drop n) ≤ k' ∧ k' + (stepB cl (l, c) b st).fr.length = k + b.fr.length := by
  have hle := opn_le (s := s) hn
  have opens : Opn s p n → ∀ {a a' : Fr} {e : Option Nat}, a.ec = b.ec → a'.ec = b'.ec → a.ini = b.cur → a'.ini = b'.cur → (∀ (n : Nat) (xs xs' : List PV), xs.length ≤ 1000000 → Sm C f P1 P2 n xs xs' → One C f P1 P2 (n + 1) (a.nd (.lst xs)) (a'.nd (.lst xs'))) →
      ∃ k', Bo C f P1 P2 k' ⟨a :: b.fr, [], e⟩ ⟨a' :: b'.fr, [], e⟩ ∧ opn (s.drop n) ≤ k' ∧ k' + (a :: b.fr).length = k + b.fr.length := by
    intro ho a a' e h1 h2 h3 h4 h5
    have := opn_lt ho
    cases k with
    | zero => exact absurd (Nat.le_trans this hk) (Nat.not_succ_le_zero _)
    | succ k => exact ⟨k, ⟨rfl, ⟨h1.trans (h.ec.trans h2.symm), by rw [h3, h4]; exact h.cu, h5 k, h.fr⟩, [], rfl, rfl⟩, Nat.le_of_succ_le_succ (Nat.le_trans this hk), (Nat.succ_add_eq_add_succ k b.fr.length).symm⟩
  have add : ∀ {ts ts' : List TK}, TKs f s.length ts ts' → ∃ k', Bo C f P1 P2 k' (addB cl (l, c) b ts) (addB cl (l', c') b' ts') ∧ opn (s.drop n) ≤ k' ∧ k' + (addB cl (l, c) b ts).fr.length = k + b.fr.length :=
    fun h' => ⟨k, ⟨h.ec, h.fr, Sm.toks T hL hp h' h.cu⟩, Nat.le_trans hle hk, rfl⟩
  cases hs with
  | tk h' => exact add h'
  | fn w ho hl => exact opens ho rfl rfl rfl rfl fun n xs xs' hx g => fn_one T (Nat.le_trans hl hL) hp hx g
  | blk x hx ho => exact opens ho rfl rfl rfl rfl fun n xs xs' hx' g => blk_one T hx hp hx' g
  | clo x =>
    rw [stepB_clo, stepB_clo, ← h.ec]
    by_cases hc : b.ec = some x
    · rw [if_pos hc, if_pos hc]
      clear add opens hc hn hp hL T
      obtain ⟨fr, cur, ec⟩ := b
      obtain ⟨fr', cur', ec'⟩ := b'
      obtain ⟨h1, h2, h3⟩ := h
      cases fr with
      | nil => cases fr' with
        | nil => exact ⟨k, ⟨h1, h2, h3⟩, Nat.le_trans hle hk, rfl⟩
        | cons => exact h2.elim
      | cons a r => cases fr' with
        | nil => exact h2.elim
        | cons a' r' =>
          obtain ⟨g1, g2, g3, g4⟩ := h2
          exact ⟨k + 1, ⟨g1, g4, g2.add (g3 _ _ hcl h3)⟩, Nat.le_succ_of_le (Nat.le_trans hle hk), Nat.succ_add_eq_add_succ k r.length⟩
    · rw [if_neg hc, if_neg hc]
      exact add (.cons ⟨rfl, rfl, rfl, Nat.zero_le _⟩ .nil)
noncomputable def NumOk (s : List Nat) : Prop := ∀ p e pl, numFrom s p = some (e, pl) → p < e ∧ e ≤ s.length
theorem parseB_end {n p : Nat} {b : Bs} (h : s[p]? = none) : parseB cl ser serU s n p b = closeAll b.fr b.cur := by
  cases n with
  | zero => rfl
  | succ n => rw [parseB, h]
theorem parseB_step {n p c : Nat} {b : Bs} (h : s[p]? = some c) : parseB cl ser serU s (n + 1) p b = parseB cl ser serU s n (stepAt ser serU s p c).2 (stepB cl (placeAt s p) b (stepAt ser serU s p c).1) := by rw [parseB, h]
theorem sim_end (X : Al s F f A) {p q k : Nat} {b b' : Bs} (a : A p q) (hL : s.length ≤ 100000) (len : lenF p b) (bo : Bo C f P1 P2 k b b') (hg : s[p]? = none) {n m : Nat} :
    Sm C f P1 P2 (k + b.fr.length) (parseB cl ser serU s n p b) (parseB cl ser serU F m q b') ∧ (parseB cl ser serU s n p b).length ≤ 999999 := by
  have hpl := (X.le a).1
  have hg' : F[q]? = none := by
    cases X.cs a with
    | nil _ h => exact h
    | pl c h => rw [hg] at h; cases h
    | es x y h => rw [hg] at h; cases h
  rw [parseB_end hg, parseB_end hg']
  have l1 := two_of hpl hL
  exact clo_al (Nat.le_trans len.1 (Nat.le_of_lt l1)) (fun x hx => Nat.lt_of_le_of_lt (len.2.1 x hx) l1) bo.fr bo.cu
theorem sim (X : Al s F f A) (T : TellAt C cl) (hL : s.length ≤ 100000) (h1 : NumOk s) (h2 : NumOk F) (hP : ∀ {p q : Nat}, A p q → q < F.length → P1 (placeAt s p).1 (placeAt s p).2 = P2 (placeAt F q).1 (placeAt F q).2) (n : Nat) :
    ∀ {m p q k : Nat} {b b' : Bs}, A p q → s.length - p ≤ n → F.length - q ≤ m → okF b.fr b.ec → lenF p b → Bo C f P1 P2 k b b' → opn (s.drop p) ≤ k →
      Sm C f P1 P2 (k + b.fr.length) (parseB cl ser serU s n p b) (parseB cl ser serU F m q b') ∧ (parseB cl ser serU s n p b).length ≤ 999999 := by
  induction n with
  | zero => exact fun {m p q k b b'} a hn hm ok len bo hk => sim_end X a hL len bo (List.getElem?_eq_none_iff.mpr (Nat.le_of_sub_eq_zero (Nat.le_zero.mp hn)))
  | succ n ih =>
    intro m p q k b b' a hn hm ok len bo hk
    cases hg : s[p]? with
    | none => exact sim_end X a hL len bo hg
    | some c =>
      obtain ⟨d, hd, r1, r2⟩ := stepAt_al (ser := ser) (serU := serU) X a hg
      have hpl := get_lt hg
      have hql := get_lt hd
      obtain ⟨f1, _, f3⟩ : Fwd s p (stepAt ser serU s p c) := stepAt_fwd hg fun e pl h => h1 p e pl h
      obtain ⟨f2, _, _⟩ : Fwd F q (stepAt ser serU F q d) := stepAt_fwd hd fun e pl h => h2 q e pl h
      obtain ⟨m, rfl⟩ := succ_of hm hql
      rw [parseB_step hg, parseB_step hd]
      obtain ⟨k', g1, g2, g3⟩ := bo_step T hL (hP a hql) r1 bo (Nat.le_of_lt f1) hk (Nat.le_trans len.1 (Nat.le_of_lt (Nat.lt_trans (two_of (Nat.le_of_lt hpl) hL) (by decide))))
      obtain ⟨o1, o2⟩ := step_ok (cl := cl) (pl := placeAt s p) ok len f1 f3
      rw [← g3]
      exact ih r2 (dec_of hn f1) (dec_of hm f2) o1 o2 g1 g2
theorem both (X : Al s F f A) (T : TellAt C cl) (hL : s.length ≤ 100000) (h1 : NumOk s) (h2 : NumOk F) (hP : ∀ {p q : Nat}, A p q → q < F.length → P1 (placeAt s p).1 (placeAt s p).2 = P2 (placeAt F q).1 (placeAt F q).2) (a : A 0 0) {k : Nat} (hk : opn s ≤ k) :
    ∃ ys, TRs C id P1 k (parseB cl ser serU s s.length 0 ⟨[], [], none⟩) ys ∧ TRs C f P2 k (parseB cl ser serU F F.length 0 ⟨[], [], none⟩) ys := by
  obtain ⟨⟨ys, g1, g2⟩, g3⟩ := sim (ser := ser) (serU := serU) X T hL h1 h2 hP s.length (m := F.length) (b := ⟨[], [], none⟩) (b' := ⟨[], [], none⟩) (k := k) a (Nat.sub_le _ _) (Nat.sub_le _ _) rfl ⟨Nat.le_refl _, fun f hf => (nomatch hf), Nat.le_refl _⟩ ⟨rfl, trivial, [], rfl, rfl⟩ hk
  have hy : ys.length ≤ 1000000 := by rw [g1.len]; exact Nat.le_succ_of_le g3
  exact ⟨ys, .mk hy g1, .mk hy g2⟩
end
end Mine
end
section
set_option backward.match.sparseCases false
namespace Mine
open PySem PySem.W
theorem get_of_drop {α : Type} {l r : List α} {n : Nat} {x : α} (h : l.drop n = x :: r) : l[n]? = some x ∧ l.drop (n + 1) = r ∧ n + 1 ≤ l.length := by
  have h1 : l[n]? = some x := by rw [← List.head?_drop, h]; rfl
  exact ⟨h1, by rw [← List.drop_drop, h]; rfl, get_lt h1⟩
theorem none_of_drop {α : Type} {l : List α} {n : Nat} (h : l.drop n = []) : l[n]? = none := by rw [← List.head?_drop, h]; rfl
structure FoF (s : List Nat) (p m : Nat) (r : Fold) : Prop where
  ol : r.org.length = r.sg.length
  sl : r.sg.length ≤ s.length - p
  vl : r.vs.length ≤ r.sg.length
  ks : r.ks = (List.range' m r.vs.length).map (57344 + ·)
  ur : ∀ v ∈ r.vs, urlL v = false
  og : ∀ x ∈ r.org, x < s.length
  sg : ∀ c ∈ r.sg, c ∈ s ∨ urlL c = true ∨ (57344 + m ≤ c ∧ c < 57344 + m + r.vs.length)
theorem esc_cases (s : List Nat) {p c : Nat} (h : s[p]? = some c) : isEscAt s p = false ∨ (isEscAt s p = true ∧ c = 92 ∧ ∃ y, s[p + 1]? = some y ∧ y ≠ 10 ∧ p + 1 + (escSpec (s.drop (p + 1))).2 ≤ s.length) := by
  cases he : isEscAt s p with
  | false => exact .inl rfl
  | true =>
    unfold isEscAt at he
    obtain ⟨h1, h2⟩ := Bool.and_eq_true_iff.mp he
    have h1 := of_decide_eq_true h1
    rw [h] at h1
    cases hy : s[p + 1]? with
    | none => rw [hy] at h2; cases h2
    | some y =>
      rw [hy, Option.any_some] at h2
      refine .inr ⟨rfl, Option.some.inj h1, y, rfl, fun e => ?_, (esc_le hy).1⟩
      rw [decide_eq_true e] at h2; cases h2
theorem ocons {l : List Nat} {p n : Nat} (h : p < n) (g : ∀ x ∈ l, x < n) : ∀ x ∈ p :: l, x < n := fun x hx => by
  rcases List.mem_cons.mp hx with rfl | hx
  · exact h
  · exact g x hx
theorem fo_facts (s : List Nat) : ∀ (n p m : Nat), FoF s p m (foldS s n p m)
  | 0, p, m => ⟨rfl, Nat.zero_le _, Nat.le_refl _, rfl, fun v hv => (nomatch hv), fun v hv => (nomatch hv), fun c hc => nomatch hc⟩
  | n + 1, p, m => by
    cases h : s[p]? with
    | none => rw [fold_end h]; exact ⟨rfl, Nat.zero_le _, Nat.le_refl _, rfl, fun v hv => (nomatch hv), fun v hv => (nomatch hv), fun c hc => nomatch hc⟩
    | some c =>
      have hp := get_lt h
      rcases esc_cases s h with he | ⟨he, h92, y, hy, _, hle⟩
      · obtain ⟨g1, g2, g3, g4, g5, go, g6⟩ := fo_facts s n (p + 1) m
        rw [fold_plain h he]
        refine ⟨congrArg (· + 1) g1, ?_, Nat.le_succ_of_le g3, g4, g5, ocons hp go, fun x hx => ?_⟩
        · exact up_of g2 (Nat.lt_succ_self p) hp
        · rcases List.mem_cons.mp hx with rfl | hx
          · exact .inl (List.mem_of_getElem? h)
          · exact g6 x hx
      · obtain ⟨g, k, hg⟩ : ∃ g k, escSpec (s.drop (p + 1)) = (g, k) := ⟨_, _, rfl⟩
        rw [hg] at hle
        cases hu : urlL g with
        | true =>
          obtain ⟨g1, g2, g3, g4, g5, go, g6⟩ := fo_facts s n (p + 1 + k) m
          rw [fold_url h he hg hu]
          refine ⟨congrArg (· + 1) g1, ?_, Nat.le_succ_of_le g3, g4, g5, ocons hp go, fun x hx => ?_⟩
          · exact up_of g2 lt1_of hp
          · rcases List.mem_cons.mp hx with rfl | hx
            · exact .inr (.inl hu)
            · exact g6 x hx
        | false =>
          obtain ⟨g1, g2, g3, g4, g5, go, g6⟩ := fo_facts s n (p + 1 + k) (m + 1)
          rw [fold_esc h he hg hu]
          refine ⟨congrArg (· + 1) g1, ?_, Nat.succ_le_succ g3, ?_, fun v hv => ?_, ocons hp go, fun x hx => ?_⟩
          · exact up_of g2 lt1_of hp
          · show _ :: _ = (List.range' m (_ + 1)).map _
            rw [List.range'_succ, g4]; rfl
          · rcases List.mem_cons.mp hv with rfl | hv
            · exact hu
            · exact g5 v hv
          · show _ ∨ _ ∨ (_ ∧ x < 57344 + m + (_ + 1))
            rcases List.mem_cons.mp hx with rfl | hx
            · exact .inr (.inr ⟨Nat.le_refl _, Nat.lt_add_of_pos_right (Nat.succ_pos _)⟩)
            · rcases g6 x hx with h | h | h
              · exact .inl h
              · exact .inr (.inl h)
              · exact .inr (.inr ⟨Nat.le_of_succ_le h.1, Nat.lt_of_lt_of_eq h.2 (Nat.succ_add_eq_add_succ (57344 + m) _)⟩)
noncomputable def meanF (vs : List Nat) (c : Nat) : Nat := if 57344 ≤ c then (vs[c - 57344]?).getD c else c
noncomputable def AtF (s : List Nat) (R : Fold) (p q : Nat) : Prop :=
  ∃ n m, s.length - p ≤ n ∧ p ≤ s.length ∧ q ≤ R.sg.length ∧ R.sg.drop q = (foldS s n p m).sg ∧ R.org.drop q = (foldS s n p m).org ∧ R.vs.drop m = (foldS s n p m).vs
theorem atF_0 (s : List Nat) : AtF s (foldS s s.length 0 0) 0 0 := ⟨s.length, 0, Nat.sub_le _ _, Nat.zero_le _, Nat.zero_le _, rfl, rfl, rfl⟩
theorem atF_org {s : List Nat} {R : Fold} {p q : Nat} (a : AtF s R p q) (h : q < R.sg.length) : R.org[q]? = some p := by
  obtain ⟨n, m, h1, h2, h3, h4, h5, h6⟩ := a
  cases hg : s[p]? with
  | none =>
    rw [fold_end hg] at h4
    exact absurd h (Nat.not_lt.mpr (get_ge (none_of_drop h4)))
  | some c =>
    have hp := get_lt hg
    obtain ⟨n, rfl⟩ := succ_of h1 hp
    rcases esc_cases s hg with he | ⟨he, _⟩
    · rw [fold_plain hg he] at h5; exact (get_of_drop h5).1
    · obtain ⟨g, k, hk⟩ : ∃ g k, escSpec (s.drop (p + 1)) = (g, k) := ⟨_, _, rfl⟩
      cases hu : urlL g with
      | true => rw [fold_url hg he hk hu] at h5; exact (get_of_drop h5).1
      | false => rw [fold_esc hg he hk hu] at h5; exact (get_of_drop h5).1
noncomputable def okS (c : Nat) : Prop := c < 57344 ∨ 60000 ≤ c
theorem url_low {g : Nat} (h : urlL g = true) : g < 57344 := by rcases of_decide_eq_true h with h | h | h | h | h | h <;> subst h <;> decide
theorem mean_ok {vs : List Nat} (hv : vs.length ≤ 1000) {c : Nat} (h : okS c) : meanF vs c = c := by
  unfold meanF
  split
  · rename_i h5
    rw [List.getElem?_eq_none (Nat.le_trans hv (Nat.le_sub_of_add_le (Nat.le_trans (show 1000 + 57344 ≤ 60000 by decide) (h.resolve_left (Nat.not_lt.mpr h5)))))]; rfl
  · rfl
theorem atF_cs {s : List Nat} {R : Fold} (hs : ∀ c ∈ s, okS c) (hv : R.vs.length ≤ 1000) {p q : Nat} (a : AtF s R p q) : Cs s R.sg (meanF R.vs) (AtF s R) p q := by
  obtain ⟨n, m, h1, h2, h3, h4, h5, h6⟩ := a
  cases hg : s[p]? with
  | none => rw [fold_end hg] at h4; exact .nil hg (none_of_drop h4)
  | some c =>
    have hp := get_lt hg
    obtain ⟨n, rfl⟩ := succ_of h1 hp
    rcases esc_cases s hg with he | ⟨he, h92, y, hy, hy10, hle⟩
    · rw [fold_plain hg he] at h4 h5 h6
      obtain ⟨k1, k2, k3⟩ := get_of_drop h4
      refine .pl c hg k1 (fun e => ?_) (mean_ok hv (hs c (List.mem_of_getElem? hg))) ⟨n, m, dec_of h1 (Nat.lt_succ_self p), hp, k3, k2, (get_of_drop h5).2.1, h6⟩
      subst e
      cases hy : s[p + 1]? with
      | none => rw [fold_end hy] at k2; exact .inl ⟨rfl, none_of_drop k2⟩
      | some y =>
        have hy10 : y = 10 := by
          unfold isEscAt at he
          rw [hg, hy, decide_eq_true rfl, Bool.true_and, Option.any_some] at he
          cases hd : decide (y = 10) with
          | true => exact of_decide_eq_true hd
          | false => rw [hd] at he; cases he
        subst hy10
        have hp2 := get_lt hy
        obtain ⟨n, rfl⟩ := succ_of (dec_of h1 (Nat.lt_succ_self p)) hp2
        rw [fold_plain hy (by unfold isEscAt; rw [hy]; rfl)] at k2
        exact .inr ⟨rfl, (get_of_drop k2).1⟩
    · subst h92
      obtain ⟨g, k, hk⟩ : ∃ g k, escSpec (s.drop (p + 1)) = (g, k) := ⟨_, _, rfl⟩
      have e1 : (escSpec (s.drop (p + 1))).1 = g := by rw [hk]
      have e2 : (escSpec (s.drop (p + 1))).2 = k := by rw [hk]
      have hk0 := (esc_le hy).2
      rw [e2] at hle hk0
      cases hu : urlL g with
      | true =>
        rw [fold_url hg he hk hu] at h4 h5 h6
        obtain ⟨k1, k2, k3⟩ := get_of_drop h4
        have hlow := url_low hu
        exact .es g y hg hy hy10 k1 (.inr hu) ((mean_ok hv (.inl hlow)).trans e1.symm) (e2 ▸ ⟨n, m, dec_of h1 lt1_of, hle, k3, k2, (get_of_drop h5).2.1, h6⟩)
      | false =>
        rw [fold_esc hg he hk hu] at h4 h5 h6
        obtain ⟨k1, k2, k3⟩ := get_of_drop h4
        obtain ⟨v1, v2, _⟩ := get_of_drop h6
        refine .es (57344 + m) y hg hy hy10 k1 (.inl (Nat.le_add_right _ _)) ?_ (e2 ▸ ⟨n, m + 1, dec_of h1 lt1_of, hle, k3, k2, (get_of_drop h5).2.1, v2⟩)
        unfold meanF
        rw [if_pos (Nat.le_add_right _ _), Nat.add_sub_cancel_left, v1, e1]; rfl
theorem fold_al {s : List Nat} (hL : s.length ≤ 900) (hs : ∀ c ∈ s, okS c) (he : ∀ {p : Nat}, s[p]? = some 92 → s[p + 1]? = some 92 → ¬ s[p + 2]? = some 41) : Al s (foldS s s.length 0 0).sg (meanF (foldS s s.length 0 0).vs) (AtF s (foldS s s.length 0 0)) := by
  obtain ⟨g1, g2, g3, g4, g5, go, g6⟩ := fo_facts s s.length 0 0
  generalize foldS s s.length 0 0 = R at *
  have hv : R.vs.length ≤ 1000 := Nat.le_trans g3 (Nat.le_trans g2 (Nat.le_trans hL (by decide)))
  refine ⟨atF_cs hs hv, fun a => ?_, mean_ok hv (.inr (by decide)), fun h => if_neg (Nat.not_le.mpr h), fun x hx => ?_, he⟩
  · obtain ⟨n, m, h1, h2, h3, _⟩ := a; exact ⟨h2, h3⟩
  · rcases hx with hx | hx
    · exact if_neg (Nat.not_le.mpr (url_low hx))
    · unfold meanF at hx ⊢
      split
      · rename_i h5
        rw [if_pos h5] at hx
        cases hg : R.vs[x - 57344]? with
        | none => rfl
        | some v =>
          rw [hg] at hx
          exact absurd ((g5 v (List.mem_of_getElem? hg)).symm.trans hx) Bool.false_ne_true
      · rfl
end Mine
end
section
set_option backward.match.sparseCases false
namespace Mine
open PySem PySem.W
theorem assoc_keys {c : Nat} : ∀ (vs : List Nat) (m : Nat), (assocP [c] (((List.range' m vs.length).map (57344 + ·)).map fun k => [k]) (one1 vs)).getD (.str [c]) = .str [if 57344 + m ≤ c then (vs[c - 57344 - m]?).getD c else c]
  | [], m => by
    show PV.str [c] = _
    split <;> rfl
  | v :: vs, m => by
    show (if [57344 + m] = [c] then some (PV.str [v]) else assocP [c] (((List.range' (m + 1) vs.length).map (57344 + ·)).map fun k => [k]) (one1 vs)).getD _ = _
    by_cases h : 57344 + m = c
    · subst h
      rw [if_pos rfl, if_pos (Nat.le_refl _), Nat.add_sub_cancel_left, Nat.sub_self]; rfl
    · rw [if_neg (fun k => h (cons1 k)), assoc_keys vs (m + 1)]
      by_cases h2 : 57344 + m ≤ c
      · rw [if_pos h2, if_pos (show 57344 + (m + 1) ≤ c by lia), show c - 57344 - m = (c - 57344 - (m + 1)) + 1 by lia]; rfl
      · rw [if_neg h2, if_neg (show ¬ 57344 + (m + 1) ≤ c by lia)]
theorem mean_fold (s : List Nat) : MeanOK ((foldS s s.length 0 0).ks.map fun k => [k]) (one1 (foldS s s.length 0 0).vs) (meanF (foldS s s.length 0 0).vs) := by
  intro c
  rw [(fo_facts s s.length 0 0).ks]
  have := assoc_keys (c := c) (foldS s s.length 0 0).vs 0
  rw [Nat.add_zero, Nat.sub_zero] at this
  exact this
theorem mean_id : MeanOK [] [] id := fun c => rfl
theorem place_key (s : List Nat) : ∀ (k q : Nat), q + k < s.length → (placesF (placeAt s q).1 (placeAt s q).2 (s.drop q))[k]? = some (placeAt s (q + k))
  | k, q, hk => by
    obtain ⟨x, hx⟩ : ∃ x, s[q]? = some x := ⟨_, List.getElem?_eq_getElem (Nat.lt_of_le_of_lt (Nat.le_add_right _ _) hk)⟩
    rw [drop_get hx]
    cases k with
    | zero => rfl
    | succ k =>
      have ih := place_key s k (q + 1) (Nat.lt_of_le_of_lt (Nat.le_of_eq (Nat.succ_add_eq_add_succ q k)) hk)
      rw [placeAt_succ, show isAt s 10 q = decide (x = 10) by unfold isAt; rw [hx]; exact decide_eq_decide.mpr ⟨Option.some.inj, congrArg some⟩] at ih
      rw [← Nat.succ_add_eq_add_succ q k, ← ih, placesF, List.getElem?_cons_succ]
      by_cases q10 : x = 10
      · rw [if_pos q10, decide_eq_true q10]; rfl
      · rw [if_neg q10, decide_eq_false q10]; rfl
theorem place_get {s : List Nat} {q : Nat} (h : q < s.length) : (placesF 1 1 s)[q]? = some (placeAt s q) := by
  have := place_key s q 0 (by rw [Nat.zero_add]; exact h)
  rwa [Nat.zero_add] at this
theorem places_gt : ∀ (s : List Nat) (l c : Nat), ∀ x ∈ placesF l c s, l < x.1 ∨ (l = x.1 ∧ c ≤ x.2)
  | [], _, _, _, h => nomatch h
  | y :: r, l, c, x, h => by
    rw [placesF] at h
    rcases List.mem_cons.mp h with rfl | h
    · exact .inr ⟨rfl, Nat.le_refl _⟩
    split at h
    · have := places_gt r _ _ x h; exact .inl (by lia)
    · have := places_gt r _ _ x h; lia
theorem places_nd : ∀ (s : List Nat) (l c : Nat), (placesF l c s).Nodup
  | [], _, _ => List.nodup_nil
  | y :: r, l, c => by
    rw [placesF]
    refine List.nodup_cons.mpr ⟨fun h => ?_, ?_⟩
    · split at h
      · have := places_gt r _ _ _ h; lia
      · have := places_gt r _ _ _ h; lia
    · split
      · exact places_nd r _ _
      · exact places_nd r _ _
noncomputable def keyI (q : Nat × Nat) : List Int := [(q.1 : Int), (q.2 : Int)]
theorem keyI_inj {a b : Nat × Nat} (h : keyI a = keyI b) : a = b := by
  obtain ⟨h1, h2⟩ := List.cons.inj h
  exact Prod.ext (Int.ofNat.inj h1) (Int.ofNat.inj (List.cons.inj h2).1)
theorem assocT_get {k : Nat × Nat} {v : PV} : ∀ {ks : List (Nat × Nat)} {vs : List PV} {i : Nat}, ks.Nodup → ks[i]? = some k → vs[i]? = some v → assocT (keyI k) (ks.map keyI) vs = some v
  | [], _, _, _, h, _ => nomatch h
  | _ :: _, [], _, _, _, h => nomatch h
  | a :: ks, w :: vs, i, hn, h1, h2 => by
    obtain ⟨n1, n2⟩ := List.nodup_cons.mp hn
    show (if keyI a = keyI k then some w else assocT (keyI k) (ks.map keyI) vs) = some v
    cases i with
    | zero => cases h1; cases h2; exact if_pos rfl
    | succ i =>
      rw [if_neg fun e => n1 (by rw [keyI_inj e]; exact List.mem_of_getElem? h1)]
      exact assocT_get n2 h1 h2
noncomputable def plV (s : List Nat) (og : List Nat) : List PV := og.map fun p => plPV (placeAt s p)
theorem plG_is {s F og : List Nat} {p q : Nat} (h : q < F.length) (ho : og[q]? = some p) : plG [] [] (placeAt s p).1 (placeAt s p).2 = plG ((placesF 1 1 F).map keyI) (plV s og) (placeAt F q).1 (placeAt F q).2 := by
  have := assocT_get (places_nd F 1 1) (place_get h) (show (plV s og)[q]? = some (plPV (placeAt s p)) by unfold plV; rw [List.getElem?_map, ho]; rfl)
  unfold plG
  rw [show ([((placeAt F q).1 : Int), ((placeAt F q).2 : Int)] : List Int) = keyI (placeAt F q) from rfl, this]; rfl
theorem digRun_le : ∀ s : List Nat, digRun s ≤ s.length ∧ ∀ c ∈ s.take (digRun s), isDig c = true
  | [] => ⟨Nat.le_refl _, fun c h => nomatch h⟩
  | c :: r => by
    rw [digRun]
    cases h : isDig c with
    | false => exact ⟨Nat.zero_le _, fun c h => nomatch h⟩
    | true =>
      obtain ⟨h1, h2⟩ := digRun_le r
      rw [if_pos rfl]
      refine ⟨Nat.succ_le_succ h1, fun x hx => ?_⟩
      rw [List.take_succ_cons] at hx
      rcases List.mem_cons.mp hx with rfl | hx
      · exact h
      · exact h2 x hx
theorem run_le {s : List Nat} {p : Nat} (h : p ≤ s.length) : p + digRun (s.drop p) ≤ s.length := by
  have := (digRun_le (s.drop p)).1
  rw [List.length_drop] at this; exact add_sub_le this h
theorem exp_facts {s : List Nat} {e : Nat} {pl : Bool} (h : e ≤ s.length) : e ≤ (numExp s e pl).1 ∧ (numExp s e pl).1 ≤ s.length ∧ ((numExp s e pl).2 = true → numExp s e pl = (e, pl)) := by
  unfold numExp
  split
  · have : e ≤ if signAt s (e + 1) = true then e + 2 else e + 1 := by
      split
      · exact Nat.le_add_right _ _
      · exact Nat.le_succ _
    generalize (if signAt s (e + 1) = true then e + 2 else e + 1) = i at *
    split
    · rename_i hd
      exact ⟨Nat.le_trans this (Nat.le_add_right _ _), run_le (Nat.le_of_lt (digAt_lt hd)), fun h => nomatch h⟩
    · exact ⟨Nat.le_refl _, h, fun _ => rfl⟩
  · exact ⟨Nat.le_refl _, h, fun _ => rfl⟩
theorem numB_facts {s : List Nat} {i : Nat} {x : Nat × Bool} (h : i ≤ s.length) (hn : numB s i (i + digRun (s.drop i)) = some x) : i < x.1 ∧ x.1 ≤ s.length ∧ (x.2 = true → x.1 = i + digRun (s.drop i)) := by
  have h1 := run_le h
  unfold numB at hn
  split at hn
  · rename_i hd
    cases hn
    have h2 := digAt_lt hd.2
    obtain ⟨e1, e2, e3⟩ := exp_facts (pl := false) (run_le (s := s) (p := i + digRun (s.drop i) + 2) h2)
    exact ⟨Nat.lt_of_le_of_lt (Nat.le_add_right _ _) (Nat.lt_of_lt_of_le (Nat.lt_add_of_pos_right (Nat.succ_pos 1)) (Nat.le_trans (Nat.le_add_right _ _) e1)), e2, fun h => by have := congrArg Prod.snd (e3 h); rw [h] at this; cases this⟩
  split at hn
  · cases hn
  · rename_i hne
    cases hn
    obtain ⟨e1, e2, e3⟩ := exp_facts (pl := true) h1
    exact ⟨Nat.lt_of_lt_of_le (Nat.lt_of_le_of_ne (Nat.le_add_right _ _) (Ne.symm hne)) e1, e2, fun h => congrArg Prod.fst (e3 h)⟩
end Mine
end
section
set_option backward.match.sparseCases false
namespace Mine
open PySem PySem.W PySem.StrLaws PySem.Builtin PySem.Builtin.Str
noncomputable def occL (p s : List Nat) : Nat → Nat → Nat → List Nat
  | _, _, 0 => []
  | free, i, n + 1 => if free ≤ i ∧ startsAt s p i = true then i :: occL p s (i + p.length) (i + 1) n else occL p s free (i + 1) n
theorem occ_run (p s : List Nat) : ∀ (n i : Nat) (st : Array Nat × Nat), st.1.size ≤ i → i + n = s.length + 1 →
    (forIn (List.range' i n) st (occBody (sOf s) (sOf p) (sOf s).length (s.length + 1))).run.1.toList = st.1.toList ++ occL p s st.2 i n
  | 0, i, st, _, _ => by simp [occL]
  | n + 1, i, st, h1, h2 => by
    rw [List.range'_succ, List.forIn_cons]
    unfold occBody occL
    have hs := startsAt_eq s p i
    by_cases h : st.2 ≤ i ∧ startsAt s p i = true
    · rw [h.2, Bool.and_eq_true, decide_eq_true_eq] at hs
      rw [if_pos ⟨⟨⟨by lia, h.1⟩, hs.1⟩, hs.2⟩, if_pos h]
      have := occ_run p s n (i + 1) (st.1.push i, i + (sOf p).length) (by simp; lia) (by lia)
      refine Eq.trans this ?_
      simp [sOf_length]
    · rw [if_neg (fun q => h ⟨q.1.1.2, by rw [← hs, Bool.and_eq_true, decide_eq_true_eq]; exact ⟨q.1.2, q.2⟩⟩), if_neg h]
      have := occ_run p s n (i + 1) (st.1, st.2) (by dsimp only; lia) (by lia)
      exact this
theorem occ_is (p s : List Nat) : occurrences (sOf s) (sOf p) 0 s.length (s.length + 1) = occL p s 0 0 (s.length + 1) := by
  rw [occ_eq]
  have hl : (sOf s).length = s.length := sOf_length s
  have := occ_run p s (s.length + 1) 0 (#[], 0) (by simp) (by lia)
  rw [hl] at this
  simpa using this
theorem occL_skip (p s : List Nat) : ∀ (k free i n : Nat), free = i + k → occL p s free i (k + n) = occL p s free free n
  | 0, free, i, n, h => by rw [Nat.add_zero] at h; subst h; rw [Nat.zero_add]
  | k + 1, free, i, n, h => by
    rw [show k + 1 + n = k + n + 1 by lia, occL, if_neg (by lia)]
    exact occL_skip p s k free (i + 1) n (by lia)
noncomputable def rep (p : List Nat) (q : Nat) : Nat → List Nat → List Nat
  | 0, s => s
  | _, [] => []
  | n + 1, c :: r => if startsAt (c :: r) p 0 = true then q :: rep p q n ((c :: r).drop p.length) else c :: rep p q n r
theorem startsAt_drop (s p : List Nat) (i : Nat) (h : i ≤ s.length) : startsAt (s.drop i) p 0 = startsAt s p i := by
  unfold startsAt
  rw [List.drop_zero, List.length_drop]
  congr 1
  rw [Bool.eq_iff_iff]; simp; lia
theorem sub_list (s : List Nat) (a b : Nat) : (strSub (sOf s) a b).cps.toList = (s.drop a).take (b - a) := by
  rw [strSub_toList]
theorem str_app (x y : Str) : (x ++ y).cps.toList = x.cps.toList ++ y.cps.toList := by
  simp [Str.cps_append]
theorem join_cons (z x : Str) {l : List Str} (h : l ≠ []) : Str.join z (x :: l) = x ++ z ++ Str.join z l := by
  cases l with
  | nil => exact absurd rfl h
  | cons => rfl
theorem rep_fuel (p : List Nat) (q : Nat) (hp : 0 < p.length) : ∀ (k j : Nat) (t : List Nat), t.length ≤ k → t.length ≤ j → rep p q k t = rep p q j t
  | 0, j, [], _, _ => by cases j <;> rfl
  | k + 1, j, [], _, _ => by cases j <;> rfl
  | 0, _, _ :: _, h, _ => nomatch h
  | _ + 1, 0, _ :: _, _, h => nomatch h
  | k + 1, j + 1, x :: t, h1, h2 => by
    have hd : ((x :: t).drop p.length).length ≤ t.length := by
      rw [List.length_drop]; exact Nat.le_of_lt_succ (Nat.sub_lt (Nat.succ_pos _) hp)
    have g1 := Nat.le_of_succ_le_succ h1
    have g2 := Nat.le_of_succ_le_succ h2
    rw [rep, rep, rep_fuel p q hp k j t g1 g2, rep_fuel p q hp k j _ (Nat.le_trans hd g1) (Nat.le_trans hd g2)]
theorem occL_free (p s : List Nat) : ∀ (n j f f' : Nat), f ≤ j → f' ≤ j → occL p s f j n = occL p s f' j n
  | 0, _, _, _, _, _ => rfl
  | n + 1, j, f, f', h1, h2 => by
    rw [occL, occL, occL_free p s n (j + 1) f f' (Nat.le_succ_of_le h1) (Nat.le_succ_of_le h2)]
    simp only [h1, h2, true_and]
theorem rep_join (p : List Nat) (q : Nat) (s : List Nat) (hp : 0 < p.length) : ∀ (m n i a : Nat), n ≤ m → i + n = s.length + 1 → a ≤ i → i ≤ s.length + 1 →
    (Str.join (sOf [q]) (partsFrom (sOf s) p.length a (occL p s i i n))).cps.toList = (s.drop a).take (i - a) ++ rep p q n (s.drop i) := by
  have last : ∀ {a : Nat}, (Str.join (sOf [q]) (partsFrom (sOf s) p.length a [])).cps.toList = s.drop a := fun {a} => by
    show (strSub (sOf s) a (sOf s).length).cps.toList = _
    rw [sOf_length, sub_list, List.take_of_length_le (Nat.le_of_eq List.length_drop)]
  have tk : ∀ {a i : Nat}, s.length ≤ i → (s.drop a).take (i - a) = s.drop a := fun {a i} h => List.take_of_length_le (by rw [List.length_drop]; exact Nat.sub_le_sub_right h a)
  intro m
  induction m with
  | zero =>
    intro n i a hm hn ha hi
    obtain rfl := Nat.le_zero.mp hm
    have h : s.length ≤ i := by rw [Nat.add_zero] at hn; rw [hn]; exact Nat.le_succ _
    show _ = _ ++ s.drop i
    rw [List.drop_eq_nil_of_le h, List.append_nil, tk h]
    exact last
  | succ m ih =>
    intro n i a hm hn ha hi
    cases n with
    | zero => exact ih 0 i a (Nat.zero_le _) hn ha hi
    | succ n =>
      have hn' : i + n = s.length := Nat.succ.inj hn
      have hm' := Nat.le_of_succ_le_succ hm
      rw [occL]
      by_cases h : startsAt s p i = true
      · rw [if_pos ⟨Nat.le_refl _, h⟩]
        have hsl : i + p.length ≤ s.length := by
          unfold startsAt at h
          simp only [Bool.and_eq_true, decide_eq_true_eq] at h
          exact h.2
        have hil : i < s.length := Nat.lt_of_lt_of_le (Nat.lt_add_of_pos_right hp) hsl
        obtain ⟨c, hc⟩ : ∃ c, s[i]? = some c := ⟨_, List.getElem?_eq_getElem hil⟩
        have hdr := drop_get hc
        obtain ⟨k, hk⟩ : ∃ k, p.length = k + 1 := Nat.exists_eq_succ_of_ne_zero (Nat.ne_of_gt hp)
        have hpn : p.length ≤ n := Nat.le_of_add_le_add_left (a := i) (by rw [hn']; exact hsl)
        obtain ⟨n', rfl⟩ : ∃ n', n = k + n' := Nat.exists_eq_add_of_le (Nat.le_trans (Nat.le_succ k) (Nat.le_trans (Nat.le_of_eq hk.symm) hpn))
        have e1 : i + p.length = i + 1 + k := by rw [hk]; exact (Nat.succ_add_eq_add_succ i k).symm
        have e2 : i + p.length + n' = s.length + 1 := by rw [e1, Nat.add_assoc, Nat.add_right_comm, hn']
        rw [occL_skip p s k (i + p.length) (i + 1) n' e1]
        show (Str.join (sOf [q]) (strSub (sOf s) a i :: partsFrom (sOf s) p.length (i + p.length) (occL p s (i + p.length) (i + p.length) n'))).cps.toList = _
        obtain ⟨w1, w2, hw⟩ := partsFrom_ne (sOf s) p.length (i + p.length) (occL p s (i + p.length) (i + p.length) n')
        rw [join_cons _ _ (by rw [hw]; exact List.cons_ne_nil _ _), str_app, str_app, ih n' (i + p.length) (i + p.length) (Nat.le_trans (Nat.le_add_left n' k) hm') e2 (Nat.le_refl _) (Nat.le_succ_of_le hsl), sub_list]
        have hs0 : startsAt (s.drop i) p 0 = true := by rw [startsAt_drop s p i (Nat.le_of_lt hil)]; exact h
        have hfu : rep p q (k + n') (s.drop (i + p.length)) = rep p q n' (s.drop (i + p.length)) := by
          have hl : (s.drop (i + p.length)).length ≤ n' := by
            rw [List.length_drop]; exact Nat.sub_le_of_le_add (by rw [Nat.add_comm, e2]; exact Nat.le_succ _)
          exact rep_fuel p q hp _ _ _ (Nat.le_trans hl (Nat.le_add_left _ _)) hl
        have e3 : rep p q (k + n' + 1) (s.drop i) = q :: rep p q (k + n') (s.drop (i + p.length)) := by
          rw [← List.drop_drop]
          rw [hdr] at hs0 ⊢
          exact if_pos hs0
        rw [e3, hfu, Nat.sub_self, List.take_zero, List.nil_append, List.append_assoc]; rfl
      · rw [if_neg (fun k => h k.2)]
        cases hc : s[i]? with
        | none =>
          have hge := get_ge hc
          obtain rfl : n = 0 := Nat.add_left_cancel (n := i) (Nat.le_antisymm (by rw [hn']; exact hge) (Nat.le_add_right _ _))
          rw [drop_none hc, show rep p q (0 + 1) [] = [] from rfl, List.append_nil, tk hge]
          exact last
        | some c =>
          have hlt := get_lt hc
          have hdr := drop_get hc
          have hs0 : ¬ startsAt (s.drop i) p 0 = true := by rw [startsAt_drop s p i (Nat.le_of_lt hlt)]; exact h
          have e3 : rep p q (n + 1) (s.drop i) = c :: rep p q n (s.drop (i + 1)) := by
            rw [hdr] at hs0 ⊢
            exact if_neg hs0
          rw [occL_free p s n (i + 1) i (i + 1) (Nat.le_succ _) (Nat.le_refl _), ih n (i + 1) a hm' (by rw [Nat.succ_add]; exact congrArg Nat.succ hn') (Nat.le_succ_of_le ha) (Nat.succ_le_succ (Nat.le_of_lt hlt)), take_snoc hc ha, e3, List.append_assoc]; rfl
theorem rep_same (p : List Nat) (q : Nat) (s : List Nat) : ∀ (n i : Nat), i + n = s.length + 1 → occL p s i i n = [] → rep p q n (s.drop i) = s.drop i
  | 0, i, h, _ => rfl
  | n + 1, i, h, ho => by
    cases hc : s[i]? with
    | none => rw [drop_none hc]; rfl
    | some c =>
      have hlt := get_lt hc
      have hdr := drop_get hc
      rw [occL] at ho
      by_cases hs : startsAt s p i = true
      · rw [if_pos ⟨Nat.le_refl _, hs⟩] at ho; cases ho
      · rw [if_neg (fun k => hs k.2), occL_free p s n (i + 1) i (i + 1) (Nat.le_succ _) (Nat.le_refl _)] at ho
        have ih := rep_same p q s n (i + 1) (by rw [Nat.succ_add]; exact h) ho
        rw [← startsAt_drop s p i (Nat.le_of_lt hlt)] at hs
        rw [hdr] at hs ⊢
        exact (if_neg hs).trans (congrArg (c :: ·) ih)
theorem replL_rep (p : List Nat) (q : Nat) (s : List Nat) (hp : p ≠ []) : replL p q s = rep p q (s.length + 1) s := by
  unfold replL
  rw [occ_is]
  split
  · rename_i h
    have := rep_same p q s (s.length + 1) 0 (Nat.zero_add _) (List.isEmpty_iff.mp h)
    rw [List.drop_zero] at this
    exact this.symm
  · rw [glued_eq_join, partsBetween_eq, rep_join p q s (List.length_pos_iff.mpr hp) (s.length + 1) (s.length + 1) 0 0 (Nat.le_refl _) (Nat.zero_add _) (Nat.le_refl _) (Nat.zero_le _)]
    simp
end Mine
end
section
set_option backward.match.sparseCases false
namespace Mine
open PySem PySem.W PySem.NumText
theorem sa_one (c a : Nat) (r : List Nat) : startsAt (c :: r) [a] 0 = decide (c = a) := by
  rw [sw1]; simp
theorem rep_one (a q : Nat) : ∀ (n : Nat) (s : List Nat), s.length ≤ n → rep [a] q n s = s.map fun c => if c = a then q else c
  | 0, s, h => by cases s with
    | nil => rfl
    | cons => simp at h
  | n + 1, [], _ => rfl
  | n + 1, c :: r, h => by
    simp only [List.length_cons] at h
    simp only [rep, sa_one, decide_eq_true_eq, List.map_cons]
    split
    · rw [show (c :: r).drop [a].length = r from rfl, rep_one a q n r (Nat.le_of_succ_le_succ h)]
    · rw [rep_one a q n r (Nat.le_of_succ_le_succ h)]
noncomputable def zz (c : Nat) : Nat := if c = 0 then 65533 else c
noncomputable def gg (c : Nat) : Nat := if c = 12 then 10 else if c = 13 then 10 else c
theorem sa_two (c : Nat) (r : List Nat) : startsAt (c :: r) [13, 10] 0 = (decide (c = 13) && decide (r.head? = some 10)) := by
  rw [sw2]
  cases r <;> simp
theorem mendF_true {r : List Nat} (h : r.head? ≠ some 10) : mendF true r = mendF false r := by
  cases r with
  | nil => rfl
  | cons c r =>
    have : c ≠ 10 := fun e => h (by rw [e]; rfl)
    simp only [mendF, this, false_and, or_false]
theorem mend_core : ∀ (n m : Nat) (s : List Nat), s.length ≤ n → s.length ≤ m → (rep [13, 10] 10 m (s.map zz)).map gg = mendF false s
  | n, m, [], _, _ => by cases m <;> rfl
  | 0, _, _ :: _, h, _ => by simp at h
  | _, 0, _ :: _, _, h => by simp at h
  | n + 1, m + 1, c :: r, h, h' => by
    simp only [List.length_cons] at h h'
    simp only [List.map_cons, rep, sa_two]
    by_cases h13 : c = 13
    · subst h13
      have hz : zz 13 = 13 := by simp [zz]
      rw [hz]
      by_cases h10 : r.head? = some 10
      · cases r with
        | nil => cases h10
        | cons x r =>
          have : x = 10 := by simpa using h10
          subst this
          have hz2 : zz 10 = 10 := by simp [zz]
          simp only [List.map_cons, hz2, List.head?_cons, decide_true, Bool.and_self, if_true]
          simp only [List.length_cons] at h h'
          rw [show (13 :: 10 :: r.map zz).drop [13, 10].length = r.map zz from rfl, mend_core n m r (by lia) (by lia)]
          simp [mendF, gg]
      · have hh : ¬ (r.map zz).head? = some 10 := by
          cases r with
          | nil => simp
          | cons x r =>
            intro k
            have : zz x = 10 := by simpa using k
            unfold zz at this
            split at this
            · lia
            · exact h10 (by rw [this]; rfl)
        simp only [hh, decide_false, Bool.and_false, Bool.false_eq_true, if_false]
        rw [List.map_cons, mend_core n m r (by lia) (by lia)]
        simp only [mendF]
        rw [if_pos (.inl trivial), show ((13 : Nat) == 13) = true from rfl, mendF_true h10]
        simp [gg]
    · have hz : zz c ≠ 13 := by
        unfold zz; split
        · lia
        · exact h13
      simp only [hz, decide_false, Bool.false_and, Bool.false_eq_true, if_false]
      rw [List.map_cons, mend_core n m r (by lia) (by lia)]
      simp only [mendF]
      have hb : (c == 13) = false := by simpa using h13
      rw [hb]
      have hgz : gg (zz c) :: mendF false r = (if c = 13 ∨ c = 12 ∨ c = 10 ∧ True then [10] else if c = 10 then [] else [if c = 0 then 65533 else c]) ++ mendF false r := by
        by_cases q12 : c = 12
        · subst q12; simp [gg, zz]
        · by_cases q10 : c = 10
          · subst q10; simp [gg, zz]
          · by_cases q0 : c = 0
            · subst q0; simp [gg, zz]
            · simp [gg, zz, h13, q12, q10, q0]
      exact hgz
theorem mendR_is (t : List Nat) : mendR t = mendF false t ∧ m0 t = t.map zz ∧ m1 t = rep [13, 10] 10 (t.length + 1) (t.map zz) ∧ m2 t = (m1 t).map (fun c => if c = 13 then 10 else c) := by
  have h0 : m0 t = t.map zz := by
    unfold m0
    rw [replL_rep _ _ _ (by simp), rep_one _ _ _ _ (Nat.le_succ _)]; rfl
  have h1 : m1 t = rep [13, 10] 10 (t.length + 1) (t.map zz) := by
    unfold m1
    rw [replL_rep _ _ _ (by simp), h0, List.length_map]
  have h2 : m2 t = (m1 t).map (fun c => if c = 13 then 10 else c) := by
    unfold m2
    rw [replL_rep _ _ _ (by simp), rep_one _ _ _ _ (Nat.le_succ _)]
  refine ⟨?_, h0, h1, h2⟩
  unfold mendR
  rw [replL_rep _ _ _ (by simp), rep_one _ _ _ _ (Nat.le_succ _), h2, h1, List.map_map, ← mend_core t.length (t.length + 1) t (Nat.le_refl _) (Nat.le_succ _)]
  apply List.map_congr_left
  intro c _
  simp only [Function.comp_apply, gg]
  by_cases q : c = 13
  · subst q; simp
  · rw [if_neg q]
theorem rep_facts (p : List Nat) (q : Nat) : ∀ (n : Nat) (s : List Nat), (∀ c ∈ rep p q n s, c = q ∨ c ∈ s) ∧ (p ≠ [] → (rep p q n s).length ≤ s.length)
  | 0, s => ⟨fun c h => .inr h, fun xx => Nat.le_refl _⟩
  | _ + 1, [] => ⟨fun c h => .inr h, fun xx => Nat.le_refl _⟩
  | n + 1, c :: r => by
    simp only [rep]
    split
    · obtain ⟨h1, h2⟩ := rep_facts p q n ((c :: r).drop p.length)
      refine ⟨?_, fun hp => ?_⟩
      · intro x hx
        rcases List.mem_cons.mp hx with rfl | hx
        · exact .inl rfl
        · rcases h1 x hx with h | h
          · exact .inl h
          · exact .inr (List.mem_of_mem_drop h)
      · have := h2 hp
        have hp' := List.length_pos_iff.mpr hp
        rw [List.length_drop] at this
        exact Nat.succ_le_succ (Nat.le_trans this (Nat.le_of_lt_succ (Nat.sub_lt (Nat.succ_pos _) hp')))
    · obtain ⟨h1, h2⟩ := rep_facts p q n r
      refine ⟨?_, fun hp => ?_⟩
      · intro x hx
        rcases List.mem_cons.mp hx with rfl | hx
        · exact .inr List.mem_cons_self
        · rcases h1 x hx with h | h
          · exact .inl h
          · exact .inr (List.mem_cons_of_mem _ h)
      · exact Nat.succ_le_succ (h2 hp)
theorem mendF_mem : ∀ (b : Bool) (s : List Nat), ∀ c ∈ mendF b s, c = 10 ∨ c = 65533 ∨ c ∈ s
  | _, [], c, h => by simp [mendF] at h
  | b, x :: r, c, h => by
    simp only [mendF] at h
    rcases List.mem_append.mp h with h | h
    · split at h
      · rw [List.mem_singleton] at h; exact .inl h
      · split at h
        · cases h
        · rw [List.mem_singleton] at h
          split at h
          · exact .inr (.inl h)
          · exact .inr (.inr (by rw [h]; exact List.mem_cons_self))
    · rcases mendF_mem _ r c h with h | h | h
      · exact .inl h
      · exact .inr (.inl h)
      · exact .inr (.inr (List.mem_cons_of_mem _ h))
theorem num_facts {s : List Nat} {p e : Nat} {pl : Bool} (h : numFrom s p = some (e, pl)) : p < e ∧ e ≤ s.length ∧ (pl = true → ∃ i, (i = p ∨ (i = p + 1 ∧ signAt s p = true)) ∧ i < e ∧ e = i + digRun (s.drop i)) := by
  replace h : numB s (if signAt s p = true then p + 1 else p) ((if signAt s p = true then p + 1 else p) + digRun (s.drop (if signAt s p = true then p + 1 else p))) = some (e, pl) := h
  by_cases hs : signAt s p = true
  · rw [if_pos hs] at h
    have hp : p + 1 ≤ s.length := by
      unfold signAt at hs
      cases hg : s[p]? with
      | none => rw [hg] at hs; cases hs
      | some c => exact get_lt hg
    obtain ⟨h1, h2, h3⟩ := numB_facts hp h
    exact ⟨Nat.lt_of_succ_lt h1, h2, fun k => ⟨p + 1, .inr ⟨rfl, hs⟩, h1, h3 k⟩⟩
  · rw [if_neg hs] at h
    rcases Nat.lt_or_ge s.length p with hp | hp
    · have h0 : s[p]? = none := List.getElem?_eq_none_iff.mpr (Nat.le_of_lt hp)
      have e0 : digRun (s.drop p) = 0 := by rw [drop_none h0]; rfl
      unfold numB at h
      rw [e0, Nat.add_zero, h0, if_neg (fun k => nomatch k.1), if_pos rfl] at h
      cases h
    · obtain ⟨h1, h2, h3⟩ := numB_facts hp h
      exact ⟨h1, h2, fun k => ⟨p, .inl rfl, h1, h3 k⟩⟩
theorem int_neg {ds : List Nat} (hd : AllDigits ds) (hne : ds ≠ []) (hl : ds.length ≤ 600) : PySem.intText? (sOf (45 :: ds)) = some (numVal (45 :: ds)) :=
  intText_neg (x := sOf (45 :: ds)) (cs := ds) rfl hd hne (by rw [sOf_length]; exact Nat.le_trans (Nat.succ_le_succ hl) (by decide))
theorem int_pos {ds : List Nat} (hd : AllDigits ds) (hne : ds ≠ []) (hl : ds.length ≤ 600) : PySem.intText? (sOf ds) = some (numVal ds) := by
  rw [intText_digits (x := sOf ds) hd hne (by rw [sOf_length]; exact Nat.le_trans hl (by decide))]
  cases ds with
  | nil => exact absurd rfl hne
  | cons c0 ds =>
    have hc := hd.head
    unfold numVal
    rw [if_neg (fun e => by cases e; exact absurd hc.1 (by decide)), if_neg (fun e => by cases e; exact absurd hc.1 (by decide))]; rfl
theorem int_whole {s : List Nat} (hL : s.length ≤ 600) (hn : ∀ p : Nat, ¬ s[p]? = some 43) {p e : Nat} (h : numFrom s p = some (e, true)) : ((s.drop p).take (e - p)).length ≤ 640 ∧ PySem.intText? (sOf ((s.drop p).take (e - p))) = some (numVal ((s.drop p).take (e - p))) := by
  obtain ⟨h1, h2, h3⟩ := num_facts h
  obtain ⟨i, hi, h4, h5⟩ := h3 rfl
  obtain ⟨d1, d2⟩ := digRun_le (s.drop i)
  have hd : AllDigits ((s.drop i).take (e - i)) := fun c hc => of_decide_eq_true (d2 c (by rw [h5, Nat.add_sub_cancel_left] at hc; exact hc))
  have hl : ((s.drop i).take (e - i)).length = e - i := by rw [List.length_take, List.length_drop]; exact Nat.min_eq_left (Nat.sub_le_sub_right h2 i)
  have hne : (s.drop i).take (e - i) ≠ [] := fun k => by rw [k] at hl; exact Nat.sub_ne_zero_of_lt h4 hl.symm
  have hle : ((s.drop i).take (e - i)).length ≤ 600 := Nat.le_trans (sl_len i _) hL
  refine ⟨Nat.le_trans (sl_len p _) (Nat.le_trans hL (by decide)), ?_⟩
  rcases hi with rfl | ⟨rfl, hs⟩
  · exact int_pos hd hne hle
  · unfold signAt at hs
    cases hg : s[p]? with
    | none => rw [hg] at hs; cases hs
    | some c =>
      rw [hg] at hs
      have h45 : c = 45 := (of_decide_eq_true hs).resolve_right fun k => hn p (by rw [hg, k])
      rw [drop_get hg, sub1 (Nat.lt_of_succ_lt h4), List.take_succ_cons, h45]
      exact int_neg hd hne hle
noncomputable def okD (c : Nat) : Prop := c < 1114112 ∧ ¬ c = 47 ∧ ¬ c = 43
theorem mends_of {t : List Nat} (hL : t.length ≤ 500) (hc : ∀ c ∈ t, okD c) : Mends t := by
  obtain ⟨h, h0, h1, h2⟩ := mendR_is t
  have k10 : okD 10 := ⟨by decide, by decide, by decide⟩
  have kfd : okD 65533 := ⟨by decide, by decide, by decide⟩
  have c0 : ∀ c ∈ m0 t, okD c := by
    rw [h0]; intro c hm
    obtain ⟨x, hx, rfl⟩ := List.mem_map.mp hm
    unfold zz; split
    · exact kfd
    · exact hc x hx
  have l0 : (m0 t).length = t.length := by rw [h0, List.length_map]
  have c1 : ∀ c ∈ m1 t, okD c := by
    rw [h1]; intro c hm
    rcases (rep_facts _ _ _ _).1 c hm with rfl | hm
    · exact k10
    · exact c0 c (by rw [h0]; exact hm)
  have l1 : (m1 t).length ≤ t.length := by
    rw [h1]
    have := (rep_facts [13, 10] 10 (t.length + 1) (t.map zz)).2 (List.cons_ne_nil _ _)
    rwa [List.length_map] at this
  have c2 : ∀ c ∈ m2 t, okD c := by
    rw [h2]; intro c hm
    obtain ⟨x, hx, rfl⟩ := List.mem_map.mp hm
    split
    · exact k10
    · exact c1 x hx
  have l2 : (m2 t).length ≤ t.length := by rw [h2, List.length_map]; exact l1
  have c3 : ∀ c ∈ mendR t, okD c := by
    rw [h]; intro c hm
    rcases mendF_mem _ _ c hm with rfl | rfl | hm
    · exact k10
    · exact kfd
    · exact hc c hm
  have l3 : (mendR t).length ≤ t.length := by rw [h]; exact mendF_len false t
  clear h h0 h1 h2 k10 kfd hc
  have plus : ∀ p : Nat, ¬ (mendR t)[p]? = some 43 := fun p hp => (c3 43 (List.mem_of_getElem? hp)).2.2 rfl
  have hw : ∀ {n : Nat}, n ≤ t.length → 2 * n + 1 ≤ 16777216 ∧ n ≤ 16777216 ∧ n ≤ 600 ∧ n ≤ 100000 := fun h => have k := Nat.le_trans h hL; ⟨Nat.le_trans (Nat.succ_le_succ (Nat.mul_le_mul_left 2 k)) (by decide), Nat.le_trans k (by decide), Nat.le_trans k (by decide), Nat.le_trans k (by decide)⟩
  have w0 := hw (Nat.le_refl t.length)
  have w1 := hw (Nat.le_of_eq l0)
  have w2 := hw l1
  have w3 := hw l2
  have w4 := hw l3
  refine ⟨⟨w0.1, fun c hm => (c0 c hm).1, w1.2.1⟩, ⟨w1.1, fun c hm => (c1 c hm).1, w2.2.1⟩, ⟨w2.1, fun c hm => (c2 c hm).1, w3.2.1⟩, ⟨w3.1, fun c hm => (c3 c hm).1, w4.2.1⟩, w4.2.2.2, fun p => ?_, plus, fun p e pl hn => ?_⟩
  · rw [sw_cons, decide_eq_false fun hp => (c3 47 (List.mem_of_getElem? hp)).2.1 rfl]; rfl
  · obtain ⟨n1, n2, _⟩ := num_facts hn
    refine ⟨n1, n2, fun hp => ?_⟩
    subst hp
    exact int_whole w4.2.2.1 plus hn
theorem mend_same : ∀ {F : List Nat} {b : Bool}, (∀ c ∈ F, ¬ c = 13 ∧ ¬ c = 12 ∧ ¬ c = 0) → b = false → mendF b F = F
  | [], _, _, _ => rfl
  | c :: r, b, h, hb => by
    obtain ⟨h1, h2, h3⟩ := h c List.mem_cons_self
    rw [mendF, mend_same (F := r) (fun x hx => h x (List.mem_cons_of_mem _ hx)) (beq_eq_false_iff_ne.mpr h1)]
    by_cases h10 : c = 10
    · rw [if_pos (.inr (.inr ⟨h10, hb⟩)), h10]; rfl
    · rw [if_neg (fun k => k.elim h1 fun k => k.elim h2 fun k => h10 k.1), if_neg h10, if_neg h3]; rfl
end Mine
end
section
set_option backward.match.sparseCases false
namespace Mine
open PySem PySem.W
variable {B : Base} {T : Tab} {d : Nat}
theorem efor_mk {i j : Nat} {xs : List PV} {vb : VS} {Q : KS} {ρ : Loc} {H : AH} (I : Nat → List PV → Loc → AH → Prop) (h : I 0 xs ρ H) (st : ∀ n x r ρ H, I n (x :: r) ρ H → vb (kefb I n r Q) (setL (setL ρ i (.int n)) j x) H) (e : ∀ n ρ H, I n [] ρ H → Q .next ρ H) : eforB i j xs vb Q ρ H := by
  unfold eforB; exact ⟨I, h, st, e⟩
noncomputable def L_hexed : List (List Nat) := [[50, 57], [50, 50], [48], [53, 99], [48, 48, 48, 48, 52, 49], [65], [50, 56], [49, 49, 48, 48, 48, 48], [48, 49, 70, 54, 48, 48], [55, 100], [51, 49], [50, 68], [49, 48, 102, 102, 102, 102], [48, 50, 55], [49], [70, 70, 70, 70, 70, 70]]
noncomputable def L_tails : List (List Nat) := [[], [32], [10], [9], [13, 10], [12], [32, 32], []]
noncomputable def piecesPV : PV := .lst (L_pieces.map fun r => .lst (chPV r))
noncomputable def rowN (n : Nat) : List (List Nat) := L_pieces.getD (n % 16) []
noncomputable def pieceN (n : Nat) : List Nat := if n % 16 = 15 then [92] ++ L_hexed.getD (n / 16 % 16) [] ++ L_tails.getD (n / 256 % 8) [] else (rowN n).getD (n / 16 % (rowN n).length) []
noncomputable def lastBs (t : List Nat) : Prop := (t.drop (t.length - 1)).take (t.length - (t.length - 1)) = [92]
open Classical in
noncomputable def addP (t p : List Nat) : List Nat := (if lastBs t ∧ p[0]? = some 92 then t ++ [120] else t) ++ p
noncomputable def drawF : List Nat → Nat → List Int → List Nat
  | t, _, [] => t
  | t, i, n :: r => drawF (addP t (pieceN ((n * 101 + 7 * (i : Int)) % 1000003).toNat)) (i + 1) r
noncomputable def okB (c : Nat) : Bool := decide (c < 57344) && !decide (c = 47) && !decide (c = 43)
noncomputable def noBB : List Nat → Bool
  | [] => true
  | c :: r => (if c = 92 ∧ r.head? = some 92 then decide (r[1]? = some 120) else true) && noBB r
noncomputable def okP (l : List Nat) : Bool := decide (0 < l.length) && decide (l.length ≤ 12) && l.all okB && noBB l && decide (opn l ≤ 1)
theorem getD_mem {α : Type} {l : List α} {i : Nat} {x : α} (h : i < l.length) : l.getD i x ∈ l := List.mem_of_getElem? (getD_one h)
theorem okP_rows : (L_pieces.all fun r => decide (0 < r.length) && r.all okP) = true := by decide +kernel
theorem okP_hex : (L_hexed.all fun h => L_tails.all fun t => okP ([92] ++ h ++ t)) = true := by decide +kernel
theorem row_ok {n : Nat} (h : ¬ n % 16 = 15) : n % 16 < L_pieces.length ∧ 0 < (rowN n).length ∧ (rowN n).all okP = true := by
  have h1 : n % 16 < L_pieces.length := Nat.lt_of_le_of_ne (Nat.le_of_lt_succ (Nat.mod_lt n (by decide))) h
  obtain ⟨h2, h3⟩ := Bool.and_eq_true_iff.mp (List.all_eq_true.mp okP_rows _ (getD_mem (x := []) h1))
  exact ⟨h1, of_decide_eq_true h2, h3⟩
theorem piece_ok (n : Nat) : okP (pieceN n) = true := by
  unfold pieceN
  by_cases h : n % 16 = 15
  · rw [if_pos h]
    exact List.all_eq_true.mp (List.all_eq_true.mp okP_hex _ (getD_mem (x := []) (Nat.mod_lt _ (by decide)))) _ (getD_mem (x := []) (Nat.mod_lt _ (by decide)))
  · rw [if_neg h]
    obtain ⟨h1, h2, h3⟩ := row_ok h
    exact List.all_eq_true.mp h3 _ (getD_mem (x := []) (Nat.mod_lt _ h2))
structure PF (l : List Nat) : Prop where
  ne : 0 < l.length
  le : l.length ≤ 12
  ok : ∀ c ∈ l, okB c = true
  bb : noBB l = true
  op : opn l ≤ 1
theorem piece_pf (n : Nat) : PF (pieceN n) := by
  obtain ⟨h, h5⟩ := Bool.and_eq_true_iff.mp (piece_ok n)
  obtain ⟨h, h4⟩ := Bool.and_eq_true_iff.mp h
  obtain ⟨h, h3⟩ := Bool.and_eq_true_iff.mp h
  obtain ⟨h1, h2⟩ := Bool.and_eq_true_iff.mp h
  exact ⟨of_decide_eq_true h1, of_decide_eq_true h2, fun c hc => List.all_eq_true.mp h3 c hc, h4, of_decide_eq_true h5⟩
theorem modI_nat (x : Int) : modI x 1000003 = ((x % 1000003).toNat : Int) := by
  rw [modI_is, Int.fmod_eq_emod_of_nonneg _ (by decide), Int.toNat_of_nonneg (Int.emod_nonneg _ (by decide))]
theorem consts_HEXED (G : GoodB B) (GT : GoodT B T) (F : FnAt B "_law_HEXED" p_law_HEXED 0 [] v_law_HEXED m_law_HEXED) : Con B (d + 1) "_law_HEXED" [] (.lst (chPV L_hexed)) := conDef G GT F rfl fun H => ⟨rfl, rfl⟩
theorem consts_TAILS (G : GoodB B) (GT : GoodT B T) (F : FnAt B "_law_TAILS" p_law_TAILS 0 [] v_law_TAILS m_law_TAILS) : Con B (d + 1) "_law_TAILS" [] (.lst (chPV L_tails)) := conDef G GT F rfl fun H => ⟨rfl, rfl⟩
noncomputable def drawB : List MS := match w_law_drawn_1 with
  | .efor _ _ _ b => b.drop 1
  | _ => []
theorem add_ok {p t : List Nat} {Q : KS} {H : AH} {a0 a2 a3 a5 : Option PV} (hp : 0 < p.length) (hl : t.length + p.length ≤ 1000) (hq : Q .next [a0, some (.str (addP t p)), a2, a3, some (.str p), a5] H) :
    vcSs B T d r_law_drawn_2 Q [a0, some (.str t), a2, a3, some (.str p), a5] H := by
  obtain ⟨c, hc⟩ : ∃ c, p[0]? = some c := ⟨_, List.getElem?_eq_getElem hp⟩
  have e0 : ¬ (lastBs t ∧ p[0]? = some 92) → addP t p = t ++ p := fun h => by unfold addP; rw [if_neg h]
  refine tst_both (fun h1 => ⟨c, hc, tst_both (fun h2 => tst_dT ?_) fun h2 => tst_dF ?_⟩) fun h1 => tst_dF ?_
  · have e : addP t p = t ++ [120] ++ p := by unfold addP; rw [if_pos ⟨h1, by rw [hc, cons1 h2]⟩]
    rw [e] at hq
    exact ⟨Nat.le_trans (Nat.succ_le_succ (Nat.le_trans (Nat.le_add_right _ _) hl)) (by decide), by rw [List.length_append]; exact Nat.le_trans (Nat.le_of_eq (Nat.succ_add _ _)) (Nat.le_trans (Nat.succ_le_succ hl) (by decide)), hq⟩
  · rw [e0 fun h => h2 (by rw [Option.some.inj (hc.symm.trans h.2)])] at hq
    exact ⟨Nat.le_trans hl (by decide), hq⟩
  · rw [e0 fun h => h1 h.1] at hq
    exact ⟨Nat.le_trans hl (by decide), hq⟩
theorem turn_ok (hH : Con B d "_law_HEXED" [] (.lst (chPV L_hexed))) (hT : Con B d "_law_TAILS" [] (.lst (chPV L_tails))) (hP : GlobIs B "_law_PIECES" piecesPV) {n : Nat} {t : List Nat} {Q : KS} {H : AH} {a0 a2 a4 a5 : Option PV} (hl : t.length ≤ 900)
    (hq : ∀ a3 a4 a5 : Option PV, Q .next [a0, some (.str (addP t (pieceN n))), a2, a3, a4, a5] H) : vcSs B T d drawB Q [a0, some (.str t), a2, some (.int (n : Nat)), a4, a5] H := by
  have pf := piece_pf n
  have go : ∀ {a3 a5 : Option PV}, vcSs B T d r_law_drawn_2 Q [a0, some (.str t), a2, a3, some (.str (pieceN n)), a5] H := add_ok pf.ne (Nat.le_trans (Nat.add_le_add hl pf.le) (by decide)) (hq _ _ _)
  have le := pf.le
  unfold pieceN at go le
  refine ⟨by decide, ?_⟩
  by_cases h : n % 16 = 15
  · rw [if_pos h] at go le
    refine tst_pos (congrArg Int.ofNat h) (hH.run ⟨⟨by decide, by decide⟩, by decide, _, chD (Nat.mod_lt _ (by decide)), ?_, hT.run ⟨⟨by decide, by decide⟩, by decide, _, chD (Nat.mod_lt _ (by decide)), ?_, go⟩⟩)
    · rw [List.length_append] at le; exact Nat.le_trans (Nat.le_trans (Nat.le_add_right _ _) (Nat.le_trans (Nat.le_of_eq (by rw [List.length_append])) le)) (by decide)
    · rw [List.length_append] at le; exact Nat.le_trans le (by decide)
  · rw [if_neg h] at go
    obtain ⟨h1, h2, _⟩ := row_ok h
    refine tst_neg (fun k => h (Int.ofNat.inj k)) ⟨hP, by decide, .lst (chPV (rowN n)), ?_, ⟨by decide, by decide⟩, ?_, _, chD (l := rowN n) (i := n / 16 % (chPV (rowN n)).length) (by rw [chPV_len]; exact Nat.mod_lt _ h2), ?_⟩
    · show (L_pieces.map fun r => PV.lst (chPV r))[n % 16]? = _
      rw [List.getElem?_map, getD_one (x := []) h1]; rfl
    · rw [chPV_len]; exact fun e => Nat.ne_of_gt h2 (Int.ofNat.inj e)
    · rw [chPV_len]; exact go
theorem turn_mod (hH : Con B d "_law_HEXED" [] (.lst (chPV L_hexed))) (hT : Con B d "_law_TAILS" [] (.lst (chPV L_tails))) (hP : GlobIs B "_law_PIECES" piecesPV) {x : Int} {t : List Nat} {Q : KS} {H : AH} {a0 a2 a4 a5 : Option PV} (hl : t.length ≤ 900)
    (hq : ∀ a3 a4 a5 : Option PV, Q .next [a0, some (.str (addP t (pieceN (x % 1000003).toNat))), a2, a3, a4, a5] H) : vcSs B T d drawB Q [a0, some (.str t), a2, some (.int (modI x 1000003)), a4, a5] H := by
  rw [modI_nat]; exact turn_ok hH hT hP hl hq
theorem add_len (t p : List Nat) : (addP t p).length ≤ t.length + 1 + p.length := by
  unfold addP
  rw [List.length_append]
  split
  · rw [List.length_append]; exact Nat.le_refl _
  · lia
noncomputable def DrI (a0 : Option PV) (H : AH) (R : List Nat) (k : Nat) (xs : List PV) (ρ : Loc) (H' : AH) : Prop :=
  ∃ (t : List Nat) (rest : List Int) (a2 a3 a4 a5 : Option PV), xs = rest.map PV.int ∧ ρ = [a0, some (.str t), a2, a3, a4, a5] ∧ H' = H ∧ t.length ≤ 13 * k ∧ k + rest.length ≤ 14 ∧ drawF t k rest = R
theorem drawn_ok (G : GoodB B) (GT : GoodT B T) (F : FnAt B "_law_drawn" p_law_drawn 1 [] v_law_drawn m_law_drawn) (hH : Con B d "_law_HEXED" [] (.lst (chPV L_hexed))) (hT : Con B d "_law_TAILS" [] (.lst (chPV L_tails))) (hP : GlobIs B "_law_PIECES" piecesPV) (script : List Int) :
    Con B (d + 1) "_law_drawn" [.lst (script.map PV.int)] (.str (drawF [] 0 (script.take 14))) := by
  refine conDef G GT F rfl fun H => ?_
  have hsl : ((script.map PV.int).drop 0).take (14 - 0) = (script.take 14).map PV.int := by rw [List.drop_zero, List.map_take]
  have hl14 : (script.take 14).length ≤ 14 := by rw [List.length_take]; exact Nat.min_le_left ..
  refine ⟨by rw [hsl, List.length_map]; exact Nat.le_trans hl14 (by decide), ?_⟩
  rw [hsl]
  refine efor_mk (DrI _ H (drawF [] 0 (script.take 14))) ⟨[], script.take 14, _, _, _, _, rfl, rfl, rfl, Nat.zero_le _, by rw [Nat.zero_add]; exact hl14, rfl⟩ ?_ ?_
  · rintro k x r ρ H' ⟨t, rest, a2, a3, a4, a5, hx, rfl, rfl, hl, hk, he⟩
    cases rest with
    | nil => cases hx
    | cons n rest =>
      obtain ⟨rfl, rfl⟩ := List.cons.inj hx
      rw [List.length_cons] at hk
      have hl1 := add_len t (pieceN ((n * 101 + 7 * (k : Int)) % 1000003).toNat)
      have hl2 := (piece_pf ((n * 101 + 7 * (k : Int)) % 1000003).toNat).le
      exact ⟨Bool.or_eq_true_iff.mpr (.inr rfl), Bool.or_eq_true_iff.mpr (.inl rfl), by decide, turn_mod hH hT hP (by lia) fun a3 a4 a5 => ⟨_, rest, _, _, _, _, rfl, rfl, rfl, by lia, by lia, he⟩⟩
  · rintro k ρ H' ⟨t, rest, a2, a3, a4, a5, hx, rfl, rfl, hl, hk, he⟩
    cases rest with
    | cons => cases hx
    | nil => exact ⟨congrArg PV.str he, rfl⟩
theorem bb_app : ∀ {t u : List Nat}, noBB t = true → noBB u = true → ¬ (t.getLast? = some 92 ∧ u.head? = some 92) → noBB (t ++ u) = true
  | [], _, _, hu, _ => hu
  | [c], u, _, hu, hn => by
    show ((if c = 92 ∧ u.head? = some 92 then _ else true) && noBB u) = true
    rw [if_neg (fun h => hn ⟨congrArg some h.1, h.2⟩), hu]; rfl
  | c :: c2 :: r, u, ht, hu, hn => by
    obtain ⟨h1, h2⟩ := Bool.and_eq_true_iff.mp ht
    refine Bool.and_eq_true_iff.mpr ⟨?_, bb_app h2 hu hn⟩
    by_cases h : c = 92 ∧ (c2 :: r).head? = some 92
    · rw [if_pos h] at h1
      refine (if_pos h).trans ?_
      have h1 := of_decide_eq_true h1
      refine decide_eq_true ?_
      cases r with
      | nil => cases h1
      | cons => exact h1
    · exact if_neg h
theorem last_bs {t : List Nat} : t.getLast? = some 92 → lastBs t := by
  intro h
  unfold lastBs
  rw [List.getLast?_eq_getElem?] at h
  have := get_lt h
  rw [drop_get h, Nat.sub_sub_self (Nat.lt_of_le_of_lt (Nat.zero_le _) this)]; rfl
structure DF (t : List Nat) (k : Nat) : Prop where
  le : t.length ≤ 13 * k
  ok : ∀ c ∈ t, okB c = true
  bb : noBB t = true
  op : opn t ≤ k
theorem opn_app (a b : List Nat) : opn (a ++ b) = opn a + opn b := List.countP_append
theorem add_df {t p : List Nat} {k : Nat} (h : DF t k) (g : PF p) : DF (addP t p) (k + 1) := by
  have hl := add_len t p
  have := g.le
  have l := h.le
  refine ⟨by lia, ?_, ?_, ?_⟩
  · unfold addP
    intro c hc
    rcases List.mem_append.mp hc with hc | hc
    · split at hc
      · rcases List.mem_append.mp hc with hc | hc
        · exact h.ok c hc
        · cases List.mem_singleton.mp hc; rfl
      · exact h.ok c hc
    · exact g.ok c hc
  · unfold addP
    split
    · exact bb_app (bb_app h.bb rfl fun k => nomatch k.2) g.bb fun k => by rw [List.getLast?_append] at k; exact nomatch k.1
    · rename_i n
      exact bb_app h.bb g.bb fun k => n ⟨last_bs k.1, by rw [← List.head?_eq_getElem?]; exact k.2⟩
  · unfold addP
    rw [opn_app]
    have o1 := h.op
    have o2 := g.op
    split
    · rw [opn_app, show opn [120] = 0 from rfl]; lia
    · lia
theorem draw_df : ∀ (l : List Int) (t : List Nat) (k : Nat), DF t k → DF (drawF t k l) (k + l.length)
  | [], _, _, h => h
  | n :: r, t, k, h => by
    have := draw_df r _ _ (add_df h (piece_pf ((n * 101 + 7 * (k : Int)) % 1000003).toNat))
    rw [Nat.add_assoc, Nat.add_comm 1] at this
    exact this
end Mine
end
section
set_option backward.match.sparseCases false
namespace Mine
open PySem PySem.W
variable {B : Base} {T : Tab} {d : Nat}
mutual
theorem eqv_self : ∀ (p : PV) (D : PyData), toPD p = some D → PyData.eqv D D = true
  | .none, D, h => by cases h; rfl
  | .bool b, D, h => by cases h; exact beq_self_eq_true _
  | .int i, D, h => by cases h; exact beq_self_eq_true _
  | .str s, D, h => by cases h; exact beq_self_eq_true _
  | .tup vs, D, h => by
    obtain ⟨xs, h1, rfl⟩ := Option.map_eq_some_iff.mp h
    exact eqvAll_self vs xs h1
  | .lst vs, D, h => by
    obtain ⟨xs, h1, rfl⟩ := Option.map_eq_some_iff.mp h
    exact eqvAll_self vs xs h1
  | .node _ _, D, h => by cases h
  | .dct _ _, D, h => by cases h
  | .tdc _ _, D, h => by cases h
  | .ref _, D, h => by cases h
theorem eqvAll_self : ∀ (ps : List PV) (Ds : List PyData), toPDs ps = some Ds → PyData.eqvAll Ds Ds = true
  | [], Ds, h => by cases h; rfl
  | p :: ps, Ds, h => by
    obtain ⟨x, h1, h⟩ := Option.bind_eq_some_iff.mp h
    obtain ⟨y, h2, h⟩ := Option.bind_eq_some_iff.mp h
    cases h
    exact Bool.and_eq_true_iff.mpr ⟨eqv_self p x h1, eqvAll_self ps y h2⟩
end
noncomputable def Pl (n : Nat) (p : PV) : Prop := ∃ D, toPD p = some D ∧ D.depth ≤ n
noncomputable def Pls (n : Nat) (ps : List PV) : Prop := ∃ Ds, toPDs ps = some Ds ∧ PyData.depthAll Ds ≤ n
theorem Pls.cons {n : Nat} {p : PV} {ps : List PV} (h : Pl n p) (k : Pls n ps) : Pls n (p :: ps) := by
  obtain ⟨D, h1, h2⟩ := h
  obtain ⟨Ds, k1, k2⟩ := k
  refine ⟨D :: Ds, ?_, Nat.max_le.mpr ⟨h2, k2⟩⟩
  show ((toPD p).bind fun x => (toPDs ps).bind fun y => some (x :: y)) = _
  rw [h1, k1]; rfl
theorem Pls.nil {n : Nat} : Pls n [] := ⟨[], rfl, Nat.zero_le _⟩
theorem Pls.tup {n : Nat} {ps : List PV} (h : Pls n ps) : Pl (n + 1) (.tup ps) := by
  obtain ⟨Ds, h1, h2⟩ := h
  exact ⟨.tuple Ds, by show (toPDs ps).map _ = _; rw [h1]; rfl, Nat.succ_le_succ h2⟩
theorem Pls.lst {n : Nat} {ps : List PV} (h : Pls n ps) : Pl (n + 1) (.lst ps) := by
  obtain ⟨Ds, h1, h2⟩ := h
  exact ⟨.list Ds, by show (toPDs ps).map _ = _; rw [h1]; rfl, Nat.succ_le_succ h2⟩
theorem pl_none {n : Nat} : Pl n .none := ⟨_, rfl, Nat.zero_le _⟩
theorem pl_bool {n : Nat} {b : Bool} : Pl n (.bool b) := ⟨_, rfl, Nat.zero_le _⟩
theorem pl_int {n : Nat} {i : Int} : Pl n (.int i) := ⟨_, rfl, Nat.zero_le _⟩
theorem pl_str {n : Nat} {s : List Nat} : Pl n (.str s) := ⟨_, rfl, Nat.zero_le _⟩
theorem pl_iv {n : Nat} {iv : Option Int} : Pl n (ivPV iv) := by cases iv <;> exact ⟨_, rfl, Nat.zero_le _⟩
theorem pl_row {n : Nat} {k v : List Nat} {l c : Int} {flag below : PV} (h1 : Pl (n + 1) flag) (h2 : Pl (n + 1) below) : Pl (n + 2) (rowT k (plG [] [] l c) v flag below) :=
  (Pls.cons pl_str (Pls.cons (Pls.cons pl_int (Pls.cons pl_int Pls.nil)).tup (Pls.cons pl_str (Pls.cons h1 (Pls.cons h2 Pls.nil))))).tup
theorem row_pl {C : Addr → Str → Option AttR} {f : Nat → Nat} {R : List PV → List PV → Prop} {n : Nat} (hR : ∀ xs ys, R xs ys → Pls n ys) {x y : PV} (h : TR C f (plG [] []) R x y) : Pl (n + 2) y := by
  cases h with
  | fn a nm hv x r => exact pl_row pl_none (hR _ _ r).lst
  | bl hk a x r => exact pl_row pl_none (hR _ _ r).lst
  | er a x => exact pl_row pl_str pl_none
  | di a nm hv x y => exact pl_row (Pls.cons pl_str (Pls.cons pl_iv Pls.nil)).tup pl_none
  | nu hk a x y => exact pl_row (Pls.cons pl_str (Pls.cons pl_iv Pls.nil)).tup pl_none
  | ha a nm hv x => exact pl_row pl_bool pl_none
  | va hk a nm hv => exact pl_row pl_none pl_none
theorem rows_pl {P : PV → PV → Prop} {n : Nat} (hP : ∀ x y, P x y → Pl n y) : ∀ {xs ys : List PV}, All2 P xs ys → Pls n ys
  | [], _, h => by cases h; exact .nil
  | _ :: _, _, h => by obtain ⟨y, r, rfl, h1, h⟩ := h; exact .cons (hP _ _ h1) (rows_pl hP h)
theorem trs_pl {C : Addr → Str → Option AttR} {f : Nat → Nat} : ∀ {n : Nat} {xs ys : List PV}, TRs C f (plG [] []) n xs ys → Pls (2 * n + 2) ys
  | 0, _, _, h => rows_pl (fun _ _ k => row_pl (n := 0) (fun _ _ e => e.elim) k) h.2
  | n + 1, _, _, h => rows_pl (fun _ _ k => row_pl (n := 2 * n + 2) (fun _ _ e => trs_pl e) k) h.2
theorem eqPD_self {p : PV} {n : Nat} (h : Pl n p) (hn : n ≤ 60) : eqPD p p = some true := by
  obtain ⟨D, h1, h2⟩ := h
  unfold eqPD
  rw [h1]
  show (if _ then _ else _) = _
  rw [if_pos ⟨Nat.le_trans h2 hn, Nat.le_trans h2 hn⟩, eqv_self _ _ h1]
theorem set_mk2 {l : Addr} {s : List Int} {k v : PV} {Q : AH → Prop} {H : AH} {ks : List (List Int)} {vs : List PV} (e : k = .tup (s.map PV.int)) (h : H l = some (.tdict ks vs)) (hn : s ∉ ks) (hl : ks.length < 1000) (q : Q (H.upd l (.tdict (ks ++ [s]) (vs ++ [v])))) : setB l k v Q H := by
  unfold setB; exact .inr ⟨ks, vs, s, e, h, hn, hl, q⟩
noncomputable def LwI (ρ0 : Option PV → Option PV → Loc) (a : Addr) (H0 : AH) (s F og : List Nat) (k : Nat) (xs : List PV) (ρ : Loc) (H' : AH) : Prop :=
  ∃ (done rest : List (Nat × Nat)) (a8 a9 : Option PV), xs = rest.map plPV ∧ done ++ rest = placesF 1 1 F ∧ k = done.length ∧ ρ = ρ0 a8 a9 ∧ H' = H0.upd a (.tdict (done.map keyI) (plV s (og.take k)))
noncomputable def lawB : List MS := match w_law_1 with
  | .efor _ _ _ b => b
  | _ => []
theorem dict_ok {s F og : List Nat} (hF : F.length ≤ 900) (hog : og.length = F.length) (hin : ∀ x ∈ og, x < s.length) {a : Addr} {a0 a1 a2 a3 a5 a10 a8 a9 : Option PV} {H : AH} {Q : KS}
    (hq : ∀ a8 a9 : Option PV, Q .next [a0, a1, a2, a3, some (.lst (og.map fun p => PV.int (p : Nat))), a5, some (.lst ((placesF 1 1 s).map plPV)), some (.ref a), a8, a9, a10] (H.upd a (.tdict ((placesF 1 1 F).map keyI) (plV s og)))) :
    eforB 8 9 ((placesF 1 1 F).map plPV) (vcSs B T d lawB) Q [a0, a1, a2, a3, some (.lst (og.map fun p => PV.int (p : Nat))), a5, some (.lst ((placesF 1 1 s).map plPV)), some (.ref a), a8, a9, a10] (H.upd a (.tdict [] [])) := by
  have hlen := placesF_len 1 1 F
  refine efor_mk (LwI (fun a8 a9 => [a0, a1, a2, a3, some (.lst (og.map fun p => PV.int (p : Nat))), a5, some (.lst ((placesF 1 1 s).map plPV)), some (.ref a), a8, a9, a10]) a H s F og) ⟨[], _, _, _, rfl, rfl, rfl, rfl, rfl⟩ ?_ ?_
  · rintro k x r ρ H' ⟨done, rest, b8, b9, hx, hd, rfl, rfl, rfl⟩
    cases rest with
    | nil => cases hx
    | cons q rest =>
      obtain ⟨rfl, rfl⟩ := List.cons.inj hx
      have hl := congrArg List.length hd
      rw [List.length_append, List.length_cons, hlen] at hl
      obtain ⟨p, hp⟩ : ∃ p, og[done.length]? = some p := ⟨_, List.getElem?_eq_getElem (by lia)⟩
      have hps := hin p (List.mem_of_getElem? hp)
      have nd := places_nd F 1 1
      rw [← hd] at nd
      refine ⟨.int (p : Nat), by rw [List.getElem?_map, hp]; rfl, plPV (placeAt s p), by rw [List.getElem?_map, place_get hps]; rfl, set_mk2 (s := keyI q) rfl (upd_self ..) (fun h => ?_) (by rw [List.length_map]; lia) ⟨done ++ [q], rest, _, _, rfl, by rw [← hd, List.append_assoc]; rfl, by rw [List.length_append]; rfl, rfl, ?_⟩⟩
      · obtain ⟨q', h1, h2⟩ := List.mem_map.mp h
        rw [keyI_inj h2] at h1
        exact (List.nodup_append.mp nd).2.2 q h1 q List.mem_cons_self rfl
      · rw [upd_upd, List.map_append, List.take_succ, hp]
        unfold plV
        rw [List.map_append]; rfl
  · rintro k ρ H' ⟨done, rest, b8, b9, hx, hd, rfl, rfl, rfl⟩
    cases rest with
    | cons => cases hx
    | nil =>
      rw [List.append_nil] at hd
      subst hd
      rw [hlen, ← hog, List.take_length]
      exact hq _ _
end Mine
end
section
set_option backward.match.sparseCases false
namespace Mine
open PySem PySem.W
variable {B : Base} {T : Tab} {d : Nat}
theorem mend_head {r : List Nat} {x : Nat} (h : (mendF false r)[0]? = some x) (h1 : ¬ x = 10) (h2 : ¬ x = 65533) : ∃ r', r = x :: r' ∧ mendF false r = x :: mendF (x == 13) r' := by
  cases r with
  | nil => cases h
  | cons c r =>
    rw [mendF] at h ⊢
    by_cases k : c = 13 ∨ c = 12 ∨ (c = 10 ∧ false = false)
    · rw [if_pos k] at h; exact (h1 (Option.some.inj h).symm).elim
    · rw [if_neg k] at h ⊢
      have h10 : ¬ c = 10 := fun e => k (.inr (.inr ⟨e, rfl⟩))
      rw [if_neg h10] at h ⊢
      by_cases h0 : c = 0
      · rw [if_pos h0] at h; exact (h2 (Option.some.inj h).symm).elim
      · rw [if_neg h0] at h ⊢
        obtain rfl : c = x := Option.some.inj h
        exact ⟨r, rfl, rfl⟩
theorem mend_bb : ∀ {t : List Nat} {b : Bool}, noBB t = true → ∀ {p : Nat}, (mendF b t)[p]? = some 92 → (mendF b t)[p + 1]? = some 92 → ¬ (mendF b t)[p + 2]? = some 41
  | [], _, _, _, h, _ => nomatch h
  | c :: r, b, hb, p, h1, h2 => by
    obtain ⟨g1, g2⟩ := Bool.and_eq_true_iff.mp hb
    have one : ∀ {x : Nat}, ([x] ++ mendF (c == 13) r)[p]? = some 92 → ([x] ++ mendF (c == 13) r)[p + 1]? = some 92 → (x = 92 → c = 92) → ¬ ([x] ++ mendF (c == 13) r)[p + 2]? = some 41 := by
      intro x k1 k2 hx k3
      cases p with
      | succ p => exact mend_bb g2 k1 k2 k3
      | zero =>
        obtain rfl := hx (Option.some.inj k1)
        obtain ⟨r', rfl, e⟩ := mend_head (r := r) k2 (by decide) (by decide)
        replace k3 : (mendF false (92 :: r'))[1]? = some 41 := k3
        rw [e] at k3
        obtain ⟨r'', rfl, _⟩ := mend_head (r := r') k3 (by decide) (by decide)
        rw [if_pos ⟨rfl, rfl⟩] at g1
        have g3 : some 41 = some 120 := of_decide_eq_true g1
        exact absurd g3 (by decide)
    rw [mendF] at h1 h2 ⊢
    split at h1
    · rename_i k
      rw [if_pos k] at h2 ⊢
      exact one h1 h2 fun e => by cases e
    · rename_i k
      rw [if_neg k] at h2 ⊢
      split at h1
      · rename_i k'
        rw [if_pos k'] at h2 ⊢
        exact mend_bb g2 h1 h2
      · rename_i k'
        rw [if_neg k'] at h2 ⊢
        exact one h1 h2 fun e => by
          by_cases h0 : c = 0
          · rw [if_pos h0] at e; cases e
          · rwa [if_neg h0] at e
theorem mend_op : ∀ (t : List Nat) (b : Bool), opn (mendF b t) ≤ opn t
  | [], _ => Nat.le_refl _
  | c :: r, b => by
    have ih := mend_op r (c == 13)
    have e : opn (c :: r) = opn [c] + opn r := opn_app [c] r
    rw [mendF, opn_app, e]
    refine Nat.add_le_add ?_ ih
    split
    · exact Nat.zero_le _
    split
    · exact Nat.zero_le _
    split
    · exact Nat.zero_le _
    · exact Nat.le_refl _
structure Tx (t : List Nat) (R : Fold) : Prop where
  m1 : Mends t
  m2 : Mends R.sg
  e1 : mendR t = mendF false t
  e2 : mendR R.sg = R.sg
  l1 : t.length ≤ 182
  ls : (mendF false t).length ≤ 182
  lf : R.sg.length ≤ 182
  al : Al (mendF false t) R.sg (meanF R.vs) (AtF (mendF false t) R)
  op : opn (mendF false t) ≤ 14
theorem okB_of {c : Nat} (h : okB c = true) : c < 57344 ∧ ¬ c = 47 ∧ ¬ c = 43 := by
  obtain ⟨h, h3⟩ := Bool.and_eq_true_iff.mp h
  obtain ⟨h1, h2⟩ := Bool.and_eq_true_iff.mp h
  refine ⟨of_decide_eq_true h1, fun e => ?_, fun e => ?_⟩
  · rw [decide_eq_true e] at h2; cases h2
  · rw [decide_eq_true e] at h3; cases h3
theorem mend_sign : ∀ (t : List Nat) (b : Bool), ∀ c ∈ mendF b t, ¬ c = 13 ∧ ¬ c = 12 ∧ ¬ c = 0
  | [], _, _, h => nomatch h
  | x :: r, b, c, h => by
    rw [mendF] at h
    rcases List.mem_append.mp h with h | h
    · split at h
      · cases List.mem_singleton.mp h; exact ⟨by decide, by decide, by decide⟩
      split at h
      · cases h
      · rename_i k k'
        cases List.mem_singleton.mp h
        split
        · exact ⟨by decide, by decide, by decide⟩
        · rename_i h0
          exact ⟨fun e => k (.inl e), fun e => k (.inr (.inl e)), h0⟩
    · exact mend_sign r _ c h
theorem tx_of {t : List Nat} (h : DF t 14) : Tx t (foldS (mendF false t) (mendF false t).length 0 0) := by
  have l1 := h.le
  have ls := mendF_len false t
  have hs : ∀ c ∈ mendF false t, okS c ∧ okD c ∧ (¬ c = 13 ∧ ¬ c = 12 ∧ ¬ c = 0) := fun c hc => by
    have k := mend_sign t false c hc
    rcases mendF_mem false t c hc with e | e | e
    · subst e; exact ⟨.inl (by decide), ⟨by decide, by decide, by decide⟩, k⟩
    · subst e; exact ⟨.inr (by decide), ⟨by decide, by decide, by decide⟩, k⟩
    · obtain ⟨h1, h2, h3⟩ := okB_of (h.ok c e)
      exact ⟨.inl h1, ⟨Nat.lt_trans h1 (by decide), h2, h3⟩, k⟩
  have al := fold_al (s := mendF false t) (by lia) (fun c hc => (hs c hc).1) (mend_bb h.bb)
  have g := fo_facts (mendF false t) (mendF false t).length 0 0
  generalize foldS (mendF false t) (mendF false t).length 0 0 = R at *
  have lf : R.sg.length ≤ 182 := by have := g.sl; lia
  have hv := g.vl
  have hF : ∀ c ∈ R.sg, okD c ∧ (¬ c = 13 ∧ ¬ c = 12 ∧ ¬ c = 0) := fun c hc => by
    rcases g.sg c hc with e | e | ⟨e1, e2⟩
    · exact (hs c e).2
    · rcases of_decide_eq_true e with h | h | h | h | h | h <;> subst h <;> exact ⟨⟨by decide, by decide, by decide⟩, by decide, by decide, by decide⟩
    · exact ⟨⟨by lia, by lia, by lia⟩, by lia, by lia, by lia⟩
  refine ⟨mends_of (by lia) fun c hc => ?_, mends_of (by lia) fun c hc => (hF c hc).1, (mendR_is t).1, ?_, by lia, by lia, lf, al, Nat.le_trans (mend_op t false) h.op⟩
  · obtain ⟨h1, h2, h3⟩ := okB_of (h.ok c hc)
    exact ⟨Nat.lt_trans h1 (by decide), h2, h3⟩
  · rw [(mendR_is R.sg).1]; exact mend_same (fun c hc => (hF c hc).2) rfl
theorem drawn_df (script : List Int) : DF (drawF [] 0 (script.take 14)) 14 := by
  have h0 : DF [] 0 := ⟨Nat.zero_le _, fun c hc => (nomatch hc), rfl, Nat.zero_le _⟩
  have h := draw_df (script.take 14) [] 0 h0
  have hl : (script.take 14).length ≤ 14 := by rw [List.length_take]; exact Nat.min_le_left ..
  rw [Nat.zero_add] at h
  exact ⟨Nat.le_trans h.le (Nat.mul_le_mul_left 13 hl), h.ok, h.bb, Nat.le_trans h.op hl⟩
theorem num_ok_of {t : List Nat} (M : Mends t) : NumOk (mendR t) := fun p e pl h => ⟨(M.num p e pl h).1, (M.num p e pl h).2.1⟩
theorem tell_both {C : Addr → Str → Option AttR} {cl : Cls} {ser serU : List Nat → List Nat} (A : TellAt C cl) {t : List Nat} (h : DF t 14) :
    ∃ ys, TRs C id (plG [] []) 14 (parseB cl ser serU (mendR t) (mendR t).length 0 ⟨[], [], none⟩) ys ∧
      TRs C (meanF (foldS (mendF false t) (mendF false t).length 0 0).vs) (plG ((placesF 1 1 (foldS (mendF false t) (mendF false t).length 0 0).sg).map keyI) (plV (mendF false t) (foldS (mendF false t) (mendF false t).length 0 0).org)) 14
        (parseB cl ser serU (mendR (foldS (mendF false t) (mendF false t).length 0 0).sg) (mendR (foldS (mendF false t) (mendF false t).length 0 0).sg).length 0 ⟨[], [], none⟩) ys := by
  obtain ⟨m1, m2, e1, e2, l1, ls, lf, al, op⟩ := tx_of h
  have n1 := num_ok_of m1
  have n2 := num_ok_of m2
  have a0 := atF_0 (mendF false t)
  rw [e1] at n1 ⊢
  rw [e2] at n2 ⊢
  clear m1 m2 e1 e2
  generalize foldS (mendF false t) (mendF false t).length 0 0 = R at *
  generalize mendF false t = s at *
  exact both al A (by lia) n1 n2 (fun a hq => plG_is hq (atF_org a hq)) a0 op
theorem join_one1 (F : List Nat) : (F.map fun c => [c]).flatten = F := (flat_one id F).trans (List.map_id F)
theorem law_ok {cl : Cls} {ser serU : List Nat → List Nat} (A : TellAt T.att cl) (drawn : ∀ script : List Int, Con B d "_law_drawn" [.lst (script.map PV.int)] (.str (drawF [] 0 (script.take 14))))
    (mended : ∀ {t : List Nat}, t.length ≤ 100000 → Con B d "_law_mended" [.str t] (.lst (one1 (mendF false t)))) (folded : ∀ {s : List Nat}, s.length ≤ 900 → Con B d "_law_folded" [.lst (one1 s)] (foPV (foldS s s.length 0 0)))
    (places : ∀ {s : List Nat}, s.length ≤ 100000 → Con B d "_law_places" [.lst (one1 s)] (.lst ((placesF 1 1 s).map plPV)))
    (parse : ∀ {t : List Nat}, Mends t → Con B d "parse_component_value_list" [.str t] (.lst (parseB cl ser serU (mendR t) (mendR t).length 0 ⟨[], [], none⟩)))
    (told : ∀ {xs ys : List PV} {ks : List (List Nat)} {vs : List PV} {tks : List (List Int)} {tvs : List PV} {f : Nat → Nat}, MeanOK ks vs f → TRs T.att f (plG tks tvs) 14 xs ys → Con B d "_law_told" [.lst xs, .dct ks vs, .tdc tks tvs] (.lst ys))
    (script : List Int) (H : AH) : vcSs B T d m_law (isRet (.bool true) H) (initLoc ([.lst (script.map PV.int)] ++ []) v_law.length) H := by
  have df := drawn_df script
  have h0 := drawn script
  generalize drawF [] 0 (script.take 14) = t at *
  obtain ⟨ys, y1, y2⟩ := tell_both (ser := ser) (serU := serU) A df
  obtain ⟨m1, m2, e1, e2, l1, ls, lf, al, op⟩ := tx_of df
  have c1 := told mean_id y1
  have c2 := told (mean_fold _) y2
  have eqp := eqPD_self (trs_pl y1).lst (by decide)
  have p1 := parse m1
  have p2 := parse m2
  have fo := folded (s := mendF false t) (by lia)
  have g := fo_facts (mendF false t) (mendF false t).length 0 0
  generalize foldS (mendF false t) (mendF false t).length 0 0 = R at *
  have hj : (R.sg.map fun c => [c]).flatten = R.sg := join_one1 _
  have pf := places (s := R.sg) (by lia)
  refine h0.run ((mended (by lia)).run (fo.run ⟨rfl, (places (by lia)).run fun a ha => pf.run ⟨by rw [List.length_map, placesF_len]; lia, ?_⟩⟩))
  refine dict_ok (by lia) g.ol g.og fun a8 a9 => ⟨c2.b, p2.b, ⟨_, (one1_ch R.sg).symm ▸ allStr_chPV _, by rw [hj]; lia, ?_⟩⟩
  rw [hj]
  refine p2.use ⟨_, upd_self .., c2.use ⟨c1.b, p1.run fun b hb => ⟨_, upd_self .., fun b' hb' => ⟨_, upd_self .., c1.use ⟨_, eqp, rfl, ?_⟩⟩⟩⟩⟩
  exact (del_upd hb' _).trans ((del_upd hb _).trans (del_upd ha _))
end Mine
end
section
namespace Mine
open PySem PySem.W PySem.Calls PyProof.Rows PySem.Builtin PySem.Builtin.Str PySem.NumText
theorem lookup_zip {k : Str} : ∀ {ps : List Str} {vs : List Value}, ps.length = vs.length → k ∈ ps → ((ps.zip vs).lookup k).isNone = false
  | [], _, _, h => by cases h
  | p :: ps, [], h, _ => by cases h
  | p :: ps, v :: vs, h, hk => by
    simp only [List.zip_cons_cons, List.lookup_cons]
    by_cases e : k = p
    · subst e; simp
    · have : (k == p) = false := by simpa using e
      rw [this]
      rcases List.mem_cons.mp hk with h' | h'
      · exact (e h').elim
      · exact lookup_zip (by simpa using h) h'
theorem filterMap_zip : ∀ {ps : List Str} {vs : List Value}, ps.length = vs.length → ps.Nodup → ps.filterMap (fun n => ((ps.zip vs).lookup n).map (n, ·)) = ps.zip vs := by
  have key : ∀ (ps : List Str) (vs : List Value) (l : List (Str × Value)), ps.length = vs.length → (∀ q ∈ ps.zip vs, l.lookup q.1 = some q.2) → ps.filterMap (fun n => (l.lookup n).map (n, ·)) = ps.zip vs := by
    intro ps
    induction ps with
    | nil => intro vs l _ _; rfl
    | cons p ps ih =>
      intro vs l hl h
      cases vs with
      | nil => cases hl
      | cons v vs =>
        rw [List.filterMap_cons, h (p, v) (by simp)]
        simp only [Option.map_some, List.zip_cons_cons]
        rw [ih vs l (by simpa using hl) fun q hq => h q (by simp [hq])]
  intro ps vs hl hn
  refine key ps vs _ hl fun q hq => lookup_mem ?_ hq
  rw [List.map_fst_zip (by lia)]; exact hn
theorem bind_pure_eq {α β : Type} {m : Sem α} {f : α → Sem β} {a : α} {r : Sem β} (hm : m = pure a) (h : f a = r) : m >>= f = r := by subst hm; exact h
theorem if_skip {α : Type} {c : Bool} {X Y Z : Sem α} (hc : c = false) (h : Y = Z) : (if c = true then X else Y) = Z := by rw [hc]; exact h
theorem forIn_nil' {α β : Type} {l : List α} {b : β} {f : α → β → Sem (ForInStep β)} (h : l = []) : forIn l b f = (pure b : Sem β) := by subst h; rfl
theorem filt_none {ps : List Str} {vals : List Value} (hl : ps.length = vals.length) {k : Nat} : (ps.take k).filter (fun n => ((ps.zip vals).lookup n).isNone) = [] :=
  List.filter_eq_nil_iff.mpr fun n hn => by rw [lookup_zip hl (List.mem_of_mem_take hn)]; exact Bool.false_ne_true
theorem par_inv {fd : FuncData} {ps : List Str} (h : plainPar fd ps = true) : fd.params.posonlyargs = [] ∧ fd.params.kwonlyargs = [] ∧ fd.params.vararg = none ∧ fd.params.kwarg = none ∧ fd.params.args.map (·.arg) = ps := by
  unfold plainPar at h
  simp only [Bool.and_eq_true, List.isEmpty_iff, Option.isNone_iff_eq_none, beq_iff_eq] at h
  obtain ⟨⟨⟨⟨h1, h2⟩, h3⟩, h4⟩, h5⟩ := h
  exact ⟨h1, h2, h3, h4, h5⟩
theorem bind_plain {fd : FuncData} {ps : List Str} {vals : List Value} (h : plainPar fd ps = true) (hn : ps.Nodup) (hd : fd.defaults = .none) (hl : ps.length = vals.length) : bindArgs fd ⟨vals, []⟩ = pure (ps.zip vals) := by
  obtain ⟨h1, h2, h3, h4, h5⟩ := par_inv h
  clear h
  obtain ⟨nm, qn, ⟨po, as, va, ko, kd, kw, df⟩, bd, sc, gl, cl, de, kdf, doc, pm, an, cd, ct, bi⟩ := fd
  dsimp only at h1 h2 h3 h4 h5 hd
  subst h1; subst h2; subst h3; subst h4; subst h5; subst hd
  refine bind_pure_eq rfl (bind_pure_eq (a := none) rfl (if_skip ?_ (if_skip ?_ (bind_pure_eq (a := (as.map Arg.arg).zip vals) ?_ ?_))))
  · exact (Bool.and_true _).trans (decide_eq_false (by rw [← hl]; exact Nat.lt_irrefl _))
  · exact congrArg (fun l : List Str => !l.isEmpty) (filt_none hl)
  · exact forIn_nil' ((congrArg (List.zip _) List.drop_nil).trans List.zip_nil_right)
  · refine bind_pure_eq (a := ((as.map Arg.arg).zip vals, [])) rfl (if_skip rfl ?_)
    refine congrArg pure ?_
    refine (congrArg (List.filterMap _) (List.append_nil (as.map Arg.arg))).trans ?_
    exact filterMap_zip hl hn
theorem wp_eq {M : Model} {A : Around} {α : Type} {m m' : Sem α} {Q : α → Shared → Prop} {E : Value → Shared → Prop} {s : Shared} (e : m = m') (h : wpAny M A m' Q E s) : wpAny M A m Q E s := by subst e; exact h
theorem miss_one {a b : Str} {v : Value} : (([a, b].take 1).filter fun n => (List.lookup n ([a, b].zip [v])).isNone) = [] := by simp
theorem look_two {a b : Str} {v : Value} (h : (b == a) = false) : List.lookup b [(a, v)] = none := by simp [List.lookup_cons, h]
theorem fil_two {a b : Str} {v x : Value} (h : (b == a) = false) : ([a, b].filterMap fun n => (List.lookup n [(a, v), (b, x)]).map (n, ·)) = [(a, v), (b, x)] := by simp [List.lookup_cons, h]
theorem if_take {α : Type} {c : Bool} {X Y Z : Sem α} (hc : c = true) (h : X = Z) : (if c = true then X else Y) = Z := by rw [hc]; exact h
theorem forIn_one {α β : Type} {x : α} {b b' : β} {f : α → β → Sem (ForInStep β)} (h : f x b = pure (.yield b')) : forIn [x] b f = (pure b' : Sem β) := by rw [List.forIn_cons, h]; rfl
theorem bind_one {fd : FuncData} {s : Shared} {a b : Str} {v x : Value} {t : Addr} {o : Obj} {n : Nat} (h : plainPar fd [a, b] = true) (hn : a ≠ b) (hd : fd.defaults = .ref t) (ho : s.heap.get? t = some o) (hs : o.data = .seq #[x] n) : BindsTo s fd ⟨[v], []⟩ [(a, v), (b, x)] := by
  obtain ⟨h1, h2, h3, h4, h5⟩ := par_inv h
  clear h
  obtain ⟨nm, qn, ⟨po, as, va, ko, kd, kw, df⟩, bd, sc, gl, cl, de, kdf, doc, pm, an, cd, ct, bi⟩ := fd
  dsimp only at h1 h2 h3 h4 h5 hd
  subst h1; subst h2; subst h3; subst h4; subst hd
  obtain ⟨a1, as, rfl⟩ : ∃ a1 r, as = a1 :: r := by cases as with
    | nil => cases h5
    | cons a1 r => exact ⟨a1, r, rfl⟩
  obtain ⟨a2, as, rfl⟩ : ∃ a1 r, as = a1 :: r := by cases as with
    | nil => cases h5
    | cons a1 r => exact ⟨a1, r, rfl⟩
  obtain ⟨e1, h5⟩ := List.cons.inj h5
  obtain ⟨e2, h5⟩ := List.cons.inj h5
  cases as with
  | cons _ _ => cases h5
  | nil =>
  subst e1; subst e2
  have hb : (a2.arg == a1.arg) = false := beq_eq_false_iff_ne.mpr (Ne.symm hn)
  intro M A E Q q
  show wpAny M A (forIn ([] : List (Str × Value)) _ _ >>= _) Q E s
  refine wpAny_bind (wpAny_pure (wpAny_bind (wpAny_seqItems ho hs (wp_eq ?_ (wpAny_pure q)))))
  refine if_skip rfl (if_skip (congrArg (fun l : List Str => !l.isEmpty) (miss_one (b := a2.arg) (v := v))) (bind_pure_eq (a := [(a1.arg, v), (a2.arg, x)]) ?_ ?_))
  · refine forIn_one ?_
    exact if_take (congrArg Option.isNone (look_two hb)) rfl
  · refine bind_pure_eq (a := ([(a1.arg, v), (a2.arg, x)], [])) rfl (if_skip rfl ?_)
    exact congrArg pure (fil_two hb)
end Mine
end
section
namespace Mine
open PySem PySem.W PySem.Calls PyProof.Rows PySem.Builtin PySem.Builtin.Str PySem.NumText
theorem cutH_get (h : Heap) (ps : List Addr) (a : Addr) : (cutH h ps).get? a = gt h ps a := by
  unfold cutH gt Heap.get?
  simp only [Array.getElem?_mapIdx]
  cases h.objs[a]? with
  | none => simp
  | some o =>
    obtain ⟨c, d, dt, sl⟩ := o
    by_cases e : ps.contains a = true
    · rw [Option.map_some, if_pos e, if_pos e]
    · rw [Option.map_some, if_neg e, if_neg e]
theorem gt_sub {h : Heap} {ps : List Addr} {a : Addr} {o : Obj} (e : gt h ps a = some o) : h.get? a = some o := by
  unfold gt at e
  split at e
  · cases e
  · exact e
theorem ns_cut {h : Heap} {ps : List Addr} {a : Addr} (x : h.isNs a = true) (n : ps.contains a = false) : (cutH h ps).Ns a (h.nsMap a) := by
  obtain ⟨o, es, ep, ho, r⟩ := Heap.Ns.of_isNs x
  refine ⟨o, es, ep, ?_, r⟩
  rw [cutH_get]; unfold gt; rw [n]; simpa using ho
theorem frag_in (h : Heap) (ps as : List Addr) : (frag h ps as).In (cutH h ps) := by
  intro a o e
  rw [cutH_get]
  unfold frag at e
  induction as with
  | nil => cases e
  | cons b r ih =>
    rw [List.filterMap_cons] at e
    cases hg : gt h ps b with
    | none => rw [hg] at e; exact ih e
    | some x =>
      rw [hg] at e
      simp only [Option.map_some, List.lookup_cons] at e
      by_cases q : a = b
      · subst q; simp at e; rw [hg, e]
      · have : (a == b) = false := by simpa using q
        rw [this] at e; exact ih e
theorem ite_some {α : Type} {c : Bool} {x : Option α} {r : α} (h : (if c = true then x else none) = some r) : c = true ∧ x = some r := by
  cases c with
  | true => exact ⟨rfl, h⟩
  | false => cases h
theorem bind_some {α β : Type} {x : Option α} {f : α → Option β} {r : β} (h : x.bind f = some r) : ∃ a, f a = some r := by
  cases x with
  | none => cases h
  | some a => exact ⟨a, h⟩
theorem or_some {α : Type} {x y : Option α} {r : α} (h : x.or y = some r) : x = some r ∨ y = some r := by
  cases x with
  | none => exact .inr h
  | some a => exact .inl h
theorem sOf_cps (s : Str) : sOf s.cps.toList = s := by obtain ⟨a⟩ := s; simp
theorem strVal_of {s : Str} {r : AttR} (h : strVal s = some r) : ∃ p, r = .val p ∧ ∀ (B : Base) (z : PH) (t : Tok), Rep B z p (.str s t) := by
  obtain ⟨q, h⟩ := ite_some h
  obtain ⟨q1, q2⟩ := ands q
  exact ⟨_, (Option.some.inj h).symm, fun B z t => ⟨⟨fun c hc => of_decide_eq_true (List.all_eq_true.mp q1 c hc), Nat.le_trans (Nat.le_of_eq Array.length_toList) (Nat.le_trans (of_decide_eq_true q2) (by decide))⟩, t, by rw [sOf_cps]⟩⟩
section
variable {B : Base} {K : Frag} {h : Heap}
theorem att_of {C : Addr} {nm : Str} {r : AttR} (X : K.In B.heap) (e : attOf K C nm = some r) : AttSem B C nm r := by
  obtain ⟨q, e⟩ := ite_some e
  obtain ⟨q1, q2⟩ := ands q
  rcases or_some e with e | e
  · obtain ⟨f, e⟩ := bind_some e
    obtain ⟨v, e⟩ := bind_some e
    obtain ⟨p, e⟩ := bind_some e
    obtain ⟨q3, e⟩ := ite_some e
    obtain ⟨q3, q4⟩ := ands q3
    obtain ⟨i, hi, rfl⟩ := Option.map_eq_some_iff.mp e
    exact att_slot X q1 q2 (f.2.trans (congrArg some (v.2.trans (congrArg some p.2)))) (beq_iff_eq.mp q3) (beq_iff_eq.mp q4) hi
  · obtain ⟨f, e⟩ := bind_some e
    obtain ⟨v, e⟩ := bind_some e
    obtain ⟨s, e⟩ := bind_some e
    obtain ⟨p, rfl, hp⟩ := strVal_of e
    exact att_val X q1 (f.2.trans (congrArg some (v.2.trans (congrArg _ s.2)))) rfl (hp _ _ _)
theorem sat_of {C : Addr} {nm : Str} {i : Nat} (X : K.In B.heap) (e : satOf K C nm = some i) : SatSem B C nm i := by
  obtain ⟨q, e⟩ := ite_some e
  obtain ⟨q1, q2⟩ := ands q
  obtain ⟨f, e⟩ := bind_some e
  obtain ⟨v, e⟩ := bind_some e
  obtain ⟨p, e⟩ := bind_some e
  obtain ⟨q3, e⟩ := ite_some e
  obtain ⟨j, hj, e⟩ := Option.bind_eq_some_iff.mp e
  obtain ⟨q4, e⟩ := ite_some e
  obtain rfl := Option.some.inj e
  exact sat_slot X (beq_iff_eq.mp q1) q2 (f.2.trans (congrArg some (v.2.trans (congrArg some p.2)))) (beq_iff_eq.mp q3) hj (of_decide_eq_true q4)
theorem good_tab (X : K.In B.heap) (hm : ∀ n, B.mg n = h.nsMap mainGlobals n) : GoodT B ⟨attOf K, satOf K, statOf K h, fun _ => none⟩ := by
  refine ⟨fun C nm r e => att_of X e, fun C nm i e => sat_of X e, fun cls nm v e => ?_⟩
  obtain ⟨c, e⟩ := bind_some e
  obtain ⟨C, e⟩ := bind_some e
  obtain ⟨q, e⟩ := ite_some e
  obtain ⟨q1, q2⟩ := ands q
  obtain ⟨f, e⟩ := bind_some e
  obtain ⟨fv, e⟩ := bind_some e
  obtain ⟨q3, e⟩ := ite_some e
  obtain rfl := Option.some.inj e
  exact stat_fn X ((hm _).trans (c.2.trans (congrArg some C.2))) (beq_iff_eq.mp q1) q2 (f.2.trans (congrArg some fv.2)) q3
end
theorem funAt_of {g : Addr → Option Obj} {fv : Value} {fd : FuncData} (e : funAt g fv = some fd) : ∃ a o, fv = .ref a ∧ g a = some o ∧ o.data = .func fd := by
  obtain ⟨a, e⟩ := bind_some e
  obtain ⟨o, e⟩ := bind_some e
  obtain ⟨f, _, rfl⟩ := Option.map_eq_some_iff.mp e
  exact ⟨a.1, o.1, a.2, o.2, f.2⟩
theorem codeAt_of {g : Addr → Option Obj} {h : Heap} (hg : ∀ a, h.get? a = g a) {cd : Value} {q : Str} (e : codeAt g cd q = true) : h.CodeRec cd q := by
  obtain ⟨c, e⟩ := any_inv e
  obtain ⟨o, e⟩ := any_inv e
  obtain ⟨vs, e⟩ := any_inv e
  obtain ⟨n, e⟩ := any_inv e
  obtain ⟨m, e⟩ := any_inv e
  exact ⟨c.1, o.1, vs.1, m.1.2, c.2, (hg c.1).trans o.2, vs.2, n.2.trans (congrArg some (m.2.trans (by rw [beq_iff_eq.mp e])))⟩
theorem all_get {α : Type} {p : α → Bool} {l : List α} (h : l.all p = true) (i : Nat) {x : α} (e : l[i]? = some x) : p x = true := List.all_eq_true.mp h x (List.mem_of_getElem? e)
theorem notb {b : Bool} (h : (!b) = true) : b = false := by cases b with
  | false => rfl
  | true => cases h
theorem mem_zip_nodup {vars ps : List Str} : ps.isPrefixOf vars = true → vars.Nodup → (∃ r, vars = ps ++ r) ∧ ps.Nodup := by
  intro h hn
  obtain ⟨r, e⟩ := List.isPrefixOf_iff_prefix.mp h
  refine ⟨⟨r, e.symm⟩, ?_⟩
  rw [← e] at hn
  exact (List.nodup_append.mp hn).1
theorem fd_facts {g : Addr → Option Obj} {B : Base} (hg : ∀ a, B.heap.get? a = g a) {fd : FuncData} {ps vars : List Str} {ms : List MS} (q : fdChk g fd ps vars ms = true) :
    B.heap.CodeRec fd.code fd.qualname ∧ (∃ body, fd.body = .stmts body ∧ chkSs ms fd.scope vars body = true) ∧ fd.scope.isCoroutine = false ∧ fd.scope.isGenerator = false ∧ fd.scope.kind = .function ∧ fd.globals = mainGlobals ∧ fd.builtins = builtinsNs ∧
    (∀ x ∈ fd.scope.names, x.2 ≠ .cell) ∧ (∀ x ∈ vars, fd.scope.names.lookup x = some .local ∧ (x == ("__debug__" : Str)) = false) ∧ plainPar fd ps = true ∧ vars.Nodup ∧ ps.Nodup ∧ ∃ r, vars = ps ++ r := by
  have hp := mem_zip_nodup (all_get q 11 rfl) (of_decide_eq_true (all_get q 10 rfl))
  refine ⟨codeAt_of hg (all_get q 0 rfl), ?_, notb (all_get q 1 rfl), notb (all_get q 2 rfl), beq_iff_eq.mp (all_get q 3 rfl), beq_iff_eq.mp (all_get q 4 rfl), beq_iff_eq.mp (all_get q 5 rfl), fun x hx => ?_, fun x hx => ?_, all_get q 8 rfl, of_decide_eq_true (all_get q 10 rfl), hp.2, hp.1⟩
  · obtain ⟨b, h⟩ := any_inv (all_get q 9 rfl)
    exact ⟨b.1, b.2, h⟩
  · exact beq_eq_false_iff_ne.mp (notb (List.all_eq_true.mp (all_get q 6 rfl) x hx))
  · obtain ⟨h1, h2⟩ := ands (List.all_eq_true.mp (all_get q 7 rfl) x hx)
    exact ⟨beq_iff_eq.mp h1, notb h2⟩
theorem fnOK_mk {g : Addr → Option Obj} {B : Base} (hg : ∀ a, B.heap.get? a = g a) {fv : Value} {fd : FuncData} {ps vars : List Str} {ms : List MS} {np : Nat} {exP : List PV} {exV : List Value} (e : funAt g fv = some fd) (q : fdChk g fd ps vars ms = true) (hl : ps.length = np + exP.length) (hex : RepL B B.heap.get? exP exV)
    (hb : plainPar fd ps = true → ps.Nodup → ∀ (s : Shared) (vals : List Value), BaseIn B s → vals.length = np → BindsTo s fd ⟨vals, []⟩ (ps.zip (vals ++ exV))) : FnOK B fv ps np exP vars ms := by
  obtain ⟨a, o, rfl, ho, hd⟩ := funAt_of e
  obtain ⟨f1, ⟨body, f2, f3⟩, f4, f5, f6, f7, f8, f9, f10, f11, f12, f13, f14⟩ := fd_facts hg q
  exact ⟨⟨a, o, fd, body, exV, rfl, (hg a).trans ho, hd, f1, f2, f4, f5, f6, f7, f8, f9, f10, hex, hb f11 f13, f3⟩, f12, f14, hl⟩
theorem fnOK_of {g : Addr → Option Obj} {B : Base} (hg : ∀ a, B.heap.get? a = g a) {fv : Value} {ps vars : List Str} {ms : List MS} {np : Nat} (hnp : ps.length = np) (q : fnChk g fv ps vars ms = true) : FnOK B fv ps np [] vars ms := by
  obtain ⟨fd, q⟩ := any_inv q
  obtain ⟨q, qd⟩ := ands q
  refine fnOK_mk hg fd.2 q hnp (exV := []) rfl fun hp hn s vals xx hl => .of_eq ?_
  rw [List.append_nil]
  exact bind_plain hp hn (beq_iff_eq.mp qd) (hnp.trans hl.symm)
theorem one_val {vals : List Value} (h : vals.length = 1) : ∃ v, vals = [v] := by
  cases vals with
  | nil => cases h
  | cons v r => cases r with
    | nil => exact ⟨v, rfl⟩
    | cons => cases h
theorem fnOK1_of {g : Addr → Option Obj} {B : Base} (hg : ∀ a, B.heap.get? a = g a) {fv : Value} {a b : Str} {vars : List Str} {ms : List MS} (q : fnChk1 g fv a b vars ms = true) : FnOK B fv [a, b] 1 [.bool false] vars ms := by
  obtain ⟨fd, q⟩ := any_inv q
  obtain ⟨q, qd⟩ := ands q
  obtain ⟨q, qn⟩ := ands q
  refine fnOK_mk hg fd.2 q rfl (exV := [.bool false]) ⟨_, _, rfl, rfl, rfl⟩ fun hp hn s vals hb hl => ?_
  obtain ⟨t, qd⟩ := any_inv qd
  obtain ⟨y, qd⟩ := any_inv qd
  obtain ⟨sq, qd⟩ := any_inv qd
  obtain ⟨v, rfl⟩ := one_val hl
  exact bind_one hp (beq_eq_false_iff_ne.mp (notb qn)) t.2 (hb t.1 _ ((hg t.1).trans y.2)) (sq.2.trans (by rw [beq_iff_eq.mp qd]))
theorem cell_of {g : Addr → Option Obj} {B : Base} (hg : ∀ a, B.heap.get? a = g a) {fv : Value} {x cn y : Str} {vars : List Str} {ms : List MS} (q : cellChk g fv x cn y vars ms = true) : FnOKc B fv x cn y vars ms := by
  obtain ⟨fd, q⟩ := any_inv q
  obtain ⟨a, o, rfl, ho, hd⟩ := funAt_of fd.2
  obtain ⟨b, hb⟩ := any_inv (all_get q 12 rfl)
  have hn : vars.Nodup := of_decide_eq_true (all_get q 13 rfl)
  refine ⟨⟨a, o, fd.1, b.1, rfl, (hg a).trans ho, hd, codeAt_of hg (all_get q 0 rfl), b.2, notb (all_get q 1 rfl), notb (all_get q 2 rfl), beq_iff_eq.mp (all_get q 3 rfl), beq_iff_eq.mp (all_get q 4 rfl), beq_iff_eq.mp (all_get q 5 rfl), List.isEmpty_iff.mp (all_get q 6 rfl),
    fun k hk e => ?_, beq_iff_eq.mp (all_get q 8 rfl), fun k hk => ?_, fun u v w => bind_plain (all_get q 10 rfl) (of_decide_eq_true (all_get q 14 rfl)) (beq_iff_eq.mp (all_get q 11 rfl)) rfl, hb⟩, hn, ?_⟩
  · rcases Bool.or_eq_true_iff.mp (List.all_eq_true.mp (all_get q 7 rfl) k hk) with h | h
    · rw [e] at h; cases h
    · exact beq_iff_eq.mp h
  · obtain ⟨h1, h2⟩ := ands (List.all_eq_true.mp (all_get q 9 rfl) k hk)
    exact ⟨beq_iff_eq.mp h1, notb h2⟩
  · obtain ⟨r, e⟩ := (mem_zip_nodup (all_get q 15 rfl) hn).1
    exact ⟨r, e⟩
theorem clsAt_of {g : Addr → Option Obj} {B : Base} (hg : ∀ a, B.heap.get? a = g a) {K : Frag} {h : Heap} (X : K.In B.heap) {nm : Str} {C : Addr} {ps vars own : List Str} {ms : List MS} {np : Nat} (hm : B.mg nm = some (.ref C)) (hnp : ps.length = np)
    (q : clsChk g K C ps vars ms own = true) : ClsAt B ⟨attOf K, satOf K, statOf K h, fun _ => none⟩ nm C ps np vars ms own := by
  obtain ⟨q, q3⟩ := ands q
  obtain ⟨q1, q2⟩ := ands q
  refine ⟨hm, cls_keep X q1, ?_, fun i n e => beq_iff_eq.mp (List.all_eq_true.mp q3 (n, i) (by rw [List.mem_zipIdx_iff_getElem?]; exact e))⟩
  obtain ⟨i, q2⟩ := any_inv q2
  obtain ⟨v, q2⟩ := any_inv q2
  obtain ⟨f, q2⟩ := any_inv q2
  obtain ⟨q4, q5⟩ := ands q2
  exact ⟨K, f.1, X, q1, i.2.trans (congrArg some (v.2.trans (congrArg some f.2))), beq_iff_eq.mp q4, fnOK_of hg hnp q5⟩
theorem isSlot_of {i : Nat} {r : AttR} (h : isSlot i r = true) : r = .slot i := by
  cases r with
  | slot j => rw [beq_iff_eq.mp (show (j == i) = true from h)]
  | val p => cases h
theorem isTp_of {tp : List Nat} {r : AttR} (h : isTp tp r = true) : r = .val (.str tp) := by
  cases r with
  | slot j => cases h
  | val p => cases p with
    | str s => rw [beq_iff_eq.mp (show (s == tp) = true from h)]
    | _ => exact Bool.noConfusion h
theorem attAt_of {K : Frag} {C : Addr} {tp : List Nat} {fs : List Str} (q : tellChk K C tp fs = true) : AttAt (attOf K) C tp fs := by
  obtain ⟨q1, q2⟩ := ands q
  refine ⟨?_, fun i f e => ?_⟩
  · obtain ⟨r, q1⟩ := any_inv q1
    exact r.2.trans (congrArg some (isTp_of q1))
  · obtain ⟨r, q3⟩ := any_inv (List.all_eq_true.mp q2 (f, i) (by rw [List.mem_zipIdx_iff_getElem?]; exact e))
    exact r.2.trans (congrArg some (isSlot_of q3))
end Mine
end
section
namespace Mine
open PySem PySem.W PySem.Calls PyProof.Rows PySem.Builtin PySem.Builtin.Str PySem.NumText
theorem strIs_of {s : List Nat} {v : Value} (q : strIs s v = true) : (∃ t, v = .str (sOf s) t) ∧ sok s := by
  obtain ⟨q1, q2, q3⟩ := ands3 q
  obtain ⟨x, q1⟩ := any_inv q1
  exact ⟨⟨x.1.2, x.2.trans (by rw [beq_iff_eq.mp q1])⟩, fun c hc => of_decide_eq_true (List.all_eq_true.mp q2 c hc), Nat.le_trans (of_decide_eq_true q3) (by decide)⟩
theorem strIs_rep {B : Base} {z : PH} {s : List Nat} {v : Value} (q : strIs s v = true) : Rep B z (.str s) v := ⟨(strIs_of q).2, (strIs_of q).1⟩
theorem strsAre_cons {s : List Nat} {ss : List (List Nat)} {vs : List Value} (h : strsAre (s :: ss) vs = true) : ∃ v r, vs = v :: r ∧ strIs s v = true ∧ strsAre ss r = true := by
  cases vs with
  | nil => cases h
  | cons v r => exact ⟨v, r, rfl, (ands h).1, (ands h).2⟩
theorem strsAre_rep {ss : List (List Nat)} : ∀ {vs : List Value}, strsAre ss vs = true → (∀ (B : Base) (z : PH), RepL B z (ss.map .str) vs) ∧ vs.length = ss.length := by
  induction ss with
  | nil =>
    intro vs h
    obtain rfl := nil_inv h
    exact ⟨fun xx xx => rfl, rfl⟩
  | cons s ss ih =>
    intro vs h
    obtain ⟨v, r, rfl, h1, h2⟩ := strsAre_cons h
    exact ⟨fun B z => ⟨v, r, rfl, strIs_rep h1, (ih h2).1 B z⟩, congrArg Nat.succ (ih h2).2⟩
theorem obj_eq {o : Obj} {k : Value} {d : Data} (h : (o.cls == k && o.dict.isNone && o.slots.isEmpty) = true) (hd : o.data = d) : o = { cls := k, data := d } := by
  obtain ⟨c, di, da, sl⟩ := o
  obtain ⟨h1, h2, h3⟩ := ands3 h
  obtain rfl : c = k := beq_iff_eq.mp h1
  obtain rfl : di = none := Option.isNone_iff_eq_none.mp h2
  obtain rfl : sl = #[] := Array.isEmpty_iff.mp h3
  obtain rfl : da = d := hd
  rfl
theorem seq_of {g : Addr → Option Obj} {k : String} {ss : List (List Nat)} {v : Value} (q : seqChk g k ss v = true) :
    ∃ a n xs, v = .ref a ∧ g a = some { cls := .type k, data := .seq xs n } ∧ strsAre ss xs.toList = true ∧ xs.size ≤ sizeLine := by
  obtain ⟨a, q⟩ := any_inv q
  obtain ⟨o, q⟩ := any_inv q
  obtain ⟨s, q⟩ := any_inv q
  obtain ⟨q1, q2, q3⟩ := ands3 q
  exact ⟨a.1, s.1.2, s.1.1, a.2, o.2.trans (congrArg some (obj_eq q1 s.2)), q2, Nat.le_trans (Nat.le_of_eq (Array.length_toList.symm.trans (strsAre_rep q2).2)) (Nat.le_trans (of_decide_eq_true q3) (by decide))⟩
theorem tup_rep {B : Base} {g : Addr → Option Obj} (hg : ∀ a, B.heap.get? a = g a) {ss : List (List Nat)} {v : Value} (q : seqChk g "tuple" ss v = true) : Rep B B.heap.get? (.tup (ss.map .str)) v := by
  obtain ⟨a, n, xs, rfl, h1, h2, h3⟩ := seq_of q
  exact ⟨a, n, xs, rfl, (hg a).trans h1, (strsAre_rep h2).1 _ _, h3⟩
theorem lst_rep {B : Base} {g : Addr → Option Obj} (hg : ∀ a, B.heap.get? a = g a) {ss : List (List Nat)} {v : Value} (q : seqChk g "list" ss v = true) : Rep B B.heap.get? (.lst (ss.map .str)) v := by
  obtain ⟨a, n, xs, rfl, h1, h2, h3⟩ := seq_of q
  exact ⟨a, n, xs, rfl, (hg a).trans h1, (strsAre_rep h2).1 _ _, h3⟩
theorem rows_rep {B : Base} {g : Addr → Option Obj} (hg : ∀ a, B.heap.get? a = g a) : ∀ {ss : List (List (List Nat))} {vs : List Value}, rowsAre g ss vs = true → RepL B B.heap.get? (ss.map fun r => .lst (r.map .str)) vs ∧ vs.length = ss.length
  | [], vs, h => by
    obtain rfl := nil_inv h
    exact ⟨rfl, rfl⟩
  | s :: ss, [], h => by cases h
  | s :: ss, v :: vs, h => by
    obtain ⟨h1, h2⟩ := ands h
    exact ⟨⟨v, vs, rfl, lst_rep hg h1, (rows_rep hg h2).1⟩, congrArg Nat.succ (rows_rep hg h2).2⟩
theorem rowsChk_rep {B : Base} {g : Addr → Option Obj} (hg : ∀ a, B.heap.get? a = g a) {ss : List (List (List Nat))} {v : Value} (q : rowsChk g ss v = true) : Rep B B.heap.get? (.lst (ss.map fun r => .lst (r.map .str))) v := by
  obtain ⟨a, q⟩ := any_inv q
  obtain ⟨o, q⟩ := any_inv q
  obtain ⟨s, q⟩ := any_inv q
  obtain ⟨q1, q2, q3⟩ := ands3 q
  obtain ⟨r1, r2⟩ := rows_rep hg q2
  exact ⟨a.1, s.1.2, s.1.1, a.2, (hg _).trans (o.2.trans (congrArg some (obj_eq q1 s.2))), r1, Nat.le_trans (Nat.le_of_eq (Array.length_toList.symm.trans r2)) (Nat.le_trans (of_decide_eq_true q3) (by decide))⟩
theorem dictAt_of {g : Addr → Option Obj} {a : Addr} {k : Value} {es : Array DictEntry} {n : Nat} (h : g a = some { cls := k, data := .dict es n }) : dictAt g (.ref a) = es.toList := by
  unfold dictAt
  show (((vS (g a)).bind fun o => (dDict o.1.data).map fun q => q.1.1.toList)).getD [] = _
  generalize g a = x at h
  subst h
  rfl
theorem dct_of {g : Addr → Option Obj} {ks vs : List (List Nat)} {v : Value} (q : dctChk g ks vs v = true) : ∃ a n es, v = .ref a ∧ (a == sysModules) = false ∧ g a = some { cls := .type "dict", data := .dict es n } ∧ strsAre ks (es.toList.map (·.key)) = true ∧ strsAre vs (es.toList.map (·.val)) = true ∧ ks.length ≤ 1000 := by
  obtain ⟨a, q⟩ := any_inv q
  obtain ⟨o, q⟩ := any_inv q
  obtain ⟨s, q⟩ := any_inv q
  obtain ⟨q0, q1, q2, q3, q4⟩ := ands5 q
  exact ⟨a.1, s.1.2, s.1.1, a.2, notb q0, o.2.trans (congrArg some (obj_eq q1 s.2)), q2, q3, of_decide_eq_true q4⟩
theorem find_assoc {k : Str} {ks : List (List Nat)} : ∀ {es : List DictEntry}, strsAre ks (es.map (·.key)) = true → (es.find? fun e => Value.isStrOf k e.key).map (·.val) = assocL k ks (es.map (·.val)) := by
  induction ks with
  | nil =>
    intro es h
    obtain rfl := List.map_eq_nil_iff.mp (nil_inv h)
    rfl
  | cons s ss ih =>
    intro es h
    cases es with
    | nil => cases h
    | cons e es =>
      obtain ⟨h1, h2⟩ := ands (show (strIs s e.key && strsAre ss (es.map (·.key))) = true from h)
      obtain ⟨⟨t, hk⟩, _⟩ := strIs_of h1
      have hi : Value.isStrOf k e.key = (sOf s == k) := by rw [hk]; rfl
      show ((e :: es).find? fun e => Value.isStrOf k e.key).map (·.val) = if sOf s = k then some e.val else assocL k ss (es.map (·.val))
      rw [List.find?_cons, hi]
      by_cases h : sOf s = k
      · rw [if_pos h, beq_iff_eq.mpr h]; rfl
      · rw [if_neg h, beq_eq_false_iff_ne.mpr h]; exact ih h2
theorem keys_of {prog : Program} {w : World} {ks : List (List Nat)} : ∀ {es : List DictEntry}, strsAre ks (es.map (·.key)) = true → es.map (·.hash) = ks.map (fun k => hashStr w (sOf k)) → ∀ e ∈ es, ∃ k, (strKind prog w).is k e.key = true ∧ e.hash = (strKind prog w).hash k := by
  induction ks with
  | nil =>
    intro es h _ e he
    obtain rfl := List.map_eq_nil_iff.mp (nil_inv h)
    cases he
  | cons s ss ih =>
    intro es h hh x hx
    cases es with
    | nil => cases hx
    | cons e es =>
      obtain ⟨h1, h2⟩ := ands (show (strIs s e.key && strsAre ss (es.map (·.key))) = true from h)
      obtain ⟨hh1, hh2⟩ := List.cons.inj hh
      rcases List.mem_cons.mp hx with rfl | hx
      · obtain ⟨⟨t, hk⟩, _⟩ := strIs_of h1
        refine ⟨sOf s, ?_, hh1⟩
        rw [hk]
        exact beq_self_eq_true (sOf s)
      · exact ih h2 hh2 x hx
theorem dct_rep {B : Base} {g : Addr → Option Obj} (hg : ∀ a, B.heap.get? a = g a) {ks vs : List (List Nat)} {v : Value} (q : dctChk g ks vs v = true) (hh : (dictAt g v).map (·.hash) = ks.map (fun k => hashStr B.w (sOf k))) :
    Rep B B.heap.get? (.dct ks (vs.map .str)) v := by
  obtain ⟨a, n, es, rfl, q0, q1, q2, q3, q4⟩ := dct_of q
  rw [dictAt_of q1] at hh
  have l1 := (strsAre_rep q2).2
  have l2 := (strsAre_rep q3).2
  rw [List.length_map] at l1 l2
  refine ⟨a, es.toList.map (·.val), rfl, q0, ?_, (strsAre_rep q3).1 _ _, _, es, n, (hg a).trans q1, ⟨rfl, rfl, rfl⟩, rfl, fun e he => keys_of q2 hh e (Array.mem_toList_iff.mpr he), fun k => ?_, ?_⟩
  · rw [List.length_map]; lia
  · show (es.find? fun e => Value.isStrOf k e.key).map (·.val) = assocL k ks (es.toList.map (·.val))
    rw [← find_assoc q2, ← Array.find?_toList]
  · rw [← Array.length_toList]; lia
theorem isSome_of {α : Type} {o : Option α} (h : o.isSome = true) : ∃ x : α, o = some x := Option.isSome_iff_exists.mp h
theorem trip_of {n : Nat} : ∀ {l : List Value}, tripF n l = true → TriplesOk l := by
  induction n with
  | zero => intro l h; cases h
  | succ n ih =>
    intro l h
    cases l with
    | nil => exact trivial
    | cons a r =>
      obtain ⟨h1, h⟩ := ands h
      cases r with
      | nil => cases h
      | cons b r =>
        obtain ⟨h2, h⟩ := ands h
        cases r with
        | nil => cases h
        | cons c r =>
          obtain ⟨x, _⟩ := isSome_of h1
          obtain ⟨y, _⟩ := isSome_of h2
          rw [x.2, y.2]
          exact (ih (l := r) h : TriplesOk r)
theorem tabP_obj {h : Heap} {c c' p p' : Addr} {ps : Array Value} (e : tabP h c' p' = some (c, p, ps)) : h.get? p = some { cls := .none, data := .fields ps } ∧ TriplesOk ps.toList := by
  obtain ⟨t, e⟩ := bind_some e
  obtain ⟨ps', e⟩ := bind_some e
  obtain ⟨q, e⟩ := ite_some e
  obtain ⟨q1, q2⟩ := ands q
  cases e
  exact ⟨t.2.trans (congrArg some (obj_eq q1 ps'.2)), trip_of q2⟩
theorem tabC_obj {h : Heap} {c c' p : Addr} {ps : Array Value} (e : tabC h c' = some (c, p, ps)) : h.get? p = some { cls := .none, data := .fields ps } ∧ TriplesOk ps.toList := by
  obtain ⟨_, e⟩ := bind_some e
  obtain ⟨_, e⟩ := bind_some e
  obtain ⟨_, e⟩ := bind_some e
  obtain ⟨_, e⟩ := bind_some e
  exact tabP_obj e
theorem tabOf_obj {h : Heap} {nm : Str} {c p : Addr} {ps : Array Value} (e : tabOf h nm = some (c, p, ps)) : h.get? p = some { cls := .none, data := .fields ps } ∧ TriplesOk ps.toList := by
  obtain ⟨_, e⟩ := bind_some e
  obtain ⟨_, e⟩ := bind_some e
  exact tabC_obj e
theorem codeHead_of {B : Base} {g : Addr → Option Obj} (hg : ∀ a, B.heap.get? a = g a) {c p : Addr} (q : codeHeadChk g c p = true) : CodeHead B.heap.get? c p := by
  obtain ⟨o, q⟩ := any_inv q
  obtain ⟨vs, q⟩ := any_inv q
  obtain ⟨a, q⟩ := any_inv q
  obtain ⟨b, q⟩ := any_inv q
  obtain ⟨d, q⟩ := any_inv q
  obtain ⟨e, q⟩ := any_inv q
  obtain ⟨q1, q2, q3, q4⟩ := ands4 q
  exact ⟨beq_eq_false_iff_ne.mp (notb q1), o.1, vs.1, _, _, _, _, _, _, _, (hg c).trans o.2, beq_iff_eq.mp q2, vs.2, beq_iff_eq.mp q3, beq_iff_eq.mp q4, a.2, b.2, d.2, e.2⟩
theorem joinFn_of {B : Base} {g : Addr → Option Obj} (hg : ∀ a, B.heap.get? a = g a) {fv : Value} {ge : GE} {vn : Str} {c p : Addr} {ps : Array Value} (q : joinFnChk g fv ge vn c = true) (ht : (c, p, ps) ∈ B.tabs) (hk : ge.ok B) : JoinFn B fv ge vn c p ps := by
  obtain ⟨q1, q2⟩ := ands q
  refine ⟨fnOK_of hg rfl q1, ht, fun a o fd e ho hd => ?_, hk⟩
  obtain ⟨fd', q2⟩ := any_inv q2
  obtain ⟨q3, q4⟩ := ands q2
  obtain ⟨b, q4⟩ := any_inv q4
  obtain ⟨a', o', e', ho', hd'⟩ := funAt_of fd'.2
  subst e
  cases e'
  rw [hg a, ho'] at ho; cases ho
  rw [hd'] at hd
  obtain rfl := Data.func.inj hd
  exact ⟨beq_iff_eq.mp q3, fun body hb => by rw [← FuncBody.stmts.inj (b.2.symm.trans hb)]; exact q4⟩
theorem good_of {prog : Program} {w : World} {os : OsState} {h : Heap} {ts : List (Addr × Addr × Array Value)} (q : goodChk h (ts.map (·.2.1)) = true) : GoodB (base prog w os h ts) ∧ GoodM (base prog w os h ts) := by
  unfold goodChk at q
  simp only [Bool.and_eq_true, Bool.not_eq_true', beq_iff_eq] at q
  obtain ⟨⟨⟨⟨⟨⟨⟨⟨⟨⟨⟨q1, q2⟩, q3⟩, q4⟩, q5⟩, q6⟩, q7⟩, q8⟩, q9⟩, q10⟩, q11⟩, q12⟩ := q
  constructor
  · refine ⟨ns_cut q1 q4, ns_cut q2 q5, ⟨_, ns_cut q3 q6, q7⟩, fun f => ?_, ⟨q9, q10⟩, ?_⟩
    · have := List.all_eq_true.mp q8 f (by cases f <;> simp [biAll])
      simp only [Bool.and_eq_true, beq_iff_eq] at this
      exact this
    · obtain ⟨o, ho⟩ := Option.isSome_iff_exists.mp q11
      exact ⟨o, (cutH_get _ _ _).trans ho⟩
  · obtain ⟨v, q⟩ := any_inv q12
    obtain ⟨b, q⟩ := any_inv q
    obtain ⟨o, q⟩ := any_inv q
    obtain ⟨e1, e2, e3, e4⟩ := ands4 q
    obtain ⟨u, _⟩ := Option.isSome_iff_exists.mp e4
    exact ⟨b.1, o.1, v.2.trans (congrArg some b.2), by simpa using e1, (cutH_get _ _ _).trans o.2, beq_iff_eq.mp e2, beq_iff_eq.mp e3, u.2⟩
theorem val_of {h : Heap} {nm : Str} (q : (h.nsMap mainGlobals nm).isSome = true) : h.nsMap mainGlobals nm = some (val h nm) := by
  unfold val
  cases e : h.nsMap mainGlobals nm with
  | none => rw [e] at q; cases q
  | some v => rfl
theorem fnAt_of {prog : Program} {w : World} {os : OsState} {h : Heap} {ts : List (Addr × Addr × Array Value)} {nm : Str} {ps vars : List Str} {ms : List MS} {np : Nat} (hnp : ps.length = np) (q : nmChk h (gt h (ts.map (·.2.1))) nm ps vars ms = true) : FnAt (base prog w os h ts) nm ps np [] vars ms := by
  unfold nmChk at q
  simp only [Bool.and_eq_true] at q
  exact ⟨⟨val h nm, val_of q.1, fnOK_of (fun a => cutH_get _ _ _) hnp q.2⟩⟩
end Mine
end
section
namespace Mine
open PySem PySem.W PySem.Calls PyProof.Rows PySem.Builtin PySem.Builtin.Str PySem.NumText
noncomputable def smallS (l : List Nat) : Bool := decide (l.length ≤ 3) && l.all (· < 1114112)
noncomputable def GE.small : GE → Bool
  | .arg => true
  | .str s => smallS s
  | .ifeq _ a b => a.small && b.small
  | .get _ _ vs => vs.all smallS
noncomputable def SmallAt (k : Nat) (l : List Nat) : Prop := l.length ≤ 3 ∧ (k < 1114112 → ∀ y ∈ l, y < 1114112)
theorem smallS_at {k : Nat} {l : List Nat} (h : smallS l = true) : SmallAt k l := by
  obtain ⟨h1, h2⟩ := ands h
  exact ⟨of_decide_eq_true h1, fun _ y hy => of_decide_eq_true (List.all_eq_true.mp h2 y hy)⟩
theorem small_one (k : Nat) : SmallAt k [k] := ⟨Nat.le_of_ble_eq_true rfl, fun h y hy => by cases List.mem_singleton.mp hy; exact h⟩
theorem assocS_in {k : List Nat} : ∀ {ks vs : List (List Nat)} {v : List Nat}, assocS k ks vs = some v → v ∈ vs
  | [], [], _, h => nomatch h
  | [], _ :: _, _, h => nomatch h
  | _ :: _, [], _, h => nomatch h
  | a :: ks, w :: vs, v, h => by
    replace h : (if a = k then some w else assocS k ks vs) = some v := h
    split at h
    · cases h; exact List.mem_cons_self
    · exact List.mem_cons_of_mem _ (assocS_in h)
theorem small_at (k : Nat) : ∀ {g : GE}, g.small = true → SmallAt k (g.val k)
  | .arg, _ => small_one k
  | .str s, h => smallS_at h
  | .ifeq s a b, h => by
    obtain ⟨h1, h2⟩ := ands h
    show SmallAt k (if [k] = s then a.val k else b.val k)
    split
    · exact small_at k h1
    · exact small_at k h2
  | .get _ ks vs, h => by
    show SmallAt k ((assocS [k] ks vs).getD [k])
    cases e : assocS [k] ks vs with
    | none => exact small_one k
    | some v => exact smallS_at (List.all_eq_true.mp h v (assocS_in e))
noncomputable def serOf (g : GE) (v : List Nat) : List Nat := v.flatMap g.val
theorem ser_len {g : GE} (h : g.small = true) : ∀ v : List Nat, (serOf g v).length ≤ 3 * v.length
  | [] => Nat.zero_le _
  | k :: r => by
    have h1 := (small_at k h).1
    have h2 := ser_len h r
    unfold serOf at h2 ⊢
    rw [List.flatMap_cons, List.length_append, List.length_cons]
    lia
theorem con_sok {B : Base} {d : Nat} {nm : Str} {fv : Value} {v : List Nat} {r : PV} (hm : B.mg nm = some fv) (hk : KeepOk B fv) (h : (∀ c ∈ v, c < 1114112) → Con B d nm [.str v] r) : Con B d nm [.str v] r := by
  by_cases e : ∀ c ∈ v, c < 1114112
  · exact h e
  · refine ⟨fv, hm, hk, fun H z P s A vals R SC hr => ?_⟩
    obtain ⟨x, xs, _, hx, _⟩ := hr
    exact (e hx.1.1).elim
theorem ser_con {B : Base} (G : GoodB B) (GM : GoodM B) {nm vn : Str} {fv : Value} {g : GE} {c p : Addr} {ps : Array Value} (hm : B.mg nm = some fv) (J : JoinFn B fv g vn c p ps) (hs : g.small = true) {v : List Nat} (hv : v.length ≤ 100000) : Con B 3 nm [.str v] (.str (serOf g v)) :=
  con_sok hm J.fn.keep fun hc => (conJoin (d := 0) G GM hm J hv fun k hk => ⟨Nat.le_trans (small_at k hs).1 (by decide), (small_at k hs).2 (hc k hk)⟩).le (by decide)
theorem dct_same {h : Heap} {ps : List Addr} {ks vs : List (List Nat)} {v : Value} (q : dctChk (gt h ps) ks vs v = true) : dictAt (gt h ps) v = dictAt h.get? v := by
  obtain ⟨a, n, es, rfl, _, q1, _⟩ := dct_of q
  rw [dictAt_of q1, dictAt_of (gt_sub q1)]
section
variable {prog : Program} {w : World} {os : OsState} {h : Heap} {c1 p1 c2 p2 : Addr} {ps1 ps2 : Array Value}
noncomputable def clsOf (h : Heap) : Cls := ⟨adr h "WhitespaceToken", adr h "LiteralToken", adr h "IdentToken", adr h "AtKeywordToken", adr h "HashToken", adr h "StringToken", adr h "NumberToken", adr h "PercentageToken", adr h "DimensionToken", adr h "ParseError",
  adr h "URLToken", adr h "FunctionBlock", adr h "ParenthesesBlock", adr h "SquareBracketsBlock", adr h "CurlyBracketsBlock"⟩
theorem tell_of {K : Frag} (q : tell09.all (fun x => tellChk K (adr h x.1) x.2.1 x.2.2) = true) : TellAt (attOf K) (clsOf h) := by
  have tel : ∀ (i : Nat) {nm : Str} {tp : List Nat} {fs : List Str}, tell09[i]? = some (nm, tp, fs) → AttAt (attOf K) (adr h nm) tp fs := fun i nm tp fs e => by
    have z := all_get q i e
    dsimp only at z
    exact attAt_of (K := K) (C := adr h nm) z
  exact ⟨tel 0 rfl, tel 1 rfl, tel 2 rfl, tel 3 rfl, tel 4 rfl, tel 5 rfl, tel 6 rfl, tel 7 rfl, tel 8 rfl, tel 9 rfl, tel 10 rfl, tel 14 rfl, tel 11 rfl, tel 12 rfl, tel 13 rfl⟩
structure ClsCon (B : Base) (T : Tab) (h : Heap) : Prop where
  c : ∀ (i : Nat) {nm : Str} {a v own : List Str} {m : List MS} (np : Nat), cls09[i]? = some (nm, a, v, m, own) → a.length = np → ClsAt B T nm (adr h nm) a np v m own
theorem env_of {B : Base} {T : Tab} (G : GoodB B) (GT : GoodT B T) (N : NodeAt B T) (fn : ∀ (i : Nat) {nm : Str} {a v : List Str} {m : List MS} (np : Nat), fns09[i]? = some (nm, a, v, m) → a.length = np → FnAt B nm a np [] v m)
    (K : ClsCon B T h) (hD : GlobIs B "_DIGITS" digs) (hS : ∀ {v : List Nat}, v.length ≤ 100000 → Con B 3 "serialize_string_value" [.str v] (.str (serOf gS v))) (hU : ∀ {v : List Nat}, v.length ≤ 100000 → Con B 3 "serialize_url" [.str v] (.str (serOf gU v))) :
    ParseEnv B 3 (clsOf h) (serOf gS) (serOf gU) := by
  have low : ∀ s : List Nat, s.length ≤ 100000 → Con B 1 "ascii_lower" [.str s] (.str (s.map lowC)) := fun s hs => lower_ok (d := 0) G GT (fn 0 1 rfl rfl) hs
  have hex : ∀ (css : List Nat) (pos : Nat), Con B 1 "_hex_end" [.str css, .int pos] (.int (pos + hexRun 6 (css.drop pos) : Nat)) := fun css pos => hex_end_ok (d := 0) G GT (fn 2 2 rfl rfl)
  have esc : ∀ (css : List Nat) (pos : Nat), Con B 2 "_consume_escape" [.str css, .int pos] (.tup [.str [(escSpec (css.drop pos)).1], .int (pos + (escSpec (css.drop pos)).2 : Nat)]) := fun css pos => escape_ok G GT (fn 7 2 rfl rfl) hex
  exact {
    ids := fun css pos xx hp => (ident_start_ok (d := 1) G GT (fn 4 2 rfl rfl) (fun css pos k hk => name_start_ok (d := 0) G GT (fn 3 2 rfl rfl) hk) hp).le (by decide)
    idc := fun css pos hL hp => consume_ident_ok G GT (fn 5 2 rfl rfl) esc hL hp
    num := fun css pos => (number_end_ok (d := 0) G GT (fn 1 2 rfl rfl) hD).le (by decide)
    quo := fun css pos k hL hq hq' => quoted_ok G GT (fn 6 2 rfl rfl) esc hL hq hq'
    serC := fun v hv => hS hv
    serl := ser_len (by decide)
    ws := fun l c v => cls_value1 (d := 0) G GT N (K.c 0 4 rfl rfl) l c v
    lit := fun l c v => cls_value1 (d := 0) G GT N (K.c 1 4 rfl rfl) l c v
    ident := fun l c s hs => cls_ident (d := 0) G GT N low (K.c 2 4 rfl rfl) l c hs
    at_ := fun l c s hs => cls_ident (d := 0) G GT N low (K.c 3 4 rfl rfl) l c hs
    hash := fun l c v b => cls_hash (d := 0) G GT N (K.c 4 5 rfl rfl) l c v b
    str := fun l c v b => cls_string (d := 0) G GT N (K.c 5 5 rfl rfl) l c v b
    numT := fun l c v n r => cls_number (d := 0) G GT N (K.c 6 6 rfl rfl) l c v n r
    pct := fun l c v n r => cls_number (d := 0) G GT N (K.c 7 6 rfl rfl) l c v n r
    dim := fun l c v n r u hu => cls_dimension (d := 0) G GT N low (K.c 8 7 rfl rfl) l c v n r hu
    err := fun l c k m => cls_error (d := 0) G GT N (K.c 9 5 rfl rfl) l c k m
    url := fun l c v b => cls_string (d := 0) G GT N (K.c 10 5 rfl rfl) l c v b
    fn := fun l c a s hs => cls_func (d := 0) G GT N low (K.c 14 5 rfl rfl) l c a hs
    par := fun l c v => cls_block (d := 0) G GT N (K.c 11 4 rfl rfl) l c v
    sqr := fun l c v => cls_block (d := 0) G GT N (K.c 12 4 rfl rfl) l c v
    cur := fun l c v => cls_block (d := 0) G GT N (K.c 13 4 rfl rfl) l c v
    low := fun s hs => (low s hs).le (by decide)
    urlc := fun css pos hL hq => url_ok G GT (fn 8 2 rfl rfl) esc hL hq
    serUC := fun v hv => hU hv
    serUl := ser_len (by decide) }
noncomputable def tabs2 (c1 p1 c2 p2 : Addr) (ps1 ps2 : Array Value) : List (Addr × Addr × Array Value) := [(c1, p1, ps1), (c2, p2, ps2)]
theorem law09 (ht1 : tabOf h "serialize_string_value" = some (c1, p1, ps1)) (ht2 : tabOf h "serialize_url" = some (c2, p2, ps2)) (q : chk09 h = true) (hh : (dictAt h.get? (val h "_replacement_string_value")).map (·.hash) = ksS.map (fun k => hashStr w (sOf k))) :
    ∃ T fv, GoodB (base prog w os h (tabs2 c1 p1 c2 p2 ps1 ps2)) ∧ GoodT (base prog w os h (tabs2 c1 p1 c2 p2 ps1 ps2)) T ∧ h.nsMap mainGlobals "law" = some fv ∧ FnOK (base prog w os h (tabs2 c1 p1 c2 p2 ps1 ps2)) fv p_law 1 [] v_law m_law ∧
      ∀ (script : List Int) H, vcSs (base prog w os h (tabs2 c1 p1 c2 p2 ps1 ps2)) T 15 m_law (isRet (.bool true) H) (initLoc ([.lst (script.map PV.int)] ++ []) v_law.length) H := by
  unfold chk09 at q
  rw [ht1] at q
  dsimp only at q
  rw [ht2] at q
  dsimp only at q
  generalize hK : frag h [p1, p2] (lookAt h names09) = K at q
  have X : K.In (base prog w os h (tabs2 c1 p1 c2 p2 ps1 ps2)).heap := by rw [← hK]; exact frag_in h [p1, p2] _
  have hg : ∀ a, (base prog w os h (tabs2 c1 p1 c2 p2 ps1 ps2)).heap.get? a = gt h [p1, p2] a := fun a => cutH_get _ _ _
  have q2 := all_get (p := fun x => x) q 1 rfl
  obtain ⟨q3, q3'⟩ := ands (all_get (p := fun x => x) q 2 rfl)
  have q4 := all_get (p := fun x => x) q 3 rfl
  have q5 := all_get (p := fun x => x) q 4 rfl
  have q6 := all_get (p := fun x => x) q 5 rfl
  obtain ⟨q7, q7'⟩ := ands (all_get (p := fun x => x) q 6 rfl)
  obtain ⟨q8, q8'⟩ := ands (all_get (p := fun x => x) q 7 rfl)
  obtain ⟨q9, q9'⟩ := ands (all_get (p := fun x => x) q 8 rfl)
  obtain ⟨q11, q11'⟩ := ands (all_get (p := fun x => x) q 10 rfl)
  obtain ⟨q12, q12'⟩ := ands (all_get (p := fun x => x) q 12 rfl)
  obtain ⟨q13, q13'⟩ := ands (all_get (p := fun x => x) q 13 rfl)
  obtain ⟨G, GM⟩ := good_of (prog := prog) (w := w) (os := os) (ts := tabs2 c1 p1 c2 p2 ps1 ps2) (all_get (p := fun x => x) q 0 rfl)
  clear q
  have fn : ∀ (i : Nat) {nm : Str} {a v : List Str} {m : List MS} (np : Nat), fns09[i]? = some (nm, a, v, m) → a.length = np → FnAt (base prog w os h (tabs2 c1 p1 c2 p2 ps1 ps2)) nm a np [] v m := fun i nm a v m np e hl => by
    have z := all_get q2 i e
    dsimp only at z
    exact fnAt_of (ts := tabs2 c1 p1 c2 p2 ps1 ps2) hl z
  have hmg : ∀ n, (base prog w os h (tabs2 c1 p1 c2 p2 ps1 ps2)).mg n = h.nsMap mainGlobals n := fun n => rfl
  have htab : (base prog w os h (tabs2 c1 p1 c2 p2 ps1 ps2)).tabs = tabs2 c1 p1 c2 p2 ps1 ps2 := rfl
  have hw : (base prog w os h (tabs2 c1 p1 c2 p2 ps1 ps2)).w = w := rfl
  generalize base prog w os h (tabs2 c1 p1 c2 p2 ps1 ps2) = B at *
  have GT : GoodT B ⟨attOf K, satOf K, statOf K h, fun _ => none⟩ := good_tab X hmg
  have cls : ClsCon B ⟨attOf K, satOf K, statOf K h, fun _ => none⟩ h := ⟨fun i {nm a v own m} np e hl => by
    have z := all_get q4 i e
    dsimp only at z
    obtain ⟨e1, e2⟩ := ands z
    exact clsAt_of hg X ((hmg _).trans (beq_iff_eq.mp e1)) hl e2⟩
  have N : NodeAt B ⟨attOf K, satOf K, statOf K h, fun _ => none⟩ := by
    cases hs : statOf K h "Node" "__init__" with
    | none => rw [hs] at q6; cases q6
    | some fv => rw [hs] at q6; exact ⟨fv, hs, fnOK_of hg rfl q6⟩
  have hS : gS.ok B := by
    refine ⟨_, (hmg _).trans (val_of q9), dct_rep hg q9' ?_⟩
    rw [dct_same q9', hh, hw]
  have J1 : JoinFn B (val h "serialize_string_value") gS "value" c1 p1 ps1 := joinFn_of hg q11' (by rw [htab]; exact List.mem_cons_self) hS
  have J2 : JoinFn B (val h "serialize_url") gU "value" c2 p2 ps2 := joinFn_of hg q12' (by rw [htab]; exact List.mem_cons_of_mem _ List.mem_cons_self) ⟨trivial, trivial, trivial, trivial, trivial, trivial, trivial, trivial, trivial, trivial, trivial⟩
  have E := env_of G GT N fn cls ⟨_, (hmg _).trans (val_of q7), tup_rep hg q7'⟩ (fun hv => ser_con G GM ((hmg _).trans (val_of q11)) J1 (by decide) hv) (fun hv => ser_con G GM ((hmg _).trans (val_of q12)) J2 (by decide) hv)
  have FP : FnAt B "parse_component_value_list" p_parse 1 [.bool false] v_parse m_parse := ⟨_, (hmg _).trans (val_of q3), fnOK1_of hg q3'⟩
  have W : Con B 1 "_law_WORTH" [] (.dct worthK worthV) := worth_ok (d := 0) G GT (fn 9 0 rfl rfl)
  obtain ⟨fv, hfv, FL⟩ := (fn 17 1 rfl rfl : FnAt B "law" p_law 1 [] v_law m_law).it
  refine ⟨_, fv, G, GT, (hmg _).symm.trans hfv, FL, fun script H => law_ok (cl := clsOf h) (ser := serOf gS) (serU := serOf gU) (tell_of q5) (fun sc => ?_) (fun hL => ?_) (fun hL => ?_) (fun hL => ?_) (fun M => ?_) (fun hM hy => ?_) script H⟩
  · exact (drawn_ok (d := 1) G GT (fn 12 1 rfl rfl) (consts_HEXED (d := 0) G GT (fn 10 0 rfl rfl)) (consts_TAILS (d := 0) G GT (fn 11 0 rfl rfl)) ⟨_, (hmg _).trans (val_of q8), rowsChk_rep hg q8'⟩ sc).le (by decide)
  · exact (mended_ok (d := 0) G GT (fn 13 1 rfl rfl) hL).le (by decide)
  · exact (law_folded_ok (d := 2) G GT (fn 16 1 rfl rfl) hL fun hy => law_escape_ok (d := 1) G GT (fn 15 2 rfl rfl) W hy).le (by decide)
  · exact (places_ok (d := 0) G GT (fn 14 1 rfl rfl) hL).le (by decide)
  · exact (parse_ok (d := 3) G GT FP E M).le (by decide)
  · exact told_ok (d := 0) G GT (cell_of hg q13') ((hmg _).trans (val_of q13)) hM 14 B.heap (fun _ _ e => e) _ _ hy
end
end Mine
end
section
namespace Mine
open PySem PySem.W PySem.Calls PyProof.Rows PySem.Builtin PySem.Builtin.Str PySem.NumText
noncomputable def YP09 (w : World) (h : Heap) : Prop := ∃ s : Shared, chk09 s.heap = true ∧ hash09 s = ksS.map (fun k => hashStr w (sOf k)) ∧ ∀ b o, s.heap.get? b = some o → h.get? b = some o
theorem well_int {P : Params} {h : Heap} {v : Value} {i : Int} (hr : Well P h v (.int i)) : ∃ t, v = .int i t := by
  cases hr; exact ⟨_, rfl⟩
theorem well_list {P : Params} {h : Heap} {v : Value} {xs : List WData} (hr : Well P h v (.list xs)) : ∃ a vs, v = .ref a ∧ h.get? a = some { cls := .type "list", data := .seq (List.toArray vs) } ∧ WellAll P h vs xs := by
  cases hr with
  | list e r => exact ⟨_, _, rfl, e, r⟩
theorem well_nil {P : Params} {h : Heap} {vs : List Value} (hr : WellAll P h vs []) : vs = [] := by cases hr; rfl
theorem ints_read {P : Params} {h : Heap} : ∀ {l : List Int} {vs : List Value}, WellAll P h vs (l.map .int) → (∀ B z, RepL B z (l.map .int) vs) ∧ vs.length = l.length := by
  intro l
  induction l with
  | nil =>
    intro vs hr
    obtain rfl := well_nil hr
    exact ⟨fun xx xx => rfl, rfl⟩
  | cons i l ih =>
    intro vs hr
    obtain ⟨v, vs', rfl, h1, h2⟩ := wellAll_cons_inv hr
    obtain ⟨t, rfl⟩ := well_int h1
    exact ⟨fun B z => ⟨_, _, rfl, ⟨_, rfl⟩, (ih h2).1 B z⟩, congrArg Nat.succ (ih h2).2⟩
theorem one_arg {R : WRecords} {args : List WData} (h : WShape.hasAll R args [.list .int] = true) : ∃ d, args = [d] ∧ WShape.has R d (.list .int) = true := by
  cases args with
  | nil => exact Bool.noConfusion h
  | cons x r =>
    obtain ⟨h1, h2⟩ := Bool.and_eq_true_iff.mp (show (WShape.has R x (.list .int) && WShape.hasAll R r []) = true from h)
    cases r with
    | cons y r => exact Bool.noConfusion h2
    | nil => exact ⟨x, rfl, h1⟩
theorem args_read {R : WRecords} {P : Params} {h : Heap} {args : List WData} {vals : List Value} (hpre : WShape.hasAll R args [.list .int] = true) (hlay : WData.layableAll args = true) (hwl : WellAll P h vals args) :
    ∃ (a : Addr) (vs : List Value) (l : List Int), vals = [.ref a] ∧ h.get? a = some { cls := .type "list", data := .seq vs.toArray } ∧ (∀ B z, RepL B z (l.map .int) vs) ∧ vs.length ≤ 1048576 := by
  obtain ⟨d, rfl, h1⟩ := one_arg hpre
  obtain ⟨xs, rfl, h3⟩ := hasW_list h1
  obtain ⟨l, rfl⟩ := items_int h3
  obtain ⟨v, vs', rfl, h1, h2⟩ := wellAll_cons_inv hwl
  obtain rfl := well_nil h2
  obtain ⟨a, lvs, rfl, h3, h4⟩ := well_list h1
  refine ⟨a, lvs, l, rfl, h3, (ints_read h4).1, ?_⟩
  rw [(ints_read h4).2]
  have := length_le_of_layableW (Bool.and_eq_true_iff.mp (show (WData.layable (.list (l.map .int)) && true) = true from hlay)).1
  rwa [List.length_map] at this
theorem isT {h : Heap} {c p : Addr} {ps : List Addr} (q : codeHeadChk (gt h ps) c p = true) : isCodeTable h p := by
  obtain ⟨o, q⟩ := any_inv q
  obtain ⟨vs, q⟩ := any_inv q
  obtain ⟨_, q⟩ := any_inv q
  obtain ⟨_, q⟩ := any_inv q
  obtain ⟨_, q⟩ := any_inv q
  obtain ⟨_, q⟩ := any_inv q
  obtain ⟨_, q2, q3, _⟩ := ands4 q
  exact ⟨c, o.1, vs.1, gt_sub o.2, beq_iff_eq.mp q2, vs.2, beq_iff_eq.mp q3⟩
theorem isT_keeps {h h' : Heap} {p : Addr} (x : isCodeTable h p) (k : ∀ b o, h.get? b = some o → h'.get? b = some o) : isCodeTable h' p := by obtain ⟨c, o, vs, a, r⟩ := x; exact ⟨c, o, vs, k _ _ a, r⟩
abbrev Tbs := List (Addr × Addr × Array Value)
noncomputable def tbAt (ts : Tbs) (x : Addr) : Option (Addr × Addr × Array Value) := ts.find? fun t => decide (t.2.1 = x)
noncomputable def zA (h : Heap) (ts : Tbs) : PH := fun x => if (tbAt ts x).isSome = true then none else h.get? x
noncomputable def hA (ts : Tbs) : AH := fun x => (tbAt ts x).map fun t => .tbl t.1 t.2.1 t.2.2
noncomputable def noP : PH := fun xx => none
theorem noP_inv {b : Addr} {o : Obj} {G : Prop} (e : noP b = some o) : G := by cases e
theorem tb_of {ts : Tbs} {x : Addr} {t : Addr × Addr × Array Value} (h : tbAt ts x = some t) : t ∈ ts ∧ t.2.1 = x := ⟨List.mem_of_find?_eq_some h, of_decide_eq_true (List.find?_some (p := fun t : Addr × Addr × Array Value => decide (t.2.1 = x)) h)⟩
theorem tb_none {ts : Tbs} {b : Addr} (h : ∀ t ∈ ts, ¬ t.2.1 = b) : tbAt ts b = none := List.find?_eq_none.mpr fun t ht e => h t ht (of_decide_eq_true e)
theorem zA_get {h : Heap} {ts : Tbs} {b : Addr} {o : Obj} (hb : tbAt ts b = none) (e : h.get? b = some o) : zA h ts b = some o := by
  unfold zA; rw [hb]; exact e
theorem zA_inv {h : Heap} {ts : Tbs} {b : Addr} {o : Obj} (e : zA h ts b = some o) : h.get? b = some o := by
  unfold zA at e
  split at e
  · cases e
  · exact e
theorem gt_inv {h : Heap} {ts : Tbs} {b : Addr} {o : Obj} (e : gt h (ts.map (·.2.1)) b = some o) : tbAt ts b = none := by
  unfold gt at e
  split at e
  · cases e
  · rename_i n
    exact tb_none fun t ht k => n (List.contains_iff_mem.mpr (List.mem_map.mpr ⟨t, ht, k⟩))
structure TbOk (h : Heap) (B : Base) (t : Addr × Addr × Array Value) : Prop where
  ob : h.get? t.2.1 = some { cls := .none, data := .fields t.2.2 }
  tr : TriplesOk t.2.2.toList
  cc : CodeHead B.heap.get? t.1 t.2.1
  it : isCodeTable h t.2.1
section
variable {B : Base} {h : Heap} {s₁ s' : Shared} {ts : Tbs}
theorem base_sub {ps : List Addr} (hB : ∀ a, B.heap.get? a = gt h ps a) (hsub : ∀ b o, h.get? b = some o → s₁.heap.get? b = some o) (b : Addr) (o : Obj) (e : B.heap.get? b = some o) : s₁.heap.get? b = some o :=
  hsub b o (gt_sub ((hB b).symm.trans e))
theorem start_stc (hB : ∀ a, B.heap.get? a = gt h (ts.map (·.2.1)) a) (hT : B.tabs = ts) (hf : ∀ t ∈ ts, tbAt ts t.2.1 = some t) (hos : s₁.os = B.os) (hgen : s₁.gens = #[]) (hsub : ∀ b o, h.get? b = some o → s₁.heap.get? b = some o)
    (ht : ∀ t ∈ ts, TbOk h B t) : StC B (zA s₁.heap ts) noP (hA ts) { s₁ with toks := s₁.toks + 1 } := by
  refine ⟨fun b o e => zA_get (gt_inv ((hB b).symm.trans e)) (base_sub hB hsub b o e), fun b o e => zA_inv e, fun b o e => noP_inv e, fun b x e => ?_, hos, ?_, Nat.succ_pos _, fun t h' => ?_⟩
  · obtain ⟨t, h1, rfl⟩ := Option.map_eq_some_iff.mp e
    obtain ⟨h2, rfl⟩ := tb_of h1
    obtain ⟨k1, k2, k3, _⟩ := ht t h2
    have k3' : CodeHead (zA s₁.heap ts) t.1 t.2.1 := k3.mono fun b o e => zA_get (gt_inv ((hB b).symm.trans e)) (base_sub hB hsub b o e)
    refine ⟨by unfold zA; rw [h1]; rfl, _, hsub _ _ k1, k3', #[], by rw [Array.append_empty], by rw [Array.append_empty]; exact k2⟩
  · show AllBare s₁.gens
    rw [hgen]; intro g hg; simp at hg
  · rw [hT] at h'
    show (tbAt ts t.2.1).map _ = _
    rw [hf t h']; rfl
theorem end_good {cm : ClaimW} {clf : Str → Option Addr} {mean : ExcName → Option Value} {args : List WData} {z' : PH} (S : StC B z' noP (hA ts) s') (le : zle (zA s₁.heap ts) z') (hos : s₁.os = B.os)
    (hsub : ∀ b o, h.get? b = some o → s₁.heap.get? b = some o) (ht : ∀ t ∈ ts, TbOk h B t) (hr : ∀ cls, cm.raises args cls = false) (hpost : cm.post args (.bool true) args = true) :
    GoodWG cm clf mean args s₁ (.ok (.ret (.bool true))) s' := by
  have hkeep : ∀ b o, tbAt ts b = none → s₁.heap.get? b = some o → s'.heap.get? b = some o := fun b o hb e => S.zin _ _ (le _ _ (zA_get hb e))
  have hgrow : ∀ b t, tbAt ts b = some t → ∃ more, s₁.heap.get? b = some { cls := .none, data := .fields t.2.2 } ∧ isCodeTable s₁.heap b ∧ s'.heap.get? b = some { cls := .none, data := .fields (t.2.2 ++ more) } := fun b t h1 => by
    obtain ⟨h2, rfl⟩ := tb_of h1
    obtain ⟨k1, k2, k3, k4⟩ := ht t h2
    obtain ⟨_, o', ho', _, more, ho'', _⟩ := S.hin t.2.1 (.tbl t.1 t.2.1 t.2.2) (by show (tbAt ts t.2.1).map _ = _; rw [h1]; rfl)
    exact ⟨more, hsub _ _ k1, isT_keeps k4 hsub, ho'.trans (by rw [ho''])⟩
  refine ⟨.inl ⟨_, .bool true, [], rfl, hr, .bool true, hpost, fun xx => ⟨List.nodup_nil, by simp⟩⟩, ⟨fun b o e => ?_, fun b o e => ?_⟩, S.os.trans hos.symm, S.gens⟩
  · cases hb : tbAt ts b with
    | none => exact .inl (hkeep b o hb e)
    | some t =>
      obtain ⟨more, g1, g2, g3⟩ := hgrow b t hb
      rw [g1] at e; cases e
      exact .inr (.inl ⟨g2, rfl, t.2.2, more, rfl, g3⟩)
  · cases hb : tbAt ts b with
    | none => exact ⟨o, hkeep b o hb e⟩
    | some t =>
      obtain ⟨more, _, _, g3⟩ := hgrow b t hb
      exact ⟨_, g3⟩
end
theorem walk_core {B : Base} {T : Tab} {h : Heap} {cm : ClaimW} {clf : Str → Option Addr} {mean : ExcName → Option Value} {s₁ : Shared} {mg : Str → Option Value} {a : Addr} {ts : Tbs} {args : List WData} {vals : List Value} {fv : Value}
    (hB : ∀ a, B.heap.get? a = gt h (ts.map (·.2.1)) a) (hT : B.tabs = ts) (hf : ∀ t ∈ ts, tbAt ts t.2.1 = some t) (hos : s₁.os = B.os) (hbm : B.mg = h.nsMap mainGlobals) (G : GoodB B) (GT : GoodT B T) (hfv : h.nsMap mainGlobals "law" = some fv) (F : FnOK B fv p_law 1 [] v_law m_law)
    (hvc : ∀ (script : List Int) H, vcSs B T 15 m_law (isRet (.bool true) H) (initLoc ([.lst (script.map PV.int)] ++ []) v_law.length) H)
    (ht : ∀ t ∈ ts, TbOk h B t) (hsub : ∀ b o, h.get? b = some o → s₁.heap.get? b = some o) (hns : s₁.heap.Ns mainGlobals mg) (hmg : mg "law" = some (.ref a)) (hgen : s₁.gens = #[])
    (hpre : WShape.hasAll cm.records args [.list .int] = true) (hlay : WData.layableAll args = true) {P : Params} (hwl : WellAll P s₁.heap vals args)
    (hr : ∀ cls, cm.raises args cls = false) (hpost : cm.post args (.bool true) args = true) :
    wpAny (model B.prog B.w) callerA (PySem.call (.ref a) vals) (fun v s' => GoodWG cm clf mean args s₁ (.ok (.ret v)) s') (fun e s' => GoodWG cm clf mean args s₁ (.error e) s') s₁ := by
  obtain ⟨la, lvs, l, rfl, hla, hl1, hsz⟩ := args_read hpre hlay hwl
  have hlp : tbAt ts la = none := tb_none fun t h1 e => by
    have := hsub _ _ (ht t h1).ob
    rw [e, hla] at this; cases this
  have hfa : fv = .ref a := by
    have h1 := (G.mg.keeps (base_sub hB hsub)).agree hns "law"
    rw [hmg, hbm, hfv] at h1
    exact Option.some.inj h1
  subst hfa
  refine wpAny_call (codeAny_mono (callDefG (d := 15) (k := 1) (Q := keq (.bool true) (hA ts)) G GT F rfl (hvc l _) ⟨rfl, by decide, by decide⟩ (Nat.le_refl _) (start_stc hB hT hf hos hgen hsub ht) ?_) ?_)
  · exact ⟨_, _, rfl, ⟨la, _, lvs.toArray, rfl, zA_get hlp hla, hl1 _ _, Nat.le_trans (Nat.le_of_eq List.size_toArray) (Nat.le_trans hsz (by decide))⟩, rfl⟩
  · intro r s' hrs
    rcases r with e | (v | _ | _ | _) <;> first | exact hrs.elim | skip
    obtain ⟨z', pv, H', le, S', rv, rfl, rfl⟩ := hrs
    cases rv
    exact end_good S' le hos hsub ht hr hpost
theorem walk09 {prog : Program} {cm : ClaimW} {clf : Str → Option Addr} {mean : ExcName → Option Value} {w : World} {s₁ : Shared} {mg : Str → Option Value} {a : Addr} {args : List WData} {vals : List Value} {as : List Addr}
    (hns : s₁.heap.Ns mainGlobals mg) (hmg : mg "law" = some (.ref a)) (Y : YP09 w s₁.heap) (hgen : s₁.gens = #[])
    (hpre : WShape.hasAll cm.records args [.list .int] = true) (hlay : WData.layableAll args = true) (hwl : WellAll w.params s₁.heap vals args) (_hrd : ReadsAllW cm.records clf s₁.heap vals args as)
    (hr : ∀ cls, cm.raises args cls = false) (hpost : cm.post args (.bool true) args = true) :
    wpAny (model prog w) callerA (PySem.call (.ref a) vals) (fun v s' => GoodWG cm clf mean args s₁ (.ok (.ret v)) s') (fun e s' => GoodWG cm clf mean args s₁ (.error e) s') s₁ := by
  obtain ⟨s₂, hchk, hhash, hsub⟩ := Y
  have hq := hchk
  unfold chk09 at hq
  cases ht1 : tabOf s₂.heap "serialize_string_value" with
  | none => rw [ht1] at hq; cases hq
  | some t1 =>
    rw [ht1] at hq
    cases ht2 : tabOf s₂.heap "serialize_url" with
    | none => rw [ht2] at hq; cases hq
    | some t2 =>
      rw [ht2] at hq
      obtain ⟨c1, p1, ps1⟩ := t1
      obtain ⟨c2, p2, ps2⟩ := t2
      have k1 : codeHeadChk (gt s₂.heap [p1, p2]) c1 p1 = true := all_get (p := fun x => x) hq 9 rfl
      have k2 : codeHeadChk (gt s₂.heap [p1, p2]) c2 p2 = true := all_get (p := fun x => x) hq 11 rfl
      have hne : p1 ≠ p2 := beq_eq_false_iff_ne.mp (notb (all_get (p := fun x => x) hq 14 rfl))
      clear hq
      obtain ⟨T, fv, G, GT, hfv, F, hvc⟩ := law09 (prog := prog) (w := w) (os := s₁.os) ht1 ht2 hchk hhash
      refine walk_core (B := base prog w s₁.os s₂.heap (tabs2 c1 p1 c2 p2 ps1 ps2)) (ts := tabs2 c1 p1 c2 p2 ps1 ps2) (fun b => cutH_get _ _ _) rfl (fun t h => ?_) rfl rfl G GT hfv F hvc (fun t h => ?_) hsub hns hmg hgen hpre hlay hwl hr hpost
      · rcases List.mem_cons.mp h with rfl | h
        · show List.find? _ [_, _] = _
          rw [List.find?_cons_of_pos (by simp)]
        · cases List.mem_singleton.mp h
          show List.find? _ [_, _] = _
          rw [List.find?_cons_of_neg (by simpa using hne), List.find?_cons_of_pos (by simp)]
      · rcases List.mem_cons.mp h with rfl | h
        · exact ⟨(tabOf_obj ht1).1, (tabOf_obj ht1).2, codeHead_of (fun a => cutH_get _ _ _) k1, isT k1⟩
        · cases List.mem_singleton.mp h
          exact ⟨(tabOf_obj ht2).1, (tabOf_obj ht2).2, codeHead_of (fun a => cutH_get _ _ _) k2, isT k2⟩
end Mine
end

section
set_option maxRecDepth 100000
set_option maxHeartbeats 0
namespace Mine
open PySem PySem.W PySem.Calls PyProof.Rows
theorem hold09 (said : PySem.Challenge.rw_qv0004_09.row.wellSaid = true) : PySem.Challenge.rw_qv0004_09.row.Holds := by
  refine holds_open (q := lawView PySem.Challenge.pw_qv0004_09) (loose := lawLoose PySem.Challenge.pw_qv0004_09) (Xt := fun s => xlAt (lawView PySem.Challenge.pw_qv0004_09) [] s && recOk [] s) (XP := XL (lawView PySem.Challenge.pw_qv0004_09) [])
    (Yf := obs09) (Ya := fun w => (true, ksS.map fun k => hashStr w (sOf k))) (YP := YP09) (N := 8000) (left_ok (by rfl) (fun _ => rfl) run_b) (fun w s e => ⟨s, congrArg Prod.fst e, congrArg Prod.snd e, fun _ _ x => x⟩) (fun w h h' x k => ?_)
    (fun s e => xl_of s (Bool.and_eq_true_iff.mp e).1) XL.keeps (by rfl) (by rfl) (by rfl) (fun s e => recFacts_of (Bool.and_eq_true_iff.mp e).2) (by rfl) said (by decide +kernel) ⟨rfl, rfl, rfl, rfl, rfl, by decide +kernel⟩ ?hw ?hc
  · obtain ⟨s, a, b, c⟩ := x
    exact ⟨s, a, b, fun _ _ e => k _ _ (c _ _ e)⟩
  case hw => exact ⟨[.list []], by decide +kernel, by decide +kernel⟩
  case hc =>
    intro w s₀ s₁ mg mb G Y fa o pm cd doc dV kV ho hd hcd hD hmg hg args vals as hpre hlay hrd hwl hlo
    refine walk09 G.T.g hmg Y hg (Bool.and_eq_true_iff.mp hpre).1 hlay hwl hrd (fun _ => rfl) ?_
    kernel_rfl
end Mine
end
theorem PySem.Challenge.cw_qv0004_09_holds : PySem.Challenge.rw_qv0004_09.Holds := by
  exact PySem.W.holds_law Mine.ws_law fun said => Mine.hold09 said
