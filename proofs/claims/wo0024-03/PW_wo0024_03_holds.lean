import PyProof.Rows.All
import Wide.All
import OpenK.AllK
import Wide.FinOn
import PySem.Challenge.RW_wo0024_03
set_option Elab.async false
section P0
set_option maxRecDepth 100000
set_option Elab.async false
set_option autoImplicit false
set_option linter.unusedSimpArgs false
namespace Mine
open PySem PyProof.Rows
/-- abstract values -/
inductive AV where
  | none
  | bool (b : Bool)
  | int (i : Int)
  | str (s : Str)
  | bytes (b : Array UInt8)
  | ref (k : Nat)
  | lit (v : Value)
  deriving Inhabited
/-- abstract objects -/
inductive AO where
  | list (vs : List AV)
  | tup (vs : List AV)
  | app (k : Nat)
  deriving Inhabited
/-- the names of a frame; ro: how many objects are not its own -/
structure Vs where
  l : List (String × AV)
  ro : Nat
noncomputable def Vs.lookup (v : Vs) (x : String) : Option AV := v.l.lookup x
structure St where
  vars : Vs
  objs : List AO
noncomputable def put : List (String × AV) → String → AV → List (String × AV)
  | [], x, v => [(x, v)]
  | (y, u) :: r, x, v => if x = y then (y, v) :: r else (y, u) :: put r x v
noncomputable def St.set (σ : St) (x : String) (v : AV) : St := ⟨⟨put σ.vars.l x v, σ.vars.ro⟩, σ.objs⟩
theorem put_lookup (x y : String) (v : AV) : ∀ l, (put l x v).lookup y = if y = x then some v else l.lookup y
  | [] => by
    unfold put
    by_cases h : y = x
    · subst h; simp [List.lookup]
    · simp [List.lookup, h, beq_eq_false_iff_ne.mpr h]
  | (z, u) :: r => by
    unfold put
    by_cases h : x = z
    · subst h
      by_cases q : y = x
      · subst q; simp [List.lookup]
      · simp [List.lookup, q, beq_eq_false_iff_ne.mpr q]
    · rw [if_neg h]
      by_cases q : y = z
      · subst q
        rw [List.lookup_cons_self, List.lookup_cons_self, if_neg (fun e => h e.symm)]
      · have e : (y == z) = false := beq_eq_false_iff_ne.mpr q
        rw [List.lookup_cons, e, List.lookup_cons, e]
        exact put_lookup x y v r
theorem ofString_inj {a b : String} (h : Str.ofString a = Str.ofString b) : a = b := by
  rw [Str.ofString_eq_toList, Str.ofString_eq_toList] at h
  have h1 := congrArg (fun z => z.cps.toList) h
  have h2 : a.toList = b.toList := by
    have inj : ∀ (l l' : List Char), l.map Char.toNat = l'.map Char.toNat → l = l' := by
      intro l
      induction l with
      | nil => intro l' e; cases l' with
        | nil => rfl
        | cons => cases e
      | cons c t ih =>
        intro l' e
        cases l' with
        | nil => cases e
        | cons c' t' =>
          simp only [List.map_cons, List.cons.injEq] at e
          rw [ih t' e.2]
          congr 1
          exact Char.toNat_inj.mp e.1
    exact inj _ _ (by simpa using h1)
  exact String.toList_inj.mp h2
/-- a value stands for an abstract one -/
inductive RV (ad : List Addr) : AV → Value → Prop
  | none : RV ad .none .none
  | bool (b : Bool) : RV ad (.bool b) (.bool b)
  | int (i : Int) (t : Tok) : RV ad (.int i) (.int i t)
  | str (s : Str) (t : Tok) : RV ad (.str s) (.str s t)
  | bytes (b : Array UInt8) (t : Tok) : RV ad (.bytes b) (.bytes b t)
  | ref (k : Nat) (a : Addr) (h : ad[k]? = some a) : RV ad (.ref k) (.ref a)
  | lit (v : Value) : RV ad (.lit v) v
theorem pre_get {ad ad' : List Addr} (h : ad <+: ad') {k : Nat} {a : Addr} (e : ad[k]? = some a) : ad'[k]? = some a := by
  obtain ⟨r, rfl⟩ := h
  rw [List.getElem?_append_left (by exact (List.getElem?_eq_some_iff.mp e).1)]
  exact e
theorem RV.mono {ad ad' : List Addr} (h : ad <+: ad') {a : AV} {v : Value} (x : RV ad a v) : RV ad' a v := by
  cases x with
  | none => exact .none
  | bool b => exact .bool b
  | int i t => exact .int i t
  | str s t => exact .str s t
  | bytes b t => exact .bytes b t
  | ref k a e => exact .ref k a (pre_get h e)
  | lit v => exact .lit v
/-- values in order -/
inductive RVs (ad : List Addr) : List AV → List Value → Prop
  | nil : RVs ad [] []
  | cons {a : AV} {v : Value} {l : List AV} {r : List Value} (h : RV ad a v) (t : RVs ad l r) : RVs ad (a :: l) (v :: r)
theorem RVs.mono {ad ad' : List Addr} (h : ad <+: ad') {a : List AV} {v : List Value} (x : RVs ad a v) : RVs ad' a v := by
  induction x with
  | nil => exact .nil
  | cons hx _ ih => exact .cons (hx.mono h) ih
theorem RVs.length {ad : List Addr} {a : List AV} {v : List Value} (x : RVs ad a v) : a.length = v.length := by
  induction x with
  | nil => rfl
  | cons _ _ ih => simp [ih]
theorem RVs.append {ad : List Addr} {a b : List AV} {v u : List Value} (x : RVs ad a v) (y : RVs ad b u) : RVs ad (a ++ b) (v ++ u) := by
  induction x with
  | nil => exact y
  | cons h _ ih => exact .cons h ih
theorem RVs.get {ad : List Addr} {a : List AV} {v : List Value} (x : RVs ad a v) {i : Nat} {y : AV} (e : a[i]? = some y) : ∃ u, v[i]? = some u ∧ RV ad y u := by
  induction x generalizing i with
  | nil => simp at e
  | cons h _ ih =>
    cases i with
    | zero => simp at e; subst e; exact ⟨_, by simp, h⟩
    | succ i => simpa using ih (by simpa using e)
theorem RVs.set {ad : List Addr} {a : List AV} {v : List Value} (x : RVs ad a v) {i : Nat} {y : AV} {u : Value} (h : RV ad y u) : RVs ad (a.set i y) (v.set i u) := by
  induction x generalizing i with
  | nil => exact .nil
  | cons h' t ih =>
    cases i with
    | zero => exact .cons h t
    | succ i => exact .cons h' ih
theorem RVs.take {ad : List Addr} {a : List AV} {v : List Value} (x : RVs ad a v) (n : Nat) : RVs ad (a.take n) (v.take n) := by
  induction x generalizing n with
  | nil => simp; exact .nil
  | cons h t ih => cases n with
    | zero => simp; exact .nil
    | succ n => simp; exact .cons h (ih n)
theorem RVs.drop {ad : List Addr} {a : List AV} {v : List Value} (x : RVs ad a v) (n : Nat) : RVs ad (a.drop n) (v.drop n) := by
  induction x generalizing n with
  | nil => simp; exact .nil
  | cons h t ih => cases n with
    | zero => simp; exact .cons h t
    | succ n => simp; exact ih n
theorem RVs.eraseIdx {ad : List Addr} {a : List AV} {v : List Value} (x : RVs ad a v) (i : Nat) : RVs ad (a.eraseIdx i) (v.eraseIdx i) := by
  induction x generalizing i with
  | nil => simp; exact .nil
  | cons h t ih => cases i with
    | zero => simp; exact t
    | succ i => simp; exact .cons h (ih i)
noncomputable def listObj (vs : List Value) (n : Nat) : Obj := { cls := .type "list", data := .seq vs.toArray n }
noncomputable def tupObj (vs : List Value) : Obj := { cls := .type "tuple", data := .seq vs.toArray }
/-- the object of `l.append`, kept as a value -/
noncomputable def appObj (l : Addr) : Obj := { cls := .type "builtin_function_or_method", data := .fields #[.builtin "list.append", .ref l] }
/-- an object of the heap stands for an abstract one -/
noncomputable def RO (ad : List Addr) (h : Heap) (a : Addr) : AO → Prop
  | .list vs => ∃ us n, h.get? a = some (listObj us n) ∧ RVs ad vs us
  | .tup vs => ∃ us, h.get? a = some (tupObj us) ∧ RVs ad vs us
  | .app k => ∃ l, ad[k]? = some l ∧ h.get? a = some (appObj l)
theorem RO.mono {ad ad' : List Addr} (p : ad <+: ad') {h h' : Heap} {a : Addr} {o : AO} (x : RO ad h a o) (e : ∀ ob, h.get? a = some ob → h'.get? a = some ob) : RO ad' h' a o := by
  cases o with
  | list vs => obtain ⟨us, n, g, r⟩ := x; exact ⟨us, n, e _ g, r.mono p⟩
  | tup vs => obtain ⟨us, g, r⟩ := x; exact ⟨us, e _ g, r.mono p⟩
  | app k => obtain ⟨l, q, g⟩ := x; exact ⟨l, pre_get p q, e _ g⟩
theorem RO.alive {ad : List Addr} {h : Heap} {a : Addr} {o : AO} (x : RO ad h a o) : ∃ ob, h.get? a = some ob := by
  cases o with
  | list vs => obtain ⟨us, n, g, r⟩ := x; exact ⟨_, g⟩
  | tup vs => obtain ⟨us, g, r⟩ := x; exact ⟨_, g⟩
  | app k => obtain ⟨l, q, g⟩ := x; exact ⟨_, g⟩
/-- the frame's fixed part: its env, the objects that must stay, the number of abstract objects that are not its own -/
structure Cx where
  env : Env
  B : Addr → Option Obj
  ro : Nat
  /-- names whose cells are another frame's -/
  caps : Str → Bool
noncomputable def Held (c : Cx) (m : Str → Option Value) (h : Heap) (x : Str) (v : Value) : Prop :=
  match c.env.kindOf x with
  | some .local => m x = some v
  | some .cell | some .free => ∃ a, c.env.cells.lookup x = some a ∧ h.IsCell a (some v)
  | _ => False
structure Rel (c : Cx) (m : Str → Option Value) (ad : List Addr) (σ : St) (h : Heap) : Prop where
  keep : ∀ b o, c.B b = some o → h.get? b = some o
  ns : h.Ns c.env.locals m
  bL : c.B c.env.locals = none
  cellOwn : ∀ x a, c.env.kindOf x = some .cell → c.caps x = false → c.env.cells.lookup x = some a → c.B a = none ∧ a ≠ c.env.locals ∧ a ∉ ad ∧ ∃ v, h.IsCell a v
  cellInj : ∀ x y a, c.env.kindOf x = some .cell → c.caps x = false → c.env.kindOf y = some .cell → c.caps y = false → c.env.cells.lookup x = some a → c.env.cells.lookup y = some a → x = y
  cellAll : ∀ x, c.env.kindOf x = some .cell → c.caps x = false → ∃ a, c.env.cells.lookup x = some a
  cellFree : ∀ x a, (c.env.kindOf x = some .free ∨ (c.env.kindOf x = some .cell ∧ c.caps x = true)) → c.env.cells.lookup x = some a → ∃ o, c.B a = some o
  vars : ∀ x av, σ.vars.lookup x = some av → ∃ v, RV ad av v ∧ Held c m h (Str.ofString x) v
  len : ad.length = σ.objs.length
  nodup : ad.Nodup
  lad : c.env.locals ∉ ad
  objs : ∀ (k : Nat) (o : AO), σ.objs[k]? = some o → ∃ a, ad[k]? = some a ∧ RO ad h a o
  fresh : ∀ (k : Nat) (a : Addr), c.ro ≤ k → ad[k]? = some a → c.B a = none
  roLe : c.ro ≤ ad.length
  roEq : c.ro ≤ σ.vars.ro
theorem Rel.alive {c : Cx} {m : Str → Option Value} {ad : List Addr} {σ : St} {h : Heap} (R : Rel c m ad σ h) {a : Addr} (ha : a ∈ ad) : ∃ o, h.get? a = some o := by
  obtain ⟨k, hk⟩ := List.getElem?_of_mem ha
  have hk' : k < σ.objs.length := by rw [← R.len]; exact (List.getElem?_eq_some_iff.mp hk).1
  obtain ⟨a', e, r⟩ := R.objs k _ (List.getElem?_eq_getElem hk')
  rw [hk] at e; cases e
  exact r.alive
theorem Held.keeps {c : Cx} {m : Str → Option Value} {h h' : Heap} {x : Str} {v : Value} (H : Held c m h x v) (hk : ∀ a o, c.env.cells.lookup x = some a → h.get? a = some o → h'.get? a = some o) : Held c m h' x v := by
  unfold Held at H ⊢
  split at H
  · exact H
  · obtain ⟨a, e, o, ho, hd⟩ := H; exact ⟨a, e, o, hk a o e ho, hd⟩
  · obtain ⟨a, e, o, ho, hd⟩ := H; exact ⟨a, e, o, hk a o e ho, hd⟩
  · exact H
/-- all that stood stands; the frame's dict may be another one that says the same -/
structure KL (L : Addr) (m : Str → Option Value) (h h' : Heap) : Prop where
  k : ∀ b o, b ≠ L → h.get? b = some o → h'.get? b = some o
  n : h'.Ns L m
theorem KL.of {L : Addr} {m : Str → Option Value} {h h' : Heap} (n : h.Ns L m) (hk : ∀ b o, h.get? b = some o → h'.get? b = some o) : KL L m h h' := ⟨fun b o _ e => hk b o e, n.keeps hk⟩
theorem Rel.cellCase {c : Cx} {m : Str → Option Value} {ad : List Addr} {σ : St} {h : Heap} (R : Rel c m ad σ h) {x : Str} {a : Addr} (k : c.env.kindOf x = some .cell ∨ c.env.kindOf x = some .free) (e : c.env.cells.lookup x = some a) :
    (c.env.kindOf x = some .cell ∧ c.caps x = false ∧ c.B a = none ∧ a ≠ c.env.locals ∧ a ∉ ad) ∨ ∃ o, c.B a = some o := by
  rcases k with k | k
  · cases hc : c.caps x with
    | false => obtain ⟨p, q, r, _⟩ := R.cellOwn x a k hc e; exact .inl ⟨k, rfl, p, q, r⟩
    | true => exact .inr (R.cellFree x a (.inr ⟨k, hc⟩) e)
  · exact .inr (R.cellFree x a (.inl k) e)
theorem Rel.cellNe {c : Cx} {m : Str → Option Value} {ad : List Addr} {σ : St} {h : Heap} (R : Rel c m ad σ h) {x : Str} {a : Addr} (k : c.env.kindOf x = some .cell ∨ c.env.kindOf x = some .free) (e : c.env.cells.lookup x = some a) : a ≠ c.env.locals := by
  rcases R.cellCase k e with ⟨_, _, _, q, _⟩ | ⟨o, ho⟩
  · exact q
  · intro q; rw [q, R.bL] at ho; cases ho
theorem Held.kl {c : Cx} {m : Str → Option Value} {ad : List Addr} {σ : St} {h h' : Heap} {x : Str} {v : Value} (R : Rel c m ad σ h) (H : Held c m h x v) (hk : KL c.env.locals m h h') : Held c m h' x v := by
  unfold Held at H ⊢
  split at H
  · exact H
  · rename_i q; obtain ⟨a, e, o, ho, hd⟩ := H; exact ⟨a, e, o, hk.k a o (R.cellNe (.inl q) e) ho, hd⟩
  · rename_i q; obtain ⟨a, e, o, ho, hd⟩ := H; exact ⟨a, e, o, hk.k a o (R.cellNe (.inr q) e) ho, hd⟩
  · exact H
theorem Rel.kl {c : Cx} {m : Str → Option Value} {ad : List Addr} {σ : St} {h h' : Heap} (R : Rel c m ad σ h) (hk : KL c.env.locals m h h') : Rel c m ad σ h' where
  keep := fun b o e => hk.k _ _ (fun q => by rw [q, R.bL] at e; cases e) (R.keep b o e)
  ns := hk.n
  bL := R.bL
  cellOwn := fun x a k kc e => let ⟨p, q, r, v, o, ho, hd⟩ := R.cellOwn x a k kc e; ⟨p, q, r, v, o, hk.k a o q ho, hd⟩
  cellInj := R.cellInj
  cellAll := R.cellAll
  cellFree := R.cellFree
  vars := fun x av e => let ⟨v, r, H⟩ := R.vars x av e; ⟨v, r, H.kl R hk⟩
  len := R.len
  nodup := R.nodup
  lad := R.lad
  objs := fun k o e => let ⟨a, q, r⟩ := R.objs k o e; ⟨a, q, r.mono (List.prefix_refl _) fun ob => hk.k a ob fun z => R.lad (z ▸ List.mem_of_getElem? q)⟩
  fresh := R.fresh
  roLe := R.roLe
  roEq := R.roEq
theorem Rel.keeps {c : Cx} {m : Str → Option Value} {ad : List Addr} {σ : St} {h h' : Heap} (R : Rel c m ad σ h) (hk : ∀ b o, h.get? b = some o → h'.get? b = some o) : Rel c m ad σ h' := R.kl (.of R.ns hk)
/-- another preserved part -/
theorem Rel.base {c : Cx} {m : Str → Option Value} {ad : List Addr} {σ : St} {h : Heap} (R : Rel c m ad σ h) (B' : Addr → Option Obj) (hk : ∀ b o, B' b = some o → h.get? b = some o)
    (hL : B' c.env.locals = none) (hc : ∀ x a, c.env.kindOf x = some .cell → c.caps x = false → c.env.cells.lookup x = some a → B' a = none) (hf : ∀ x a, (c.env.kindOf x = some .free ∨ (c.env.kindOf x = some .cell ∧ c.caps x = true)) → c.env.cells.lookup x = some a → ∃ o, B' a = some o)
    (ho : ∀ (k : Nat) (a : Addr), c.ro ≤ k → ad[k]? = some a → B' a = none) : Rel { c with B := B' } m ad σ h where
  keep := hk
  ns := R.ns
  bL := hL
  cellOwn := fun x a k kc e => let ⟨_, q, r, v, hv⟩ := R.cellOwn x a k kc e; ⟨hc x a k kc e, q, r, v, hv⟩
  cellInj := R.cellInj
  cellAll := R.cellAll
  cellFree := hf
  vars := R.vars
  len := R.len
  nodup := R.nodup
  lad := R.lad
  objs := R.objs
  fresh := ho
  roLe := R.roLe
  roEq := R.roEq
/-- a new object of the frame's own -/
theorem Rel.alloc {c : Cx} {m : Str → Option Value} {ad : List Addr} {σ : St} {h h' : Heap} {a : Addr} {o : AO} (R : Rel c m ad σ h) (hk : KL c.env.locals m h h')
    (hn : h.get? a = none) (ho : RO (ad ++ [a]) h' a o) : Rel c m (ad ++ [a]) ⟨σ.vars, σ.objs ++ [o]⟩ h' := by
  have hp : ad <+: ad ++ [a] := List.prefix_append ..
  have hna : a ∉ ad := fun hm => by obtain ⟨o', e⟩ := R.alive hm; rw [hn] at e; cases e
  have R' := R.kl hk
  refine ⟨R'.keep, R'.ns, R.bL, fun x b k kc e => ?_, R.cellInj, R.cellAll, R.cellFree, fun x av e => ?_, by simp [R.len], ?_, ?_, fun k o' e => ?_, fun k b hb e => ?_, by rw [List.length_append]; exact Nat.le_trans R.roLe (Nat.le_add_right ..), R.roEq⟩
  · obtain ⟨p, q, r, v, hv⟩ := R.cellOwn x b k kc e
    obtain ⟨_, _, _, hv'⟩ := R'.cellOwn x b k kc e
    refine ⟨p, q, fun hm => ?_, hv'⟩
    rcases List.mem_append.mp hm with hm | hm
    · exact r hm
    · rw [List.mem_singleton.mp hm] at hv
      obtain ⟨o', ho', _⟩ := hv
      rw [hn] at ho'; cases ho'
  · obtain ⟨v, r, H⟩ := R'.vars x av e
    exact ⟨v, r.mono hp, H⟩
  · refine List.nodup_append.mpr ⟨R.nodup, by simp, fun x hx y hy => ?_⟩
    rw [List.mem_singleton.mp hy]; exact fun e => hna (e ▸ hx)
  · intro hm
    rcases List.mem_append.mp hm with hm | hm
    · exact R.lad hm
    · obtain ⟨_, _, _, e, _⟩ := R.ns
      rw [List.mem_singleton.mp hm, hn] at e; cases e
  · by_cases hl : k < σ.objs.length
    · rw [List.getElem?_append_left hl] at e
      obtain ⟨b, q, r⟩ := R'.objs k o' e
      exact ⟨b, pre_get hp q, r.mono hp fun _ e => e⟩
    · rw [List.getElem?_append_right (by lia  )] at e
      have hk' : k - σ.objs.length = 0 := by
        cases hq : k - σ.objs.length with
        | zero => rfl
        | succ j => rw [hq] at e; simp at e
      rw [hk'] at e
      simp at e; subst e
      refine ⟨a, ?_, ho⟩
      rw [List.getElem?_append_right (by rw [R.len]; lia  ), R.len, hk']; rfl
  · by_cases hl : k < ad.length
    · rw [List.getElem?_append_left hl] at e
      exact R.fresh k b hb e
    · rw [List.getElem?_append_right (by lia  )] at e
      have : b = a := by
        cases hq : k - ad.length with
        | zero => rw [hq] at e; simp at e; exact e.symm
        | succ j => rw [hq] at e; simp at e
      subst this
      cases hB : c.B b with
      | none => rfl
      | some o' => have := R.keep b o' hB; rw [hn] at this; cases this
/-- one of the frame's own objects changed -/
theorem Rel.change {c : Cx} {m : Str → Option Value} {ad : List Addr} {σ : St} {h h' : Heap} {k : Nat} {a : Addr} {o : AO} (R : Rel c m ad σ h) (ha : ad[k]? = some a) (hro : c.ro ≤ k)
    (hk : ∀ b o, b ≠ a → h.get? b = some o → h'.get? b = some o) (ho : RO ad h' a o) : Rel c m ad ⟨σ.vars, σ.objs.set k o⟩ h' := by
  have hm : a ∈ ad := List.mem_of_getElem? ha
  have hB := R.fresh k a hro ha
  refine ⟨fun b o e => hk b o (fun q => ?_) (R.keep b o e), ?_, R.bL, fun x b q qc e => ?_, R.cellInj, R.cellAll, R.cellFree, fun x av e => ?_, by simp [R.len], R.nodup, R.lad, fun j o' e => ?_, R.fresh, R.roLe, R.roEq⟩
  · subst q; rw [hB] at e; cases e
  · obtain ⟨oL, es, ep, e, r⟩ := R.ns
    exact ⟨oL, es, ep, hk _ _ (fun q => R.lad (q ▸ hm)) e, r⟩
  · obtain ⟨p, q', r, v, o', ho', hd⟩ := R.cellOwn x b q qc e
    exact ⟨p, q', r, v, o', hk b o' (fun z => r (z ▸ hm)) ho', hd⟩
  · obtain ⟨v, r, H⟩ := R.vars x av e
    refine ⟨v, r, ?_⟩
    unfold Held at H ⊢
    split at H
    · exact H
    · rename_i hkd
      obtain ⟨b, e', o', ho', hd⟩ := H
      refine ⟨b, e', o', hk b o' (fun z => ?_) ho', hd⟩
      rcases R.cellCase (.inl hkd) e' with ⟨_, _, _, _, q⟩ | ⟨ob, hob⟩
      · exact q (z ▸ hm)
      · rw [z, hB] at hob; cases hob
    · rename_i hkd
      obtain ⟨b, e', o', ho', hd⟩ := H
      refine ⟨b, e', o', hk b o' (fun z => ?_) ho', hd⟩
      rcases R.cellCase (.inr hkd) e' with ⟨_, _, _, _, q⟩ | ⟨ob, hob⟩
      · exact q (z ▸ hm)
      · rw [z, hB] at hob; cases hob
    · exact H
  · by_cases hj : j = k
    · subst hj
      have hl : j < σ.objs.length := by rw [← R.len]; exact (List.getElem?_eq_some_iff.mp ha).1
      dsimp only at e
      rw [List.getElem?_set_self hl] at e
      cases e
      exact ⟨a, ha, ho⟩
    · dsimp only at e
      rw [List.getElem?_set_ne (Ne.symm hj)] at e
      obtain ⟨b, q, r⟩ := R.objs j o' e
      refine ⟨b, q, r.mono (List.prefix_refl _) fun ob => hk b ob fun z => hj ?_⟩
      subst z
      have h1 := (List.getElem?_eq_some_iff.mp q)
      have h2 := (List.getElem?_eq_some_iff.mp ha)
      obtain ⟨h1, h1e⟩ := h1
      obtain ⟨h2, h2e⟩ := h2
      exact (List.getElem_inj R.nodup).mp (h1e.trans h2e.symm)
/-- a local name stored -/
theorem Rel.store {c : Cx} {m : Str → Option Value} {ad : List Addr} {σ : St} {h h' : Heap} {x : String} {av : AV} {v : Value} (R : Rel c m ad σ h) (hx : c.env.kindOf (Str.ofString x) = some .local) (hv : RV ad av v)
    (hn : h'.Ns c.env.locals (fun y => if y = Str.ofString x then some v else m y)) (hs : Heap.SameBut c.env.locals h h') : Rel c (fun y => if y = Str.ofString x then some v else m y) ad (σ.set x av) h' := by
  have up : ∀ b o, b ≠ c.env.locals → h.get? b = some o → h'.get? b = some o := fun b o hb e => (hs.2 b hb).trans e
  refine ⟨fun b o e => up b o (fun q => ?_) (R.keep b o e), hn, R.bL, fun y b q qc e => ?_, R.cellInj, R.cellAll, R.cellFree, fun y au e => ?_, R.len, R.nodup, R.lad, fun j o e => ?_, R.fresh, R.roLe, R.roEq⟩
  · subst q; rw [R.bL] at e; cases e
  · obtain ⟨p, q', r, u, o', ho', hd⟩ := R.cellOwn y b q qc e
    exact ⟨p, q', r, u, o', up b o' q' ho', hd⟩
  · replace e : (put σ.vars.l x av).lookup y = some au := e
    rw [put_lookup] at e
    by_cases hy : y = x
    · subst hy
      rw [if_pos rfl] at e
      cases e
      refine ⟨v, hv, ?_⟩
      unfold Held
      rw [hx]
      simp
    · rw [if_neg hy] at e
      obtain ⟨u, r, H⟩ := R.vars y au e
      refine ⟨u, r, ?_⟩
      have hne : Str.ofString y ≠ Str.ofString x := fun q => hy (ofString_inj q)
      unfold Held at H ⊢
      split at H
      · simpa [hne] using H
      · rename_i hkd
        obtain ⟨b, e', o', ho', hd⟩ := H
        exact ⟨b, e', o', up b o' (R.cellNe (.inl hkd) e') ho', hd⟩
      · rename_i hkd
        obtain ⟨b, e', o', ho', hd⟩ := H
        exact ⟨b, e', o', up b o' (R.cellNe (.inr hkd) e') ho', hd⟩
      · exact H
  · obtain ⟨b, q, r⟩ := R.objs j o e
    exact ⟨b, q, r.mono (List.prefix_refl _) fun ob => up b ob fun z => R.lad (z ▸ List.mem_of_getElem? q)⟩
/-- a captured name stored -/
theorem Rel.storeCell {c : Cx} {m : Str → Option Value} {ad : List Addr} {σ : St} {h h' : Heap} {x : String} {av : AV} {v : Value} {a : Addr} (R : Rel c m ad σ h) (hx : c.env.kindOf (Str.ofString x) = some .cell) (hxc : c.caps (Str.ofString x) = false)
    (ha : c.env.cells.lookup (Str.ofString x) = some a) (hv : RV ad av v) (hc : h'.IsCell a (some v)) (hs : Heap.SameBut a h h') : Rel c m ad (σ.set x av) h' := by
  have up : ∀ b o, b ≠ a → h.get? b = some o → h'.get? b = some o := fun b o hb e => (hs.2 b hb).trans e
  obtain ⟨aB, aL, aA, _⟩ := R.cellOwn _ a hx hxc ha
  refine ⟨fun b o e => up b o (fun q => ?_) (R.keep b o e), R.ns.sameBut hs (Ne.symm aL), R.bL, fun y b q qc e => ?_, R.cellInj, R.cellAll, R.cellFree, fun y au e => ?_, R.len, R.nodup, R.lad, fun j o e => ?_, R.fresh, R.roLe, R.roEq⟩
  · subst q; rw [aB] at e; cases e
  · obtain ⟨p, q', r, u, hu⟩ := R.cellOwn y b q qc e
    by_cases hba : b = a
    · subst hba; exact ⟨p, q', r, _, hc⟩
    · exact ⟨p, q', r, u, hu.sameBut hs hba⟩
  · replace e : (put σ.vars.l x av).lookup y = some au := e
    rw [put_lookup] at e
    by_cases hy : y = x
    · subst hy
      rw [if_pos rfl] at e
      cases e
      refine ⟨v, hv, ?_⟩
      unfold Held
      rw [hx]
      exact ⟨a, ha, hc⟩
    · rw [if_neg hy] at e
      obtain ⟨u, r, H⟩ := R.vars y au e
      refine ⟨u, r, ?_⟩
      have hne : Str.ofString y ≠ Str.ofString x := fun q => hy (ofString_inj q)
      unfold Held at H ⊢
      split at H
      · exact H
      · rename_i hkd
        obtain ⟨b, e', hb⟩ := H
        refine ⟨b, e', hb.sameBut hs fun z => ?_⟩
        rcases R.cellCase (.inl hkd) e' with ⟨kc, cc, _, _, _⟩ | ⟨ob, hob⟩
        · exact hne (R.cellInj _ _ a kc cc hx hxc (z ▸ e') ha)
        · rw [z, aB] at hob; cases hob
      · rename_i hkd
        obtain ⟨b, e', hb⟩ := H
        refine ⟨b, e', hb.sameBut hs fun z => ?_⟩
        rcases R.cellCase (.inr hkd) e' with ⟨kc, cc, _, _, _⟩ | ⟨ob, hob⟩
        · exact hne (R.cellInj _ _ a kc cc hx hxc (z ▸ e') ha)
        · rw [z, aB] at hob; cases hob
      · exact H
  · obtain ⟨b, q, r⟩ := R.objs j o e
    exact ⟨b, q, r.mono (List.prefix_refl _) fun ob => up b ob fun z => aA (z ▸ List.mem_of_getElem? q)⟩
/-- the kit's ledger, filled with all that stands: so a rule in its words tells of the whole heap -/
noncomputable def allNews (h : Heap) (L : Addr) : List (Addr × Obj) := (List.range h.objs.size).filterMap fun b => if b = L then none else (h.get? b).map fun o => (b, o)
theorem allNews_mem {h : Heap} {L b : Addr} {o : Obj} (hb : b ≠ L) (e : h.get? b = some o) : (b, o) ∈ allNews h L := by
  unfold allNews
  refine List.mem_filterMap.mpr ⟨b, List.mem_range.mpr (Heap.lt_size e), ?_⟩
  rw [if_neg hb, e]; rfl
theorem empty_get (b : Addr) : ({} : Heap).get? b = none := by
  cases e : ({} : Heap).get? b with
  | none => rfl
  | some o => exact absurd (Heap.lt_size e) (by simp)
theorem allNews_news (h : Heap) (L : Addr) : News {} L h (allNews h L) := by
  intro p hp
  obtain ⟨b, _, e⟩ := List.mem_filterMap.mp hp
  by_cases hb : b = L
  · rw [if_pos hb] at e; cases e
  · rw [if_neg hb] at e
    cases q : h.get? b with
    | none => rw [q] at e; cases e
    | some o => rw [q] at e; cases e; exact ⟨q, hb, empty_get _⟩
theorem Rel.fr {c : Cx} {m : Str → Option Value} {ad : List Addr} {σ : St} {h : Heap} (R : Rel c m ad σ h) : Fr {} c.env.locals h m := ⟨R.ns, fun b o e => (by rw [empty_get] at e; cases e), Nat.zero_le _⟩
theorem Rel.news {c : Cx} {m : Str → Option Value} {ad : List Addr} {σ : St} {h : Heap} (_R : Rel c m ad σ h) : News {} c.env.locals h (allNews h c.env.locals) := allNews_news _ _
theorem kl_of_news {L : Addr} {m : Str → Option Value} {h h' : Heap} {news : List (Addr × Obj)} (F : Fr {} L h' m) (N : News {} L h' news) (hs : ∀ p ∈ allNews h L, p ∈ news) : KL L m h h' :=
  ⟨fun b o hb e => (N _ (hs _ (allNews_mem hb e))).1, F.ns⟩
end Mine
end P0
section P1
set_option maxRecDepth 100000
set_option Elab.async false
set_option autoImplicit false
set_option linter.unusedSimpArgs false
set_option linter.unusedVariables false
namespace Mine
open PySem PyProof.Rows
structure Par where
  prog : Program
  w : World
  gl : List (String × Value)
  GF : Heap → Prop
  lim : ∀ h, GF h → h.NoLimit
  glob : ∀ h, GF h → ∃ mg mb, h.Ns mainGlobals mg ∧ h.Ns builtinsNs mb ∧ ∀ x v, gl.lookup x = some v → mg (Str.ofString x) = some v ∨ (mg (Str.ofString x) = none ∧ mb (Str.ofString x) = some v)
noncomputable def AOk (n : Nat) (A : Around) : Prop := A.handled = none ∧ A.depth + n ≤ 500 ∧ A.units + 20 * n ≤ 2000
theorem AOk.le {n k : Nat} {A : Around} (h : AOk n A) (hk : k ≤ n) : AOk k A := ⟨h.1, by have := h.2.1; lia  , by have := h.2.2; lia  ⟩
theorem AOk.in1 {n : Nat} {A : Around} (h : AOk (n + 1) A) : AOk n A.in1 := ⟨h.1, by have := h.2.1; show A.depth + n ≤ 500; lia  , by have := h.2.2; show A.units + 1 + 20 * n ≤ 2000; lia  ⟩
theorem AOk.deeper {n : Nat} {A : Around} (h : AOk (n + 1) A) (env : Env) : AOk n (A.deeper env) := ⟨h.1, by have := h.2.1; show A.depth + 1 + n ≤ 500; lia  , by have := h.2.2; show A.units + 3 + 20 * n ≤ 2000; lia  ⟩
theorem AOk.room {n : Nat} {A : Around} (h : AOk n A) : A.depth < recursionLimit := by have := h.2.1; show A.depth < 1000; lia  
theorem AOk.units {n : Nat} {A : Around} (h : AOk n A) : A.units < cLine := by have := h.2.2; show A.units < 9900; lia  
structure CxOk (P : Par) (c : Cx) : Prop where
  gl : c.env.globals = mainGlobals
  bu : c.env.builtins = builtinsNs
  kind : c.env.scope.kind = .function
  gf : ∀ h, (∀ b o, c.B b = some o → h.get? b = some o) → P.GF h
noncomputable abbrev VP := AV → List AO → Prop
noncomputable abbrev WE := St → VP → Prop
noncomputable abbrev WB := St → (Bool → List AO → Prop) → Prop
noncomputable abbrev WL := St → (List AV → List AO → Prop) → Prop
noncomputable def Post (c : Cx) (m : Str → Option Value) (ad : List Addr) (vars : Vs) (s : Shared) (Q : VP) (Q' : Value → Shared → Prop) : Prop :=
  ∀ h' tk v ad' os' av, Rel c m ad' ⟨vars, os'⟩ h' → ad <+: ad' → RV ad' av v → Q av os' → Q' v { s with heap := h', toks := tk }
noncomputable def PostB (c : Cx) (m : Str → Option Value) (ad : List Addr) (vars : Vs) (s : Shared) (Q : Bool → List AO → Prop) (Q' : Bool → Shared → Prop) : Prop :=
  ∀ h' tk ad' os' b, Rel c m ad' ⟨vars, os'⟩ h' → ad <+: ad' → Q b os' → Q' b { s with heap := h', toks := tk }
noncomputable def PostL (c : Cx) (m : Str → Option Value) (ad : List Addr) (vars : Vs) (s : Shared) (Q : List AV → List AO → Prop) (Q' : List Value → Shared → Prop) : Prop :=
  ∀ h' tk vs ad' os' avs, Rel c m ad' ⟨vars, os'⟩ h' → ad <+: ad' → RVs ad' avs vs → Q avs os' → Q' vs { s with heap := h', toks := tk }
/-- the expression does what the transformer says -/
noncomputable def EvE (P : Par) (n : Nat) (sc : Scope) (e : Expr) (p : WE) : Prop :=
  ∀ (c : Cx) (A : Around) (s : Shared) (m : Str → Option Value) (ad : List Addr) (σ : St) (Q : VP) (Q' : Value → Shared → Prop) (E : Value → Shared → Prop),
    CxOk P c → c.env.scope = sc → AOk n A → Rel c m ad σ s.heap → p σ Q → Post c m ad σ.vars s Q Q' → wpAny (model P.prog P.w) A (eval e c.env) Q' E s
/-- the test does -/
noncomputable def EvB (P : Par) (n : Nat) (sc : Scope) (e : Expr) (p : WB) : Prop :=
  ∀ (c : Cx) (A : Around) (s : Shared) (m : Str → Option Value) (ad : List Addr) (σ : St) (Q : Bool → List AO → Prop) (Q' : Bool → Shared → Prop) (E : Value → Shared → Prop),
    CxOk P c → c.env.scope = sc → AOk n A → Rel c m ad σ s.heap → p σ Q → PostB c m ad σ.vars s Q Q' → wpAny (model P.prog P.w) A (isTrue e c.env (eval e c.env)) Q' E s
/-- the arguments do -/
noncomputable def EvL (P : Par) (n : Nat) (sc : Scope) (es : List Expr) (p : WL) : Prop :=
  ∀ (c : Cx) (A : Around) (s : Shared) (m : Str → Option Value) (ad : List Addr) (σ : St) (pos : Pos) (Q : List AV → List AO → Prop) (Q' : List Value → Shared → Prop) (E : Value → Shared → Prop),
    CxOk P c → c.env.scope = sc → AOk n A → Rel c m ad σ s.heap → p σ Q → PostL c m ad σ.vars s Q Q' → wpAny (model P.prog P.w) A (spliced (backTo pos (starEach es c.env))) Q' E s
/-- an operation on values -/
noncomputable def OpOk (P : Par) (n : Nat) (t : List Value → Sem Value) (w : List AV → List AO → VP → Prop) : Prop :=
  ∀ (c : Cx) (A : Around) (s : Shared) (m : Str → Option Value) (ad : List Addr) (vars : Vs) (os : List AO) (avs : List AV) (vs : List Value) (Q : VP) (Q' : Value → Shared → Prop) (E : Value → Shared → Prop),
    CxOk P c → AOk n A → Rel c m ad ⟨vars, os⟩ s.heap → RVs ad avs vs → w avs os Q → Post c m ad vars s Q Q' → wpAny (model P.prog P.w) A (t vs) Q' E s
/-- the same where the counter of tokens stands at tk or above -/
noncomputable def EvET (P : Par) (tk : Nat) (n : Nat) (sc : Scope) (e : Expr) (p : WE) : Prop :=
  ∀ (c : Cx) (A : Around) (s : Shared) (m : Str → Option Value) (ad : List Addr) (σ : St) (Q : VP) (Q' : Value → Shared → Prop) (E : Value → Shared → Prop),
    CxOk P c → c.env.scope = sc → AOk n A → tk ≤ s.toks → Rel c m ad σ s.heap → p σ Q → Post c m ad σ.vars s Q Q' → wpAny (model P.prog P.w) A (eval e c.env) Q' E s
noncomputable def EvBT (P : Par) (tk : Nat) (n : Nat) (sc : Scope) (e : Expr) (p : WB) : Prop :=
  ∀ (c : Cx) (A : Around) (s : Shared) (m : Str → Option Value) (ad : List Addr) (σ : St) (Q : Bool → List AO → Prop) (Q' : Bool → Shared → Prop) (E : Value → Shared → Prop),
    CxOk P c → c.env.scope = sc → AOk n A → tk ≤ s.toks → Rel c m ad σ s.heap → p σ Q → PostB c m ad σ.vars s Q Q' → wpAny (model P.prog P.w) A (isTrue e c.env (eval e c.env)) Q' E s
noncomputable def OpOkT (P : Par) (tk : Nat) (n : Nat) (t : List Value → Sem Value) (w : List AV → List AO → VP → Prop) : Prop :=
  ∀ (c : Cx) (A : Around) (s : Shared) (m : Str → Option Value) (ad : List Addr) (vars : Vs) (os : List AO) (avs : List AV) (vs : List Value) (Q : VP) (Q' : Value → Shared → Prop) (E : Value → Shared → Prop),
    CxOk P c → AOk n A → tk ≤ s.toks → Rel c m ad ⟨vars, os⟩ s.heap → RVs ad avs vs → w avs os Q → Post c m ad vars s Q Q' → wpAny (model P.prog P.w) A (t vs) Q' E s
theorem EvE.t {P : Par} {n : Nat} {sc : Scope} {e : Expr} {p : WE} (h : EvE P n sc e p) (tk : Nat) : EvET P tk n sc e p := fun c A s m ad σ Q Q' E hc hs hA _ R hp hQ => h c A s m ad σ Q Q' E hc hs hA R hp hQ
theorem EvB.t {P : Par} {n : Nat} {sc : Scope} {e : Expr} {p : WB} (h : EvB P n sc e p) (tk : Nat) : EvBT P tk n sc e p := fun c A s m ad σ Q Q' E hc hs hA _ R hp hQ => h c A s m ad σ Q Q' E hc hs hA R hp hQ
theorem OpOk.t {P : Par} {n : Nat} {t : List Value → Sem Value} {w : List AV → List AO → VP → Prop} (h : OpOk P n t w) (tk : Nat) : OpOkT P tk n t w := fun c A s m ad vars os avs vs Q Q' E hc hA _ R rs hp hQ => h c A s m ad vars os avs vs Q Q' E hc hA R rs hp hQ
theorem EvET.up {P : Par} {tk n : Nat} {sc : Scope} {e : Expr} {p : WE} (h : EvET P tk n sc e p) (c : Cx) (A : Around) (s : Shared) (m : Str → Option Value) (ad : List Addr) (σ : St) (Q : VP) (Q' : Value → Shared → Prop) (E : Value → Shared → Prop) (hc : CxOk P c) (hs : c.env.scope = sc) (hA : AOk n A) (hT : tk ≤ s.toks) (R : Rel c m ad σ s.heap) (hp : p σ Q)
    (hQ : ∀ h' tk' v ad' os' av, tk ≤ tk' → Rel c m ad' ⟨σ.vars, os'⟩ h' → ad <+: ad' → RV ad' av v → Q av os' → Q' v { s with heap := h', toks := tk' }) : wpAny (model P.prog P.w) A (eval e c.env) Q' E s :=
  wpAny_with_toks hT (wpAny_mono (h c A s m ad σ Q (fun v s' => tk ≤ s'.toks → Q' v s') E hc hs hA hT R hp fun h' tk' v ad' os' av R' p' r q hT' => hQ h' tk' v ad' os' av hT' R' p' r q) (fun _ _ x => x) fun _ _ x _ => x)
theorem EvBT.up {P : Par} {tk n : Nat} {sc : Scope} {e : Expr} {p : WB} (h : EvBT P tk n sc e p) (c : Cx) (A : Around) (s : Shared) (m : Str → Option Value) (ad : List Addr) (σ : St) (Q : Bool → List AO → Prop) (Q' : Bool → Shared → Prop) (E : Value → Shared → Prop) (hc : CxOk P c) (hs : c.env.scope = sc) (hA : AOk n A) (hT : tk ≤ s.toks) (R : Rel c m ad σ s.heap) (hp : p σ Q)
    (hQ : ∀ h' tk' ad' os' b, tk ≤ tk' → Rel c m ad' ⟨σ.vars, os'⟩ h' → ad <+: ad' → Q b os' → Q' b { s with heap := h', toks := tk' }) : wpAny (model P.prog P.w) A (isTrue e c.env (eval e c.env)) Q' E s :=
  wpAny_with_toks hT (wpAny_mono (h c A s m ad σ Q (fun v s' => tk ≤ s'.toks → Q' v s') E hc hs hA hT R hp fun h' tk' ad' os' b R' p' q hT' => hQ h' tk' ad' os' b hT' R' p' q) (fun _ _ x => x) fun _ _ x _ => x)
section
variable {P : Par} {n : Nat} {sc : Scope}
theorem Post.pre {c : Cx} {m : Str → Option Value} {ad ad₁ : List Addr} {vars : Vs} {s : Shared} {Q : VP} {Q' : Value → Shared → Prop} (h : Post c m ad vars s Q Q') (p : ad <+: ad₁) (h₁ : Heap) (tk₁ : Nat) :
    Post c m ad₁ vars { s with heap := h₁, toks := tk₁ } Q Q' := fun h' tk v ad' os' av R pr rv q => h h' tk v ad' os' av R (p.trans pr) rv q
theorem PostB.pre {c : Cx} {m : Str → Option Value} {ad ad₁ : List Addr} {vars : Vs} {s : Shared} {Q : Bool → List AO → Prop} {Q' : Bool → Shared → Prop} (h : PostB c m ad vars s Q Q') (p : ad <+: ad₁) (h₁ : Heap) (tk₁ : Nat) :
    PostB c m ad₁ vars { s with heap := h₁, toks := tk₁ } Q Q' := fun h' tk ad' os' b R pr q => h h' tk ad' os' b R (p.trans pr) q
theorem PostL.pre {c : Cx} {m : Str → Option Value} {ad ad₁ : List Addr} {vars : Vs} {s : Shared} {Q : List AV → List AO → Prop} {Q' : List Value → Shared → Prop} (h : PostL c m ad vars s Q Q') (p : ad <+: ad₁) (h₁ : Heap) (tk₁ : Nat) :
    PostL c m ad₁ vars { s with heap := h₁, toks := tk₁ } Q Q' := fun h' tk v ad' os' av R pr rv q => h h' tk v ad' os' av R (p.trans pr) rv q
theorem Post.now {c : Cx} {m : Str → Option Value} {ad : List Addr} {vars : Vs} {os : List AO} {s : Shared} {Q : VP} {Q' : Value → Shared → Prop} (h : Post c m ad vars s Q Q') (R : Rel c m ad ⟨vars, os⟩ s.heap) {av : AV} {v : Value} (rv : RV ad av v) (q : Q av os) (tk : Nat) : Q' v { s with toks := tk } :=
  h s.heap tk v ad os av R (List.prefix_refl _) rv q
noncomputable def wLit (a : AV) : WE := fun σ Q => Q a σ.objs
theorem ev_int (i : Int) (k : Nat) (pos : Pos) : EvE P n sc (.Constant (.int i) k pos) (wLit (.int i)) := fun c A s m ad σ Q Q' E hc hs hA R hp hQ =>
  wpAny_Constant_int (hQ.now R (.int i _) hp _)
theorem ev_str (x : Str) (k : Nat) (pos : Pos) : EvE P n sc (.Constant (.str x) k pos) (wLit (.str x)) := fun c A s m ad σ Q Q' E hc hs hA R hp hQ =>
  Calls.Constant_str (hQ.now R (.str x _) hp _)
theorem ev_bytes (b : List UInt8) (k : Nat) (pos : Pos) : EvE P n sc (.Constant (.bytes b) k pos) (wLit (.bytes b.toArray)) := fun c A s m ad σ Q Q' E hc hs hA R hp hQ =>
  fun _ _ _ => hQ.now R (.bytes b.toArray _) hp _
noncomputable def wVar (x : String) : WE := fun σ Q => ∃ a, σ.vars.lookup x = some a ∧ Q a σ.objs
theorem load_var {c : Cx} {A : Around} {s : Shared} {m : Str → Option Value} {ad : List Addr} {σ : St} {Q' : Value → Shared → Prop} {E : Value → Shared → Prop} (x : String) (hc : CxOk P c) (R : Rel c m ad σ s.heap) {a : AV} (e : σ.vars.lookup x = some a)
    (hn : (Str.ofString x == ("__classdict__" : Str)) = false) (hQ : ∀ v, RV ad a v → Q' v s) : wpAny (model P.prog P.w) A (loadName c.env (Str.ofString x)) Q' E s := by
  obtain ⟨v, rv, H⟩ := R.vars x a e
  unfold Held at H
  split at H
  · rename_i k; exact wpAny_loadName_local hc.kind k R.ns H (hQ v rv)
  · rename_i k; obtain ⟨b, e', hb⟩ := H; exact wpAny_loadName_cell hc.kind k e' hb (hQ v rv)
  · rename_i k; obtain ⟨b, e', hb⟩ := H; exact wpAny_loadName_free hc.kind k e' hb (hQ v rv) hn
  · exact H.elim
theorem ev_var (x : String) (pos : Pos) (hd : (Str.ofString x == ("__debug__" : Str)) = false := by decide +kernel) (hn : (Str.ofString x == ("__classdict__" : Str)) = false := by decide +kernel) : EvE P n sc (.Name (Str.ofString x) pos) (wVar x) := fun c A s m ad σ Q Q' E hc hs hA R hp hQ => by
  obtain ⟨a, e, q⟩ := hp
  exact wpAny_Name (load_var x hc R e hn fun v rv => hQ.now R rv q s.toks) hd
theorem ev_glob (x : String) (v : Value) (pos : Pos) (hx : sc.names.lookup (Str.ofString x) = some .globalImplicit) (hv : P.gl.lookup x = some v) (hd : (Str.ofString x == ("__debug__" : Str)) = false := by decide +kernel) : EvE P n sc (.Name (Str.ofString x) pos) (wLit (.lit v)) := fun c A s m ad σ Q Q' E hc hs hA R hp hQ => by
  have hk : c.env.kindOf (Str.ofString x) = some .globalImplicit := by unfold Env.kindOf; rw [hs]; exact hx
  obtain ⟨mg, mb, hg, hb, ht⟩ := P.glob _ (hc.gf _ R.keep)
  have q : Q' v s := hQ.now R (.lit v) hp s.toks
  rcases ht x v hv with e | ⟨e, e'⟩
  · exact Calls.Name_function_global hc.kind hk (Calls.loadGlobal_global (by rw [hc.gl]; exact hg) e q) hd
  · exact Calls.Name_function_global hc.kind hk (Calls.loadGlobal_builtin (by rw [hc.gl]; exact hg) e (by rw [hc.bu]; exact hb) e' q) hd
noncomputable def wOp2 (p q : WE) (w : List AV → List AO → VP → Prop) : WE := fun σ Q => p σ fun a o1 => q ⟨σ.vars, o1⟩ fun b o2 => w [a, b] o2 Q
theorem ev_bin {l r : Expr} {op : Operator} {pos : Pos} {p q : WE} {w : List AV → List AO → VP → Prop} (hl : EvE P n sc l p) (hr : EvE P n sc r q) (ho : OpOk P n (fun vs => binaryOp op (vs.getD 0 .none) (vs.getD 1 .none)) w) :
    EvE P n sc (.BinOp l op r pos) (wOp2 p q w) := fun c A s m ad σ Q Q' E hc hs hA R hp hQ => by
  refine wpAny_BinOp (hl c A s m ad σ _ _ _ hc hs hA R hp fun h1 tk1 v1 ad1 os1 a1 R1 p1 r1 q1 => ?_)
  refine hr c A _ m ad1 ⟨σ.vars, os1⟩ _ _ _ hc hs hA R1 q1 fun h2 tk2 v2 ad2 os2 a2 R2 p2 r2 q2 => ?_
  exact ho c A _ m ad2 σ.vars os2 [a1, a2] [v1, v2] _ _ _ hc hA R2 (.cons (r1.mono p2) (.cons r2 .nil)) q2 ((hQ.pre p1 h1 tk1).pre p2 h2 tk2)
theorem ev_cmp {l r : Expr} {op : CmpOp} {pos : Pos} {p q : WE} {w : List AV → List AO → VP → Prop} (hl : EvE P n sc l p) (hr : EvE P n sc r q) (ho : OpOk P n (fun vs => compareOp op (vs.getD 0 .none) (vs.getD 1 .none)) w)
    (hm : behindInMarks op r = false := by with_unfolding_all rfl) : EvE P n sc (.Compare l [op] [r] pos) (wOp2 p q w) := fun c A s m ad σ Q Q' E hc hs hA R hp hQ => by
  refine wpAny_Compare1 (hl c A s m ad σ _ _ _ hc hs hA R hp fun h1 tk1 v1 ad1 os1 a1 R1 p1 r1 q1 => ?_) hm
  refine hr c A _ m ad1 ⟨σ.vars, os1⟩ _ _ _ hc hs hA R1 q1 fun h2 tk2 v2 ad2 os2 a2 R2 p2 r2 q2 => ?_
  exact ho c A _ m ad2 σ.vars os2 [a1, a2] [v1, v2] _ _ _ hc hA R2 (.cons (r1.mono p2) (.cons r2 .nil)) q2 ((hQ.pre p1 h1 tk1).pre p2 h2 tk2)
noncomputable def wOp1 (p : WE) (w : List AV → List AO → VP → Prop) : WE := fun σ Q => p σ fun a o1 => w [a] o1 Q
theorem ev_un {x : Expr} {op : UnaryOp} {pos : Pos} {p : WE} {w : List AV → List AO → VP → Prop} (hl : EvE P n sc x p) (ho : OpOk P n (fun vs => unaryOp op (vs.getD 0 .none)) w) :
    EvE P n sc (.UnaryOp op x pos) (wOp1 p w) := fun c A s m ad σ Q Q' E hc hs hA R hp hQ => by
  refine wpAny_UnaryOp (hl c A s m ad σ _ _ _ hc hs hA R hp fun h1 tk1 v1 ad1 os1 a1 R1 p1 r1 q1 => ?_)
  exact ho c A _ m ad1 σ.vars os1 [a1] [v1] _ _ _ hc hA R1 (.cons r1 .nil) q1 (hQ.pre p1 h1 tk1)
noncomputable def wIte (t : WB) (p q : WE) : WE := fun σ Q => t σ fun b o1 => (b = true → p ⟨σ.vars, o1⟩ Q) ∧ (b = false → q ⟨σ.vars, o1⟩ Q)
theorem ev_ite {t x y : Expr} {pos : Pos} {b : WB} {p q : WE} (ht : EvB P n sc t b) (hx : EvE P n sc x p) (hy : EvE P n sc y q) : EvE P n sc (.IfExp t x y pos) (wIte b p q) := fun c A s m ad σ Q Q' E hc hs hA R hp hQ => by
  refine wpAny_IfExp (ht c A s m ad σ _ _ _ hc hs hA R hp fun h1 tk1 ad1 os1 b1 R1 p1 q1 => ?_)
  cases b1 with
  | true => exact hx c A _ m ad1 ⟨σ.vars, os1⟩ _ _ _ hc hs hA R1 (q1.1 rfl) (hQ.pre p1 h1 tk1)
  | false => exact hy c A _ m ad1 ⟨σ.vars, os1⟩ _ _ _ hc hs hA R1 (q1.2 rfl) (hQ.pre p1 h1 tk1)
/-- the truth of a value -/
noncomputable def aTruth : AV → List AO → Option Bool
  | .none, _ => some false
  | .bool b, _ => some b
  | .int i, _ => some (decide (i ≠ 0))
  | .str x, _ => some (decide (x.length ≠ 0))
  | _, _ => none
noncomputable def wNotB (t : WB) : WB := fun σ Q => t σ fun b o1 => Q (!b) o1
noncomputable def wAndB (t u : WB) : WB := fun σ Q => t σ fun b o1 => (b = true → u ⟨σ.vars, o1⟩ Q) ∧ (b = false → Q false o1)
noncomputable def wOrB (t u : WB) : WB := fun σ Q => t σ fun b o1 => (b = true → Q true o1) ∧ (b = false → u ⟨σ.vars, o1⟩ Q)
theorem tb_not {x : Expr} {pos : Pos} {t : WB} (h : EvB P n sc x t) : EvB P n sc (.UnaryOp .Not x pos) (wNotB t) := fun c A s m ad σ Q Q' E hc hs hA R hp hQ =>
  wpAny_isTrue_Not (h c A s m ad σ _ _ _ hc hs hA R hp fun h1 tk1 ad1 os1 b1 R1 p1 q1 => hQ h1 tk1 ad1 os1 _ R1 p1 q1)
theorem truthy_av {c : Cx} {A : Around} {s : Shared} {m : Str → Option Value} {ad : List Addr} {vars : Vs} {os : List AO} {a : AV} {v : Value} {b : Bool} {Q : Bool → List AO → Prop} {Q' : Bool → Shared → Prop} {E : Value → Shared → Prop}
    (R : Rel c m ad ⟨vars, os⟩ s.heap) (rv : RV ad a v) (hb : aTruth a os = some b) (q : Q b os) (hz : ∀ x, a = .str x → x.length < 2 ^ 63) (hQ : PostB c m ad vars s Q Q') : wpAny (model P.prog P.w) A (truthy v) Q' E s := by
  cases rv with
  | none => cases hb; exact truthy_none (hQ s.heap s.toks ad os _ R (List.prefix_refl _) q)
  | bool b => cases hb; exact wpAny_truthy_bool (hQ s.heap s.toks ad os _ R (List.prefix_refl _) q)
  | int i t =>
    cases hb
    refine PySem.P.truthy_int ?_
    have := hQ s.heap s.toks ad os _ R (List.prefix_refl _) q
    have e : (i != 0) = decide (i ≠ 0) := by rw [Bool.eq_iff_iff]; simp
    rw [e]
    exact this
  | str x t =>
    cases hb
    have := hz x rfl
    refine PySem.P.truthy_str (by lia  ) ?_
    have := hQ s.heap (s.toks + 1 + 1) ad os _ R (List.prefix_refl _) q
    have e : ((x.length : Int) != 0) = decide (x.length ≠ 0) := by
      rw [Bool.eq_iff_iff]; simp
    rw [e]; exact this
  | bytes b t => cases hb
  | ref k a e => cases hb
  | lit v => cases hb
/-- a plain expression as a test -/
theorem tb_val {e : Expr} {p : WE} (h : EvE P n sc e p) (he : ∀ env whole, isTrue e env whole = (do let v ← whole; standAt e.pos; holding [v] (truthy v)) := by intro _ _; rfl) :
    EvB P n sc e (fun σ Q => p σ fun a o1 => (∀ x, a = .str x → x.length < 2 ^ 63) ∧ ∃ b, aTruth a o1 = some b ∧ Q b o1) := fun c A s m ad σ Q Q' E hc hs hA R hp hQ => by
  refine wpAny_isTrue_value (h c A s m ad σ _ _ _ hc hs hA R hp fun h1 tk1 v1 ad1 os1 a1 R1 p1 r1 q1 => ?_) (he _ _)
  obtain ⟨hz, b, hb, q⟩ := q1
  exact truthy_av R1 r1 hb q hz (hQ.pre p1 h1 tk1)
theorem tb_cmp {l r : Expr} {op : CmpOp} {pos : Pos} {p q : WE} {w : List AV → List AO → VP → Prop} (hl : EvE P n sc l p) (hr : EvE P n sc r q) (ho : OpOk P n (fun vs => compareOp op (vs.getD 0 .none) (vs.getD 1 .none)) w)
    (hm : behindInMarks op r = false := by with_unfolding_all rfl) : EvB P n sc (.Compare l [op] [r] pos) (fun σ Q => wOp2 p q w σ fun a o => ∃ b, a = .bool b ∧ Q b o) := fun c A s m ad σ Q Q' E hc hs hA R hp hQ => by
  refine wpAny_isTrue_Compare1 (hl c A s m ad σ _ _ _ hc hs hA R hp fun h1 tk1 v1 ad1 os1 a1 R1 p1 r1 q1 => ?_) hm
  refine hr c A _ m ad1 ⟨σ.vars, os1⟩ _ _ _ hc hs hA R1 q1 fun h2 tk2 v2 ad2 os2 a2 R2 p2 r2 q2 => ?_
  refine ho c A _ m ad2 σ.vars os2 [a1, a2] [v1, v2] _ _ _ hc hA R2 (.cons (r1.mono p2) (.cons r2 .nil)) q2 fun h3 tk3 v3 ad3 os3 a3 R3 p3 r3 q3 => ?_
  obtain ⟨b, rfl, q⟩ := q3
  cases r3
  exact wpAny_truthy_bool (hQ h3 tk3 ad3 os3 b R3 ((p1.trans p2).trans p3) q)
/-- and, or of two -/
theorem tb_and {x y : Expr} {pos : Pos} {t u : WB} (hx : EvB P n sc x t) (hy : EvB P n sc y u) : EvB P n sc (.BoolOp .And [x, y] pos) (wAndB t u) := fun c A s m ad σ Q Q' E hc hs hA R hp hQ => by
  refine wpAny_isTrue_BoolOp (wpAny_allTrue_And_cons (hx c A s m ad σ _ _ _ hc hs hA R hp fun h1 tk1 ad1 os1 b1 R1 p1 q1 => ?_))
  cases b1 with
  | true =>
    refine wpAny_allTrue_And_cons (hy c A _ m ad1 ⟨σ.vars, os1⟩ _ _ _ hc hs hA R1 (q1.1 rfl) fun h2 tk2 ad2 os2 b2 R2 p2 q2 => ?_)
    cases b2 with
    | true => exact wpAny_allTrue_And_nil (hQ h2 tk2 ad2 os2 true R2 (p1.trans p2) q2)
    | false => exact hQ h2 tk2 ad2 os2 false R2 (p1.trans p2) q2
  | false => exact hQ h1 tk1 ad1 os1 false R1 p1 (q1.2 rfl)
theorem tb_or {x y : Expr} {pos : Pos} {t u : WB} (hx : EvB P n sc x t) (hy : EvB P n sc y u) : EvB P n sc (.BoolOp .Or [x, y] pos) (wOrB t u) := fun c A s m ad σ Q Q' E hc hs hA R hp hQ => by
  refine wpAny_isTrue_BoolOp (wpAny_allTrue_Or_cons (hx c A s m ad σ _ _ _ hc hs hA R hp fun h1 tk1 ad1 os1 b1 R1 p1 q1 => ?_))
  cases b1 with
  | false =>
    refine wpAny_allTrue_Or_cons (hy c A _ m ad1 ⟨σ.vars, os1⟩ _ _ _ hc hs hA R1 (q1.2 rfl) fun h2 tk2 ad2 os2 b2 R2 p2 q2 => ?_)
    cases b2 with
    | false => exact wpAny_allTrue_Or_nil (hQ h2 tk2 ad2 os2 false R2 (p1.trans p2) q2)
    | true => exact hQ h2 tk2 ad2 os2 true R2 (p1.trans p2) q2
  | true => exact hQ h1 tk1 ad1 os1 true R1 p1 (q1.1 rfl)
noncomputable def wNil : WL := fun σ Q => Q [] σ.objs
noncomputable def wCons (p : WE) (q : WL) : WL := fun σ Q => p σ fun a o1 => q ⟨σ.vars, o1⟩ fun as o2 => Q (a :: as) o2
theorem el_nil : EvL P n sc [] wNil := fun c A s m ad σ pos Q Q' E hc hs hA R hp hQ => Calls.spliced_nil (hQ s.heap s.toks [] ad _ [] R (List.prefix_refl _) .nil hp)
theorem el_cons {e : Expr} {rest : List Expr} {p : WE} {q : WL} (he : EvE P n sc e p) (hr : EvL P n sc rest q) (hst : ∀ env, starEach (e :: rest) env = (false, eval e env) :: starEach rest env := by intro _; rfl) :
    EvL P n sc (e :: rest) (wCons p q) := fun c A s m ad σ pos Q Q' E hc hs hA R hp hQ => by
  rw [hst]
  refine Calls.spliced_cons (he c A s m ad σ _ _ _ hc hs hA R hp fun h1 tk1 v1 ad1 os1 a1 R1 p1 r1 q1 => ?_)
  exact hr c A _ m ad1 ⟨σ.vars, os1⟩ pos _ _ _ hc hs hA R1 q1 fun h2 tk2 vs2 ad2 os2 as2 R2 p2 r2 q2 => hQ h2 tk2 _ ad2 os2 _ R2 (p1.trans p2) (.cons (r1.mono p2) r2) q2
noncomputable def KeeperOk (P : Par) (f : Value) : Prop := ∀ h, P.GF h → ∃ k, (k = Keeper.frame ∨ k = Keeper.machine ∨ k = Keeper.boundFrame) ∧ PySem.W.Looks (model P.prog P.w) h (keeperOf f) k
theorem keeper_builtin (id : String) : KeeperOk P (.builtin id) := fun h _ => ⟨.machine, .inr (.inl rfl), PySem.W.Looks.of_pure rfl⟩
theorem keeper_type (T : String) : KeeperOk P (.type T) := fun h _ => ⟨.machine, .inr (.inl rfl), PySem.W.Looks.of_pure rfl⟩
theorem evalArgs_any {M : Model} {A : Around} {E : Value → Shared → Prop} {s : Shared} {f : Value} {l : List (Bool × Sem Value)} {Q : Args → Shared → Prop} (hp : l.any (·.1) = false)
    (h : wpAny M A (spliced l) (fun vs s' => Q ⟨vs, []⟩ s') E s) : wpAny M A (evalArgs f true l []) Q E s := by
  cases l with
  | nil =>
    unfold evalArgs
    show wpAny M A (spliced [] >>= _) Q E s
    refine wpAny_bind (wpAny_mono h (fun vs s' h' => ?_) fun _ _ x => x)
    refine wpAny_bind (wpAny_pure (wpAny_holding ?_))
    exact wpAny_bind (wpAny_pure (wpAny_bind (wpAny_pure (wpAny_pure h'))))
  | cons x r =>
    obtain ⟨b, t⟩ := x
    cases b with
    | true => simp at hp
    | false => exact Calls.evalArgs_plain h
theorem callWith_av {c : Cx} {A : Around} {s : Shared} {m : Str → Option Value} {ad : List Addr} {σ : St} {pos : Pos} {es : List Expr} {q : WL} {w : List AV → List AO → VP → Prop} {f : Value} {first : List Value} {fa : List AV} {Q : VP} {Q' : Value → Shared → Prop} {E : Value → Shared → Prop}
    (hk : KeeperOk P f) (ha : EvL P n sc es q) (ho : OpOk P n (fun vs => call f vs) w) (hst : ∀ env pos, (backTo pos (starEach es env)).any (·.1) = false)
    (hc : CxOk P c) (hs : c.env.scope = sc) (hA : AOk n A) (R : Rel c m ad σ s.heap) (rf : RVs ad fa first) (hp : q σ fun as o => w (fa ++ as) o Q) (hQ : Post c m ad σ.vars s Q Q') :
    wpAny (model P.prog P.w) A (callWith pos f first (backTo pos (starEach es c.env)) []) Q' E s := by
  refine PySem.W.callWith_of (P := P.GF) (by rw [hst]; rfl) hk (evalArgs_any (hst _ _) (ha c A s m ad σ pos _ _ _ hc hs hA R hp fun h1 tk1 vs1 ad1 os1 as1 R1 p1 r1 q1 => ⟨hc.gf _ R1.keep, ?_⟩))
  exact ho c A _ m ad1 σ.vars os1 (fa ++ as1) (first ++ vs1) _ _ _ hc hA R1 ((rf.mono p1).append r1) q1 (hQ.pre p1 h1 tk1)
theorem EvL.up {tk : Nat} {es : List Expr} {p : WL} (h : EvL P n sc es p) (c : Cx) (A : Around) (s : Shared) (m : Str → Option Value) (ad : List Addr) (σ : St) (pos : Pos) (Q : List AV → List AO → Prop) (Q' : List Value → Shared → Prop) (E : Value → Shared → Prop) (hc : CxOk P c) (hs : c.env.scope = sc) (hA : AOk n A) (hT : tk ≤ s.toks) (R : Rel c m ad σ s.heap) (hp : p σ Q)
    (hQ : ∀ h' tk' vs ad' os' avs, tk ≤ tk' → Rel c m ad' ⟨σ.vars, os'⟩ h' → ad <+: ad' → RVs ad' avs vs → Q avs os' → Q' vs { s with heap := h', toks := tk' }) : wpAny (model P.prog P.w) A (spliced (backTo pos (starEach es c.env))) Q' E s :=
  wpAny_with_toks hT (wpAny_mono (h c A s m ad σ pos Q (fun v s' => tk ≤ s'.toks → Q' v s') E hc hs hA R hp fun h' tk' v ad' os' av R' p' r q hT' => hQ h' tk' v ad' os' av hT' R' p' r q) (fun _ _ x => x) fun _ _ x _ => x)
noncomputable def wCall (q : WL) (w : List AV → List AO → VP → Prop) : WE := fun σ Q => q σ fun as o => w as o Q
theorem ev_call {x : String} {np pos : Pos} {es : List Expr} {q : WL} {w : List AV → List AO → VP → Prop} {f : Value} (hf : EvE P n sc (.Name (Str.ofString x) np) (wLit (.lit f))) (hk : KeeperOk P f) (ha : EvL P n sc es q) (ho : OpOk P n (fun vs => call f vs) w)
    (hst : ∀ env pos, (backTo pos (starEach es env)).any (·.1) = false := by intro _ _; rfl) : EvE P n sc (.Call (.Name (Str.ofString x) np) es [] pos) (wCall q w) := fun c A s m ad σ Q Q' E hc hs hA R hp hQ => by
  refine wpAny_Call_ofName (hf c A s m ad σ (fun a o => a = .lit f ∧ o = σ.objs) _ _ hc hs hA R ⟨rfl, rfl⟩ fun h1 tk1 v1 ad1 os1 a1 R1 p1 r1 q1 => ?_)
  obtain ⟨rfl, rfl⟩ := q1
  cases r1
  exact callWith_av hk ha ho hst hc hs hA R1 .nil hp (hQ.pre p1 h1 tk1)
/-- a method of a text or of another value without a dict of its own -/
noncomputable def wMeth (T : AV → List AO → Prop) (p : WE) (q : WL) (w : List AV → List AO → VP → Prop) : WE := fun σ Q => p σ fun a o1 => T a o1 ∧ q ⟨σ.vars, o1⟩ fun as o2 => w (a :: as) o2 Q
theorem ev_meth {o : Expr} {name : String} {apos pos : Pos} {es : List Expr} {T id : String} {TA : AV → List AO → Prop} {p : WE} {q : WL} {w : List AV → List AO → VP → Prop}
    (hT : ∀ (c : Cx) (m : Str → Option Value) (ad : List Addr) (vars : Vs) (os : List AO) (s : Shared) (a : AV) (v : Value), Rel c m ad ⟨vars, os⟩ s.heap → RV ad a v → TA a os → s.TypeIs v T ∧ ∀ b, v = .ref b → ∃ ob, s.heap.get? b = some ob ∧ ob.dict = none)
    (pa : PlainAttrs T) (slot : Slot T (Str.ofString name) id) (hty : typeOf (.builtin id) = pure (.type "method_descriptor"))
    (hp : EvE P n sc o p) (ha : EvL P n sc es q) (ho : OpOk P n (fun vs => call (.builtin id) vs) w)
    (hbase : ∀ env, attributeBase o (Str.ofString name) env (eval o env) = eval o env := by intro _; rfl)
    (hfew : ∀ env, ((backTo pos (starEach es env)).all (fun x => !x.1) && (backToKw pos (keywordEach [] env)).all (fun x => x.1.isSome) && decide (es.length + ([] : List Keyword).length + (if ([] : List Keyword).isEmpty then 0 else 1) < 30)) = true := by intro _; rfl)
    (hline : (apos.endLine == pos.line) = true := by rfl)
    (hst : ∀ env pos, (backTo pos (starEach es env)).any (·.1) = false := by intro _ _; rfl) : EvE P n sc (.Call (.Attribute o (Str.ofString name) apos) es [] pos) (wMeth TA p q w) := fun c A s m ad σ Q Q' E hc hs hA R h hQ => by
  refine wpAny_Call_method (hbase _) (hfew _) hline pa slot hty (hp c A s m ad σ _ _ _ hc hs hA R h fun h1 tk1 v1 ad1 os1 a1 R1 p1 r1 q1 => ?_)
  obtain ⟨ta, q1⟩ := q1
  obtain ⟨t1, t2⟩ := hT c m ad1 σ.vars os1 { s with heap := h1, toks := tk1 } a1 v1 R1 r1 ta
  exact ⟨t1, t2, callWith_av (keeper_builtin id) ha ho hst hc hs hA R1 (.cons r1 .nil) q1 (hQ.pre p1 h1 tk1)⟩
noncomputable def wList (q : WL) : WE := fun σ Q => q σ fun as o => as.length ≤ sizeLine ∧ Q (.ref o.length) (o ++ [.list as])
noncomputable def wTup (q : WL) : WE := fun σ Q => q σ fun as o => as.length ≤ sizeLine ∧ Q (.ref o.length) (o ++ [.tup as])
theorem Rel.push {c : Cx} {m : Str → Option Value} {ad : List Addr} {vars : Vs} {os : List AO} {h : Heap} {o : AO} {ob : Obj} (R : Rel c m ad ⟨vars, os⟩ h) (hf : ob.isFreed = false) (ho : RO (ad ++ [h.objs.size]) (h.push ob) h.objs.size o) :
    Rel c m (ad ++ [h.objs.size]) ⟨vars, os ++ [o]⟩ (h.push ob) ∧ RV (ad ++ [h.objs.size]) (.ref os.length) (.ref h.objs.size) := by
  refine ⟨R.alloc (.of R.ns fun b o e => Heap.get?_push_of_some _ e) ?_ ho, .ref _ _ ?_⟩
  · cases e : h.get? h.objs.size with
    | none => rfl
    | some x => exact absurd (Heap.lt_size e) (Nat.lt_irrefl _)
  · have := R.len
    dsimp only at this
    rw [← this, List.getElem?_append_right (Nat.le_refl _), Nat.sub_self]; rfl
theorem Rel.pushList {c : Cx} {m : Str → Option Value} {ad : List Addr} {vars : Vs} {os : List AO} {h : Heap} {as : List AV} {vs : List Value} (R : Rel c m ad ⟨vars, os⟩ h) (r : RVs ad as vs) (k : Nat) :
    Rel c m (ad ++ [h.objs.size]) ⟨vars, os ++ [.list as]⟩ (h.push (listObj vs k)) ∧ RV (ad ++ [h.objs.size]) (.ref os.length) (.ref h.objs.size) :=
  R.push rfl ⟨vs, k, Heap.get?_push_size _ rfl, r.mono (List.prefix_append ..)⟩
theorem Rel.pushTup {c : Cx} {m : Str → Option Value} {ad : List Addr} {vars : Vs} {os : List AO} {h : Heap} {as : List AV} {vs : List Value} (R : Rel c m ad ⟨vars, os⟩ h) (r : RVs ad as vs) :
    Rel c m (ad ++ [h.objs.size]) ⟨vars, os ++ [.tup as]⟩ (h.push (tupObj vs)) ∧ RV (ad ++ [h.objs.size]) (.ref os.length) (.ref h.objs.size) :=
  R.push rfl ⟨vs, Heap.get?_push_size _ rfl, r.mono (List.prefix_append ..)⟩
theorem ev_list {es : List Expr} {pos : Pos} {q : WL} (ha : EvL P n sc es q) : EvE P n sc (.List es pos) (wList q) := fun c A s m ad σ Q Q' E hc hs hA R hp hQ => by
  refine PySem.wpAny_List (ha c A s m ad σ pos _ _ _ hc hs hA R hp fun h1 tk1 vs1 ad1 os1 as1 R1 p1 r1 q1 => ⟨by rw [← r1.length]; exact q1.1, ?_⟩)
  obtain ⟨R2, r2⟩ := R1.pushList r1 0
  exact hQ _ tk1 _ _ _ _ R2 (p1.trans (List.prefix_append ..)) r2 q1.2
theorem ev_tup {es : List Expr} {k : Nat} {pos : Pos} {q : WL} (ha : EvL P n sc es q) : EvE P n sc (.Tuple es k pos) (wTup q) := fun c A s m ad σ Q Q' E hc hs hA R hp hQ => by
  refine PySem.wpAny_Tuple (ha c A s m ad σ pos _ _ _ hc hs hA R hp fun h1 tk1 vs1 ad1 os1 as1 R1 p1 r1 q1 => ⟨by rw [← r1.length]; exact q1.1, ?_⟩)
  obtain ⟨R2, r2⟩ := R1.pushTup r1
  exact hQ _ tk1 _ _ _ _ R2 (p1.trans (List.prefix_append ..)) r2 q1.2
end
end Mine
end P1
section P2
set_option maxRecDepth 100000
set_option Elab.async false
set_option autoImplicit false
set_option linter.unusedSimpArgs false
set_option linter.unusedVariables false
namespace Mine
open PySem PyProof.Rows
inductive It where
  | av (a : AV)
  | pair (a b : AV)
inductive Tg where
  | one (x : String)
  | two (x y : String)
inductive IK where
  | list (k : Nat)
  | tup (k : Nat)
  | range (a : Int) (n : Nat)
  | str (x : Str)
  | enum (k : Nat)
noncomputable def itemAt : IK → List AO → Nat → Option It
  | .list k, os, i => match os[k]? with
    | some (.list vs) => vs[i]?.map .av
    | _ => none
  | .tup k, os, i => match os[k]? with
    | some (.tup vs) => vs[i]?.map .av
    | _ => none
  | .range a n, _, i => if i < n then some (.av (.int (a + i))) else none
  | .str x, _, i => x.cps[i]?.map fun c => .av (.str ⟨#[c]⟩)
  | .enum k, os, i => match os[k]? with
    | some (.list vs) => vs[i]?.map fun v => .pair (.int i) v
    | _ => none
noncomputable def IKok : IK → List AO → Prop
  | .list k, os => ∃ vs, os[k]? = some (.list vs)
  | .tup k, os => ∃ vs, os[k]? = some (.tup vs)
  | .range _ _, _ => True
  | .str _, _ => True
  | .enum k, os => ∃ vs, os[k]? = some (.list vs)
noncomputable def bindT : Tg → It → St → Option St
  | .one x, .av a, σ => some (σ.set x a)
  | .two x y, .pair a b, σ => some ((σ.set x a).set y b)
  | .two x y, .av (.ref j), σ => match σ.objs[j]? with
    | some (.tup [a, b]) => some ((σ.set x a).set y b)
    | _ => none
  | _, _, _ => none
inductive TgE : Expr → Tg → Prop
  | one (x : String) (p : Pos) : TgE (.Name (Str.ofString x) p) (.one x)
  | two (x y : String) (p q r : Pos) (k : Nat) : TgE (.Tuple [.Name (Str.ofString x) p, .Name (Str.ofString y) q] k r) (.two x y)
noncomputable def ItAt (ad : List Addr) (h : Heap) (I : Addr) (fp : List Addr) : IK → Nat → Prop
  | .list k, i => fp = [I] ∧ ∃ ax, ad[k]? = some ax ∧ h.IsListIter I ax i
  | .tup k, i => fp = [I] ∧ ∃ ax, ad[k]? = some ax ∧ h.IsTupleIter I ax i
  | .range a n, i => fp = [I] ∧ i ≤ n ∧ IsRangeIter h I (a + i) ((n : Int) - i) 1
  | .str x, i => fp = [I] ∧ ∃ t, ((h.IsStrIter I "str_ascii_iterator" x t i) ∨ (h.IsStrIter I "str_iterator" x t i))
  | .enum k, i => ∃ it, fp = [I, it] ∧ I ≠ it ∧ ∃ ax old, ad[k]? = some ax ∧ IsEnum h I it i old ∧ h.IsListIter it ax i
structure Off (c : Cx) (ad : List Addr) (fp : List Addr) : Prop where
  B : ∀ b ∈ fp, c.B b = none
  L : ∀ b ∈ fp, b ≠ c.env.locals
  A : ∀ b ∈ fp, b ∉ ad
  C : ∀ b ∈ fp, ∀ x, c.env.kindOf x = some .cell → c.caps x = false → c.env.cells.lookup x ≠ some b
theorem Rel.off {c : Cx} {m : Str → Option Value} {ad : List Addr} {σ : St} {h h' : Heap} {fp : List Addr} (R : Rel c m ad σ h) (o : Off c ad fp) (hk : ∀ b o, b ∉ fp → h.get? b = some o → h'.get? b = some o) : Rel c m ad σ h' := by
  have cne : ∀ x a, (c.env.kindOf x = some .cell ∨ c.env.kindOf x = some .free) → c.env.cells.lookup x = some a → a ∉ fp := fun x a k e hm => by
    rcases R.cellCase k e with ⟨k', kc, _, _, _⟩ | ⟨ob, hob⟩
    · exact o.C a hm x k' kc e
    · rw [o.B a hm] at hob; cases hob
  refine ⟨fun b ob e => hk b ob (fun hm => by rw [o.B b hm] at e; cases e) (R.keep b ob e), ?_, R.bL, fun x a k kc e => ?_, R.cellInj, R.cellAll, R.cellFree, fun x av e => ?_, R.len, R.nodup, R.lad, fun j ob e => ?_, R.fresh, R.roLe, R.roEq⟩
  · obtain ⟨oL, es, ep, e, r⟩ := R.ns
    exact ⟨oL, es, ep, hk _ _ (fun hm => o.L _ hm rfl) e, r⟩
  · obtain ⟨p, q, r, v, ob, hob, hd⟩ := R.cellOwn x a k kc e
    exact ⟨p, q, r, v, ob, hk a ob (cne x a (.inl k) e) hob, hd⟩
  · obtain ⟨v, r, H⟩ := R.vars x av e
    refine ⟨v, r, ?_⟩
    unfold Held at H ⊢
    split at H
    · exact H
    · rename_i k; obtain ⟨a, e', ob, hob, hd⟩ := H; exact ⟨a, e', ob, hk a ob (cne _ a (.inl k) e') hob, hd⟩
    · rename_i k; obtain ⟨a, e', ob, hob, hd⟩ := H; exact ⟨a, e', ob, hk a ob (cne _ a (.inr k) e') hob, hd⟩
    · exact H
  · obtain ⟨a, q, r⟩ := R.objs j ob e
    exact ⟨a, q, r.mono (List.prefix_refl _) fun o' => hk a o' fun hm => o.A a hm (List.mem_of_getElem? q)⟩
theorem RO.list_at {ad : List Addr} {h : Heap} {a : Addr} {vs : List AV} (x : RO ad h a (.list vs)) : ∃ us : List Value, h.IsList a us.toArray ∧ RVs ad vs us := by
  obtain ⟨us, n, g, r⟩ := x
  exact ⟨us, ⟨_, g, rfl, n, rfl⟩, r⟩
theorem RO.tup_at {ad : List Addr} {h : Heap} {a : Addr} {vs : List AV} (x : RO ad h a (.tup vs)) : ∃ us : List Value, h.IsTuple a us.toArray ∧ RVs ad vs us := by
  obtain ⟨us, g, r⟩ := x
  exact ⟨us, ⟨_, g, rfl, _, rfl⟩, r⟩
theorem Rel.obj {c : Cx} {m : Str → Option Value} {ad : List Addr} {σ : St} {h : Heap} (R : Rel c m ad σ h) {k : Nat} {o : AO} {a : Addr} (e : σ.objs[k]? = some o) (q : ad[k]? = some a) : RO ad h a o := by
  obtain ⟨a', q', r⟩ := R.objs k o e
  rw [q] at q'; cases q'; exact r
section
variable {P : Par} {n : Nat} {sc : Scope}
/-- may this name be stored here -/
noncomputable def Stor (sc : Scope) (caps : Str → Bool) (x : String) : Prop := sc.names.lookup (Str.ofString x) = some .local ∨ (sc.names.lookup (Str.ofString x) = some .cell ∧ caps (Str.ofString x) = false)
theorem store_av {c : Cx} {A : Around} {s : Shared} {m : Str → Option Value} {ad : List Addr} {σ : St} {x : String} {av : AV} {v : Value} {Q : Unit → Shared → Prop} {E : Value → Shared → Prop} (hc : CxOk P c) (hx : Stor c.env.scope c.caps x) (R : Rel c m ad σ s.heap) (rv : RV ad av v)
    (hQ : ∀ h' tk m', Rel c m' ad (σ.set x av) h' → (∃ a, (a = c.env.locals ∨ (c.env.kindOf (Str.ofString x) = some .cell ∧ c.caps (Str.ofString x) = false ∧ c.env.cells.lookup (Str.ofString x) = some a)) ∧ Heap.ExtBut a s.heap h') → Q () { s with heap := h', toks := tk }) : wpAny (model P.prog P.w) A (storeName c.env (Str.ofString x) v) Q E s := by
  rcases hx with hx | ⟨hx, hxc⟩
  · exact wpAny_storeName_local hx R.ns (fun h' hn hs => hQ h' _ _ (R.store hx rv hn hs) ⟨_, .inl rfl, hs.extBut⟩) (by rw [hc.kind]; rfl)
  · obtain ⟨a, ha⟩ := R.cellAll _ hx hxc
    obtain ⟨_, _, _, v₀, hv⟩ := R.cellOwn _ a hx hxc ha
    exact wpAny_storeName_cell hc.kind hx ha hv fun h' hcell hs => hQ h' s.toks _ (R.storeCell hx hxc ha rv hcell hs) ⟨a, .inr ⟨hx, hxc, ha⟩, hs.extBut⟩
theorem ItAt.keep {ad ad' : List Addr} (p : ad <+: ad') {h h' : Heap} {I : Addr} {fp : List Addr} {ik : IK} {i : Nat} (x : ItAt ad h I fp ik i) (hk : ∀ b ∈ fp, ∀ o, h.get? b = some o → h'.get? b = some o) : ItAt ad' h' I fp ik i := by
  cases ik with
  | list k => obtain ⟨rfl, ax, q, o, ho, r⟩ := x; exact ⟨rfl, ax, pre_get p q, o, hk I (by simp) o ho, r⟩
  | tup k => obtain ⟨rfl, ax, q, o, ho, r⟩ := x; exact ⟨rfl, ax, pre_get p q, o, hk I (by simp) o ho, r⟩
  | range a n => obtain ⟨rfl, hl, q⟩ := x; exact ⟨rfl, hl, hk I (by simp) _ q⟩
  | str y =>
    obtain ⟨rfl, t, q⟩ := x
    refine ⟨rfl, t, ?_⟩
    rcases q with ⟨o, ho, r⟩ | ⟨o, ho, r⟩
    · exact .inl ⟨o, hk I (by simp) o ho, r⟩
    · exact .inr ⟨o, hk I (by simp) o ho, r⟩
  | enum k =>
    obtain ⟨it, rfl, hne, ax, old, q, he, o, ho, r⟩ := x
    exact ⟨it, rfl, hne, ax, old, pre_get p q, hk I (by simp) _ he, o, hk it (by simp) o ho, r⟩
theorem ItAt.mem {ad : List Addr} {h : Heap} {I : Addr} {fp : List Addr} {ik : IK} {i : Nat} (x : ItAt ad h I fp ik i) : I ∈ fp := by
  cases ik with
  | list k => obtain ⟨rfl, _⟩ := x; simp
  | tup k => obtain ⟨rfl, _⟩ := x; simp
  | range a n => obtain ⟨rfl, _⟩ := x; simp
  | str y => obtain ⟨rfl, _⟩ := x; simp
  | enum k => obtain ⟨it, rfl, _⟩ := x; simp
/-- a target's names stored, from a value or from a fresh pair -/
theorem assign_one {c : Cx} {A : Around} {s : Shared} {m : Str → Option Value} {ad : List Addr} {σ : St} {x : String} {p : Pos} {av : AV} {v : Value} {Q : Unit → Shared → Prop} {E : Value → Shared → Prop} {fp : List Addr} (hc : CxOk P c) (hx : Stor c.env.scope c.caps x) (R : Rel c m ad σ s.heap) (rv : RV ad av v) (o : Off c ad fp)
    (hQ : ∀ h' tk m', Rel c m' ad (σ.set x av) h' → (∀ b ∈ fp, ∀ ob, s.heap.get? b = some ob → h'.get? b = some ob) → Q () { s with heap := h', toks := tk }) : wpAny (model P.prog P.w) A (assign (.Name (Str.ofString x) p) c.env v) Q E s := by
  refine wpAny_assign_Name (store_av hc hx R rv fun h' tk m' R' hk => hQ h' tk m' R' fun b hb ob e => ?_)
  obtain ⟨a, ha, hk⟩ := hk
  refine hk b ob (fun q => ?_) e
  subst q
  rcases ha with ha | ⟨hx, hxc, ha⟩
  · exact o.L b hb ha
  · exact o.C b hb _ hx hxc ha
noncomputable def TgStor (sc : Scope) (caps : Str → Bool) : Tg → Prop
  | .one x => Stor sc caps x
  | .two x y => Stor sc caps x ∧ Stor sc caps y
theorem assign_two {c : Cx} {A : Around} {s : Shared} {m : Str → Option Value} {ad : List Addr} {σ : St} {x y : String} {p q r : Pos} {k : Nat} {a b : AV} {T : Addr} {u v : Value} {Q : Unit → Shared → Prop} {E : Value → Shared → Prop} {fp : List Addr} (hA : AOk n A) (hc : CxOk P c)
    (hx : Stor c.env.scope c.caps x) (hy : Stor c.env.scope c.caps y) (R : Rel c m ad σ s.heap) (ht : s.heap.IsTuple T #[u, v]) (ra : RV ad a u) (rb : RV ad b v) (o : Off c ad fp) (hfp : ∀ b ∈ fp, b < s.heap.objs.size)
    (hQ : ∀ h' tk m', Rel c m' ad ((σ.set x a).set y b) h' → (∀ b ∈ fp, ∀ ob, s.heap.get? b = some ob → h'.get? b = some ob) → Q () { s with heap := h', toks := tk }) :
    wpAny (model P.prog P.w) A (assign (.Tuple [.Name (Str.ofString x) p, .Name (Str.ofString y) q] k r) c.env (.ref T)) Q E s := by
  refine wpAny_assign_Tuple hA.1 ht (by rfl) (by rfl) fun h1 hk1 => ?_
  have keep1 : ∀ b o, s.heap.get? b = some o → h1.get? b = some o := fun b o e => hk1 b o (Nat.ne_of_lt (Heap.lt_size e)) e
  have R1 := R.keeps keep1
  refine wpAny_assignInOrder_more (assign_one hc hx R1 ra o fun h2 tk2 m2 R2 k2 => ?_)
  refine wpAny_assignInOrder_more (assign_one hc hy R2 rb o fun h3 tk3 m3 R3 k3 => ?_)
  exact wpAny_pure (hQ h3 tk3 m3 R3 fun b hb ob e => k3 b hb ob (k2 b hb ob (keep1 b ob e)))
theorem letGo_plain {A : Around} {s : Shared} {target : Expr} {I : Addr} {v : Value} {o : Obj} {T : String} {vs : Array Value} {Q : Unit → Shared → Prop} {E : Value → Shared → Prop} (ho : s.heap.get? I = some o) (hc : o.cls = .type T) (hd : o.data = .fields vs)
    (hn : ["enumerate", "zip", "dict_itemiterator", "dict_reverseitemiterator", "odict_iterator", "itertools.zip_longest", "itertools.pairwise"].contains T = false) (hQ : Q () s) : wpAny (model P.prog P.w) A (letOwnedTupleGo target (.ref I) v) Q E s := by
  unfold letOwnedTupleGo
  split
  · cases v with
    | ref a => exact wpAny_bind (wpAny_load ho (by rw [hc, hd]; dsimp only; rw [hn]; exact wpAny_pure hQ))
    | _ => exact wpAny_pure hQ
  · cases v with
    | ref a => exact wpAny_bind (wpAny_load ho (by rw [hc, hd]; dsimp only; rw [hn]; exact wpAny_pure hQ))
    | _ => exact wpAny_pure hQ
  · exact wpAny_pure hQ
/-- a plain item handed to the target -/
theorem turn_av {c : Cx} {A : Around} {s : Shared} {m : Str → Option Value} {ad : List Addr} {σ : St} {target : Expr} {tg : Tg} {a : AV} {v : Value} {I : Addr} {fp : List Addr} {o : Obj} {T : String} {vs : Array Value} {Q : Unit → Shared → Prop} {E : Value → Shared → Prop}
    (hA : AOk n A) (hc : CxOk P c) (ht : TgE target tg) (hst : TgStor c.env.scope c.caps tg) (R : Rel c m ad σ s.heap) (ra : RV ad a v) (off : Off c ad fp) (hfp : ∀ b ∈ fp, b < s.heap.objs.size)
    (ho : s.heap.get? I = some o) (hcl : o.cls = .type T) (hd : o.data = .fields vs) (hn : ["enumerate", "zip", "dict_itemiterator", "dict_reverseitemiterator", "odict_iterator", "itertools.zip_longest", "itertools.pairwise"].contains T = false)
    {σ' : St} (hb : bindT tg (.av a) σ = some σ')
    (hQ : ∀ h' tk m', Rel c m' ad σ' h' → (∀ b ∈ fp, ∀ ob, s.heap.get? b = some ob → h'.get? b = some ob) → Q () { s with heap := h', toks := tk }) :
    wpAny (model P.prog P.w) A (letOwnedTupleGo target (.ref I) v) (fun _ s₂ => wpAny (model P.prog P.w) A (assign target c.env v) Q E s₂) E s := by
  refine letGo_plain ho hcl hd hn ?_
  cases ht with
  | one x p =>
    cases hb
    exact assign_one hc hst R ra off hQ
  | two x y p q r k =>
    cases a with
    | ref j =>
      cases ra with
      | ref _ T e =>
        have hb' : (match σ.objs[j]? with
          | some (.tup [a, b]) => some ((σ.set x a).set y b)
          | _ => none) = some σ' := hb
        split at hb'
        · rename_i a b hj
          cases hb'
          obtain ⟨us, hT, rs⟩ := (R.obj hj e).tup_at
          cases rs with
          | cons r1 rs => cases rs with
            | cons r2 rs => cases rs with
              | nil => exact assign_two hA hc hst.1 hst.2 R hT r1 r2 off hfp hQ
        · cases hb'
    | _ => cases hb
/-- an item's turn: the next item drawn, handed out, stored; or the end -/
theorem it_turn {c : Cx} {A : Around} {s : Shared} {m : Str → Option Value} {ad : List Addr} {σ : St} {target : Expr} {tg : Tg} {I : Addr} {fp : List Addr} {ik : IK} {i : Nat} {N : Shared → Prop} {Y : Shared → Prop} {E E2 : Value → Shared → Prop}
    (hA : AOk n A) (hc : CxOk P c) (ht : TgE target tg) (hst : TgStor c.env.scope c.caps tg) (R : Rel c m ad σ s.heap) (off : Off c ad fp) (hI : ItAt ad s.heap I fp ik i) (hik : IKok ik σ.objs)
    (hN : itemAt ik σ.objs i = none → ∀ h', Rel c m ad σ h' → (∀ b o, b ∉ fp → s.heap.get? b = some o → h'.get? b = some o) → N { s with heap := h' })
    (hY : ∀ it, itemAt ik σ.objs i = some it → ∃ σ', bindT tg it σ = some σ' ∧ ∀ h' tk m', Rel c m' ad σ' h' → ItAt ad h' I fp ik (i + 1) → Y { s with heap := h', toks := tk }) :
    wpAny (model P.prog P.w) A (pyNext (.ref I)) (fun r s₁ => match r with
      | none => N s₁
      | some v => wpAny (model P.prog P.w) A (letOwnedTupleGo target (.ref I) v) (fun _ s₂ => wpAny (model P.prog P.w) A (assign target c.env v) (fun _ => Y) E2 s₂) E2 s₁) E s := by
  have endOff : ∀ h', Heap.ExtBut I s.heap h' → I ∈ fp → (∀ b o, b ∉ fp → s.heap.get? b = some o → h'.get? b = some o) := fun h' e hm b o hb => e b o fun q => hb (q ▸ hm)
  have hm : I ∈ fp := hI.mem
  cases ik with
  | list k =>
    obtain ⟨vs, hvs⟩ := hik
    obtain ⟨rfl, ax, hax, hit⟩ := hI
    obtain ⟨us, hl, rs⟩ := (R.obj hvs hax).list_at
    have hal : ax < s.heap.objs.size := by obtain ⟨o, e, _⟩ := hl; exact Heap.lt_size e
    cases hv : vs[i]? with
    | none =>
      have hu : us.toArray[i]? = none := by
        have := rs.length
        rw [List.getElem?_eq_none_iff] at hv
        simp; lia  
      refine wpAny_pyNext_list_end hA.1 hit hl hu fun h' he => ?_
      have ko := endOff h' he hm
      exact hN (by simp [itemAt, hvs, hv]) h' (R.off off ko) ko
    | some a =>
      obtain ⟨u, hu, ra⟩ := rs.get hv
      refine wpAny_pyNext_list_item hit hl (x := u) (by simpa using hu) fun h' hit' hs => ?_
      have R' := R.off off (fun b o hb e => (hs.2 b (fun q => hb (by simp [q]))).trans e)
      obtain ⟨σ', hbind, hy⟩ := hY (.av a) (by simp [itemAt, hvs, hv])
      obtain ⟨o', ho', hc', hd'⟩ := id hit'
      refine turn_av hA hc ht hst R' ra off (fun b hb => by rw [List.mem_singleton.mp hb]; exact Heap.lt_size ho') ho' hc' hd' (by decide) hbind fun h2 tk2 m2 R2 k2 => ?_
      exact hy h2 tk2 m2 R2 ⟨rfl, ax, hax, o', k2 I (by simp) o' ho', hc', hd'⟩
  | tup k =>
    obtain ⟨vs, hvs⟩ := hik
    obtain ⟨rfl, ax, hax, hit⟩ := hI
    obtain ⟨us, hl, rs⟩ := (R.obj hvs hax).tup_at
    cases hv : vs[i]? with
    | none =>
      have hu : us.toArray[i]? = none := by
        have := rs.length
        rw [List.getElem?_eq_none_iff] at hv
        simp; lia  
      refine wpAny_pyNext_tuple_end hA.1 hit hl hu fun h' he => ?_
      have ko := endOff h' he hm
      exact hN (by simp [itemAt, hvs, hv]) h' (R.off off ko) ko
    | some a =>
      obtain ⟨u, hu, ra⟩ := rs.get hv
      refine wpAny_pyNext_tuple_item hit hl (x := u) (by simpa using hu) fun h' hit' hs => ?_
      have R' := R.off off (fun b o hb e => (hs.2 b (fun q => hb (by simp [q]))).trans e)
      obtain ⟨σ', hbind, hy⟩ := hY (.av a) (by simp [itemAt, hvs, hv])
      obtain ⟨o', ho', hc', hd'⟩ := id hit'
      refine turn_av hA hc ht hst R' ra off (fun b hb => by rw [List.mem_singleton.mp hb]; exact Heap.lt_size ho') ho' hc' hd' (by decide) hbind fun h2 tk2 m2 R2 k2 => ?_
      exact hy h2 tk2 m2 R2 ⟨rfl, ax, hax, o', k2 I (by simp) o' ho', hc', hd'⟩
  | range a k =>
    obtain ⟨rfl, hle, hit⟩ := hI
    by_cases hi : i < k
    · refine wpAny_pyNext_range_item hit (by lia  ) fun h' hit' hs => ?_
      have R' := R.off off (fun b o hb e => (hs.2 b (fun q => hb (by simp [q]))).trans e)
      obtain ⟨σ', hbind, hy⟩ := hY (.av (.int (a + i))) (by simp [itemAt, hi])
      refine turn_av (s := { s with heap := h', toks := s.toks + 1 }) hA hc ht hst R' (.int _ _) off (fun b hb => by rw [List.mem_singleton.mp hb]; exact Heap.lt_size hit') hit' rfl rfl (by decide) hbind fun h2 tk2 m2 R2 k2 => ?_
      refine hy h2 tk2 m2 R2 ⟨rfl, hi, ?_⟩
      have := k2 I (by simp) _ hit'
      have e1 : a + (i : Int) + 1 = a + ((i + 1 : Nat) : Int) := by lia  
      have e2 : (k : Int) - i - 1 = (k : Int) - ((i + 1 : Nat) : Int) := by lia  
      rw [e1, e2] at this
      exact this
    · refine wpAny_pyNext_range_end hA.1 hit (by lia  ) fun h' he => ?_
      have ko := endOff h' he hm
      exact hN (by simp [itemAt, hi]) h' (R.off off ko) ko
  | str x =>
    obtain ⟨rfl, t, hit⟩ := hI
    cases hv : x.cps[i]? with
    | none =>
      rcases hit with hit | hit
      · refine wpAny_pyNext_ascii_end hA.1 hit hv fun h' he => ?_
        have ko := endOff h' he hm
        exact hN (by simp [itemAt, hv]) h' (R.off off ko) ko
      · refine wpAny_pyNext_wide_end hA.1 hit hv fun h' he => ?_
        have ko := endOff h' he hm
        exact hN (by simp [itemAt, hv]) h' (R.off off ko) ko
    | some ch =>
      obtain ⟨σ', hbind, hy⟩ := hY (.av (.str ⟨#[ch]⟩)) (by simp [itemAt, hv])
      rcases hit with hit | hit
      · refine wpAny_pyNext_ascii_item hit hv fun h' hit' hs => ?_
        have R' := R.off off (fun b o hb e => (hs.2 b (fun q => hb (by simp [q]))).trans e)
        obtain ⟨o', ho', hc', hd'⟩ := id hit'
        refine turn_av (s := { s with heap := h', toks := s.toks + 1 }) hA hc ht hst R' (.str _ _) off (fun b hb => by rw [List.mem_singleton.mp hb]; exact Heap.lt_size ho') ho' hc' hd' (by decide) hbind fun h2 tk2 m2 R2 k2 => ?_
        exact hy h2 tk2 m2 R2 ⟨rfl, t, .inl ⟨o', k2 I (by simp) o' ho', hc', hd'⟩⟩
      · refine wpAny_pyNext_wide_item hit hv fun h' hit' hs => ?_
        have R' := R.off off (fun b o hb e => (hs.2 b (fun q => hb (by simp [q]))).trans e)
        obtain ⟨o', ho', hc', hd'⟩ := id hit'
        refine turn_av (s := { s with heap := h', toks := s.toks + 1 }) hA hc ht hst R' (.str _ _) off (fun b hb => by rw [List.mem_singleton.mp hb]; exact Heap.lt_size ho') ho' hc' hd' (by decide) hbind fun h2 tk2 m2 R2 k2 => ?_
        exact hy h2 tk2 m2 R2 ⟨rfl, t, .inr ⟨o', k2 I (by simp) o' ho', hc', hd'⟩⟩
  | enum k =>
    obtain ⟨vs, hvs⟩ := hik
    obtain ⟨it, rfl, hne, ax, old, hax, he, hit⟩ := hI
    obtain ⟨us, hl, rs⟩ := (R.obj hvs hax).list_at
    cases hv : vs[i]? with
    | none =>
      have hu : us.toArray[i]? = none := by
        have := rs.length
        rw [List.getElem?_eq_none_iff] at hv
        simp; lia  
      refine wpAny_pyNext_enum_end hA.1 he hit hl hu fun h' hx => ?_
      have ko : ∀ b o, b ∉ [I, it] → s.heap.get? b = some o → h'.get? b = some o := fun b o hb e => hx b o (fun q => hb (by simp [q])) e
      exact hN (by simp [itemAt, hvs, hv]) h' (R.off off ko) ko
    | some a =>
      obtain ⟨u, hu, ra⟩ := rs.get hv
      refine wpAny_pyNext_enum_item he hit hl (x := u) (by simpa using hu) hne fun h' hout hit' htup hsz hk => ?_
      have R' := R.off off (fun b o hb e => hk b o (fun q => hb (by simp [q])) (fun q => hb (by simp [q])) e)
      obtain ⟨σ', hbind, hy⟩ := hY (.pair (.int i) a) (by simp [itemAt, hvs, hv])
      cases ht with
      | one x p => cases hbind
      | two x y p q r kk =>
        cases hbind
        refine wpAny_letOwnedTupleGo_enum hout fun h2 he2 hs2 => ?_
        have R2 := R'.off off (fun b o hb e => (hs2.2 b (fun q => hb (by simp [q]))).trans e)
        have hneT : s.heap.objs.size ≠ I := fun q => Nat.lt_irrefl _ (q ▸ Heap.lt_size he : s.heap.objs.size < s.heap.objs.size)
        have hT2 : h2.IsTuple s.heap.objs.size #[.int i s.toks, u] := ⟨_, (hs2.2 _ hneT).trans htup, rfl, _, rfl⟩
        have hit2 : h2.IsListIter it ax (i + 1) := hit'.extBut hs2.extBut (Ne.symm hne)
        obtain ⟨o', ho', hc', hd'⟩ := id hit2
        refine assign_two (s := { s with heap := h2, toks := s.toks + 1 }) hA hc hst.1 hst.2 R2 hT2 (.int _ _) ra off (fun b hb => ?_) fun h3 tk3 m3 R3 k3 => ?_
        · rcases List.mem_cons.mp hb with q | q
          · rw [q]; exact Heap.lt_size he2
          · rw [List.mem_singleton.mp q]; exact Heap.lt_size ho'
        · exact hy h3 tk3 m3 R3 ⟨it, rfl, hne, ax, u, hax, by have := k3 I (by simp) _ he2; simpa using this, o', k3 it (by simp) o' ho', hc', hd'⟩
theorem it_turn_T {tk : Nat} {c : Cx} {A : Around} {s : Shared} {m : Str → Option Value} {ad : List Addr} {σ : St} {target : Expr} {tg : Tg} {I : Addr} {fp : List Addr} {ik : IK} {i : Nat} {N : Shared → Prop} {Y : Shared → Prop} {E E2 : Value → Shared → Prop}
    (hT : tk ≤ s.toks) (hA : AOk n A) (hc : CxOk P c) (ht : TgE target tg) (hst : TgStor c.env.scope c.caps tg) (R : Rel c m ad σ s.heap) (off : Off c ad fp) (hI : ItAt ad s.heap I fp ik i) (hik : IKok ik σ.objs)
    (hN : itemAt ik σ.objs i = none → ∀ h', Rel c m ad σ h' → (∀ b o, b ∉ fp → s.heap.get? b = some o → h'.get? b = some o) → N { s with heap := h' })
    (hY : ∀ it, itemAt ik σ.objs i = some it → ∃ σ', bindT tg it σ = some σ' ∧ ∀ h' tk' m', tk ≤ tk' → Rel c m' ad σ' h' → ItAt ad h' I fp ik (i + 1) → Y { s with heap := h', toks := tk' }) :
    wpAny (model P.prog P.w) A (pyNext (.ref I)) (fun r s₁ => match r with
      | none => N s₁
      | some v => wpAny (model P.prog P.w) A (letOwnedTupleGo target (.ref I) v) (fun _ s₂ => wpAny (model P.prog P.w) A (assign target c.env v) (fun _ => Y) E2 s₂) E2 s₁) E s := by
  have h := it_turn (E := E) (E2 := E2) (N := N) (Y := fun s' => tk ≤ s'.toks → Y s') hA hc ht hst R off hI hik hN fun it hit => by
    obtain ⟨σ', hb, h⟩ := hY it hit
    exact ⟨σ', hb, fun h' tk' m' R' hI' hT' => h h' tk' m' hT' R' hI'⟩
  refine wpAny_mono (wpAny_toks_of hT h) (fun r s₁ x => ?_) fun _ _ x => x.2
  obtain ⟨h1, x⟩ := x
  cases r with
  | none => exact x
  | some v =>
    refine wpAny_mono (wpAny_toks_of h1 x) (fun _ s₂ y => ?_) fun _ _ y => y.2
    exact wpAny_mono (wpAny_toks_of y.1 y.2) (fun _ s₃ z => z.2 z.1) fun _ _ z => z.2
end
end Mine
end P2
section P3
set_option maxRecDepth 100000
set_option Elab.async false
set_option autoImplicit false
set_option linter.unusedSimpArgs false
set_option linter.unusedVariables false
namespace Mine
open PySem PyProof.Rows
/-- where a statement ends -/
inductive AF where
  | next
  | ret (a : AV)
inductive RF (ad : List Addr) : AF → Flow → Prop
  | next : RF ad .next .next
  | ret {a : AV} {v : Value} (h : RV ad a v) : RF ad (.ret a) (.ret v)
noncomputable abbrev VS := AF → St → Prop
noncomputable abbrev WS := St → VS → Prop
noncomputable def PostS (c : Cx) (ad : List Addr) (s : Shared) (Q : VS) (Q' : Flow → Shared → Prop) : Prop :=
  ∀ h' tk f m' ad' σ' af, Rel c m' ad' σ' h' → ad <+: ad' → RF ad' af f → Q af σ' → Q' f { s with heap := h', toks := tk }
noncomputable def EvX (P : Par) (n : Nat) (sc : Scope) (st : Stmt) (p : WS) : Prop :=
  ∀ (c : Cx) (A : Around) (s : Shared) (m : Str → Option Value) (ad : List Addr) (σ : St) (Q : VS) (Q' : Flow → Shared → Prop) (E : Value → Shared → Prop),
    CxOk P c → c.env.scope = sc → (∀ x, c.caps x = false) → AOk n A → Rel c m ad σ s.heap → p σ Q → PostS c ad s Q Q' → wpAny (model P.prog P.w) A (exec st c.env) Q' E s
noncomputable def EvS (P : Par) (n : Nat) (sc : Scope) (sts : List Stmt) (p : WS) : Prop :=
  ∀ (c : Cx) (A : Around) (s : Shared) (m : Str → Option Value) (ad : List Addr) (σ : St) (Q : VS) (Q' : Flow → Shared → Prop) (E : Value → Shared → Prop),
    CxOk P c → c.env.scope = sc → (∀ x, c.caps x = false) → AOk n A → Rel c m ad σ s.heap → p σ Q → PostS c ad s Q Q' → wpAny (model P.prog P.w) A (execs sts c.env) Q' E s
/-- an iterable -/
noncomputable abbrev WI := St → (IK → List AO → Prop) → Prop
noncomputable def EvI (P : Par) (n : Nat) (sc : Scope) (e : Expr) (p : WI) : Prop :=
  ∀ (c : Cx) (A : Around) (s : Shared) (m : Str → Option Value) (ad : List Addr) (σ : St) (Q : IK → List AO → Prop) (Q' : Value → Shared → Prop) (E : Value → Shared → Prop),
    CxOk P c → c.env.scope = sc → AOk n A → Rel c m ad σ s.heap → p σ Q →
    (∀ h' tk ad' os' ik I fp, Rel c m ad' ⟨σ.vars, os'⟩ h' → ad <+: ad' → ItAt ad' h' I fp ik 0 → Off c ad' fp → IKok ik os' → Q ik os' → Q' (.ref I) { s with heap := h', toks := tk }) →
    wpAny (model P.prog P.w) A (eval e c.env) (fun x s₁ => wpAny (model P.prog P.w) A (pyIter x) Q' E s₁) E s
section
variable {P : Par} {n : Nat} {sc : Scope}
theorem off_fresh {c : Cx} {m : Str → Option Value} {ad : List Addr} {σ : St} {h : Heap} {fp : List Addr} (R : Rel c m ad σ h) (hf : ∀ b ∈ fp, h.objs.size ≤ b) : Off c ad fp where
  B := fun b hb => by
    cases e : c.B b with
    | none => rfl
    | some o => exact absurd (Heap.lt_size (R.keep b o e)) (Nat.not_lt.mpr (hf b hb))
  L := fun b hb q => by
    obtain ⟨_, _, _, e, _⟩ := R.ns
    exact absurd (Heap.lt_size e) (Nat.not_lt.mpr (q ▸ hf b hb))
  A := fun b hb hm => by
    obtain ⟨o, e⟩ := R.alive hm
    exact absurd (Heap.lt_size e) (Nat.not_lt.mpr (hf b hb))
  C := fun b hb x k kc e => by
    obtain ⟨_, _, _, v, o, ho, _⟩ := R.cellOwn x b k kc e
    exact absurd (Heap.lt_size ho) (Nat.not_lt.mpr (hf b hb))
theorem Off.mono {c : Cx} {ad ad' : List Addr} {fp : List Addr} (o : Off c ad fp) (hA : ∀ b ∈ fp, b ∉ ad') : Off c ad' fp := ⟨o.B, o.L, hA, o.C⟩
noncomputable def aIter : AV → List AO → Option IK
  | .ref k, os => match os[k]? with
    | some (.list _) => some (.list k)
    | some (.tup _) => some (.tup k)
    | _ => none
  | .str x, _ => some (.str x)
  | _, _ => none
noncomputable def wIter (p : WE) : WI := fun σ Q => p σ fun a o => ∃ ik, aIter a o = some ik ∧ Q ik o
theorem ei_val {e : Expr} {p : WE} (h : EvE P n sc e p) : EvI P n sc e (wIter p) := fun c A s m ad σ Q Q' E hc hs hA R hp hQ => by
  refine h c A s m ad σ _ _ _ hc hs hA R hp fun h1 tk1 v1 ad1 os1 a1 R1 p1 r1 q1 => ?_
  obtain ⟨ik, hik, q⟩ := q1
  have off := off_fresh (fp := [h1.objs.size]) R1 (fun b hb => by rw [List.mem_singleton.mp hb]; exact Nat.le_refl _)
  have push : ∀ o, Rel c m ad1 ⟨σ.vars, os1⟩ (h1.push o) := fun o => R1.keeps fun b ob e => Heap.get?_push_of_some _ e
  cases r1 with
  | ref k a e =>
    have hik' : (match os1[k]? with
      | some (.list _) => some (IK.list k)
      | some (.tup _) => some (IK.tup k)
      | _ => none) = some ik := hik
    clear hik
    split at hik'
    · rename_i vs hk
      cases hik'
      obtain ⟨us, hl, rs⟩ := (R1.obj hk e).list_at
      exact wpAny_pyIter_list hl (hQ _ tk1 ad1 os1 (.list k) _ [_] (push _) p1 ⟨rfl, a, e, _, Heap.get?_push_size _ rfl, rfl, rfl⟩ off ⟨vs, hk⟩ q)
    · rename_i vs hk
      cases hik'
      obtain ⟨us, hl, rs⟩ := (R1.obj hk e).tup_at
      exact wpAny_pyIter_tuple hl (hQ _ tk1 ad1 os1 (.tup k) _ [_] (push _) p1 ⟨rfl, a, e, _, Heap.get?_push_size _ rfl, rfl, rfl⟩ off ⟨vs, hk⟩ q)
    · cases hik'
  | str x t =>
    cases hik
    cases ha : x.cps.all (· < 128) with
    | true => exact wpAny_pyIter_ascii ha (hQ _ tk1 ad1 os1 (.str x) _ [_] (push _) p1 ⟨rfl, t, .inl ⟨_, Heap.get?_push_size _ rfl, rfl, rfl⟩⟩ off trivial q)
    | false => exact wpAny_pyIter_wide ha (hQ _ tk1 ad1 os1 (.str x) _ [_] (push _) p1 ⟨rfl, t, .inr ⟨_, Heap.get?_push_size _ rfl, rfl, rfl⟩⟩ off trivial q)
  | _ => cases hik
/-- an int that a range takes -/
noncomputable def fitR (a : Int) : Prop := -1000000000 ≤ a ∧ a ≤ 1000000000
theorem small_of {a b : Int} (ha : fitR a) (hb : fitR b) : Builtin.Range.small a b 1 = true := by
  obtain ⟨a1, a2⟩ := ha
  obtain ⟨b1, b2⟩ := hb
  unfold Builtin.Range.small
  rw [rangeSize_nat]
  unfold Builtin.Range.rangeFitsLong
  simp only [Bool.and_eq_true, Bool.or_eq_true, beq_iff_eq, decide_eq_true_eq]
  have e : (1 : Int) > 0 := by decide
  simp only [e, if_true, decide_eq_true_eq, Bool.and_eq_true]
  lia  
theorem range_iter {c : Cx} {A : Around} {s : Shared} {m : Str → Option Value} {ad : List Addr} {vars : Vs} {os : List AO} {r : Addr} {a b : Int} {t u v : Tok} {Q : IK → List AO → Prop} {Q' : Value → Shared → Prop} {E : Value → Shared → Prop}
    (R : Rel c m ad ⟨vars, os⟩ s.heap) (hr : IsRange s.heap r a b 1 t u v) (ha : fitR a) (hb : fitR b) (q : Q (.range a (b - a).toNat) os)
    (hQ : ∀ h' tk ad' os' ik I fp, Rel c m ad' ⟨vars, os'⟩ h' → ad <+: ad' → ItAt ad' h' I fp ik 0 → Off c ad' fp → IKok ik os' → Q ik os' → Q' (.ref I) { s with heap := h', toks := tk }) :
    wpAny (model P.prog P.w) A (pyIter (.ref r)) Q' E s := by
  refine wpAny_pyIter_range hr (small_of ha hb) ?_
  refine hQ _ s.toks ad os (.range a (b - a).toNat) _ [s.heap.objs.size] (R.keeps fun b ob e => Heap.get?_push_of_some _ e) (List.prefix_refl _) ⟨rfl, Nat.zero_le _, ?_⟩ (off_fresh R (fun b hb => by rw [List.mem_singleton.mp hb]; exact Nat.le_refl _)) trivial q
  rw [rangeSize_nat]
  have := Heap.get?_push_size s.heap (o := { cls := .type "range_iterator", data := .fields #[rawInt a, rawInt ((b - a).toNat : Int), rawInt 1] }) rfl
  simpa using this
noncomputable def wRange1 (q : WL) : WI := fun σ Q => q σ fun as o => ∃ b, as = [.int b] ∧ fitR b ∧ Q (.range 0 (b - 0).toNat) o
noncomputable def wRange2 (q : WL) : WI := fun σ Q => q σ fun as o => ∃ a b, as = [.int a, .int b] ∧ fitR a ∧ fitR b ∧ Q (.range a (b - a).toNat) o
noncomputable def wEnum (q : WL) : WI := fun σ Q => q σ fun as o => ∃ k vs, as = [.ref k] ∧ o[k]? = some (.list vs) ∧ Q (.enum k) o
theorem callI {x : String} {np pos : Pos} {es : List Expr} {q : WL} {f : Value} {K : List AV → List AO → Prop} {c : Cx} {A : Around} {s : Shared} {m : Str → Option Value} {ad : List Addr} {σ : St} {Q' : Value → Shared → Prop} {E : Value → Shared → Prop}
    (hf : EvE P n sc (.Name (Str.ofString x) np) (wLit (.lit f))) (hk : KeeperOk P f) (ha : EvL P n sc es q) (hst : ∀ env pos, (backTo pos (starEach es env)).any (·.1) = false)
    (hc : CxOk P c) (hs : c.env.scope = sc) (hA : AOk n A) (R : Rel c m ad σ s.heap) (hp : q σ K)
    (h : ∀ h1 tk1 ad1 os1 as vs, Rel c m ad1 ⟨σ.vars, os1⟩ h1 → ad <+: ad1 → RVs ad1 as vs → K as os1 → wpAny (model P.prog P.w) A (call f vs) Q' E { s with heap := h1, toks := tk1 }) :
    wpAny (model P.prog P.w) A (eval (.Call (.Name (Str.ofString x) np) es [] pos) c.env) Q' E s := by
  refine wpAny_Call_ofName (hf c A s m ad σ (fun a o => a = .lit f ∧ o = σ.objs) _ _ hc hs hA R ⟨rfl, rfl⟩ fun h1 tk1 v1 ad1 os1 a1 R1 p1 r1 q1 => ?_)
  obtain ⟨rfl, rfl⟩ := q1
  cases r1
  exact PySem.W.callWith_of (P := P.GF) (by rw [hst]; rfl) hk (evalArgs_any (hst _ _) (ha c A _ m ad1 σ pos _ _ _ hc hs hA R1 hp fun h2 tk2 vs2 ad2 os2 as2 R2 p2 r2 q2 => ⟨hc.gf _ R2.keep, h h2 tk2 ad2 os2 as2 vs2 R2 (p1.trans p2) r2 q2⟩))
theorem ei_range1 {np pos : Pos} {es : List Expr} {q : WL} (hf : EvE P n sc (.Name (Str.ofString "range") np) (wLit (.lit (.type "range")))) (h : EvL P n sc es q)
    (hst : ∀ env pos, (backTo pos (starEach es env)).any (·.1) = false := by intro _ _; rfl) : EvI P n sc (.Call (.Name (Str.ofString "range") np) es [] pos) (wRange1 q) := fun c A s m ad σ Q Q' E hc hs hA R hp hQ =>
  callI hf (keeper_type "range") h hst hc hs hA R hp fun h1 tk1 ad1 os1 as vs R1 p1 r1 q1 => by
    obtain ⟨b, rfl, hb, q1⟩ := q1
    cases r1 with
    | cons r1 rs => cases r1; cases rs with
      | nil =>
        refine range1_rows R1.fr R1.news fun h2 tk2 t u v hr _ _ hk => ?_
        exact range_iter (s := { s with heap := h2, toks := tk2 }) (R1.keeps hk) hr ⟨by lia  , by lia  ⟩ hb q1 fun h3 tk3 ad3 os3 ik I fp R3 p3 it off ok q3 => hQ h3 tk3 ad3 os3 ik I fp R3 (p1.trans p3) it off ok q3
theorem ei_range2 {np pos : Pos} {es : List Expr} {q : WL} (hf : EvE P n sc (.Name (Str.ofString "range") np) (wLit (.lit (.type "range")))) (h : EvL P n sc es q)
    (hst : ∀ env pos, (backTo pos (starEach es env)).any (·.1) = false := by intro _ _; rfl) : EvI P n sc (.Call (.Name (Str.ofString "range") np) es [] pos) (wRange2 q) := fun c A s m ad σ Q Q' E hc hs hA R hp hQ =>
  callI hf (keeper_type "range") h hst hc hs hA R hp fun h1 tk1 ad1 os1 as vs R1 p1 r1 q1 => by
    obtain ⟨a, b, rfl, ha, hb, q1⟩ := q1
    cases r1 with
    | cons r1 rs => cases r1; cases rs with
      | cons r2 rs => cases r2; cases rs with
        | nil =>
          refine range2_rows R1.fr R1.news fun h2 tk2 t u v hr _ _ hk => ?_
          exact range_iter (s := { s with heap := h2, toks := tk2 }) (R1.keeps hk) hr ha hb q1 fun h3 tk3 ad3 os3 ik I fp R3 p3 it off ok q3 => hQ h3 tk3 ad3 os3 ik I fp R3 (p1.trans p3) it off ok q3
theorem ei_enum {np pos : Pos} {es : List Expr} {q : WL} (hf : EvE P n sc (.Name (Str.ofString "enumerate") np) (wLit (.lit (.type "enumerate")))) (h : EvL P n sc es q)
    (hst : ∀ env pos, (backTo pos (starEach es env)).any (·.1) = false := by intro _ _; rfl) : EvI P n sc (.Call (.Name (Str.ofString "enumerate") np) es [] pos) (wEnum q) := fun c A s m ad σ Q Q' E hc hs hA R hp hQ =>
  callI hf (keeper_type "enumerate") h hst hc hs hA R hp fun h1 tk1 ad1 os1 as vs R1 p1 r1 q1 => by
    obtain ⟨k, us, rfl, hk, q1⟩ := q1
    cases r1 with
    | cons r1 rs => cases rs with
      | nil => cases r1 with
        | ref _ ax e =>
          obtain ⟨vs, hl, rs⟩ := (R1.obj hk e).list_at
          refine call_enumerate_list hl fun h2 he hit hsz hk2 => ?_
          refine wpAny_pyIter_enum (s := { s with heap := h2, toks := tk1 }) he ?_
          refine hQ h2 tk1 ad1 os1 (.enum k) _ [h1.objs.size + 1, h1.objs.size] (R1.keeps hk2) p1 ⟨_, rfl, by simp, ax, .none, e, by simpa using he, hit⟩ (off_fresh R1 (fun b hb => ?_)) ⟨us, hk⟩ q1
          rcases List.mem_cons.mp hb with q | q
          · rw [q]; exact Nat.le_succ _
          · rw [List.mem_singleton.mp q]; exact Nat.le_refl _
noncomputable def wSeq (p q : WS) : WS := fun σ Q => p σ fun f σ' => match f with
  | .next => q σ' Q
  | .ret a => Q (.ret a) σ'
noncomputable def wSkip : WS := fun σ Q => Q .next σ
theorem PostS.pre {c : Cx} {ad ad₁ : List Addr} {s : Shared} {Q : VS} {Q' : Flow → Shared → Prop} (h : PostS c ad s Q Q') (p : ad <+: ad₁) (h₁ : Heap) (tk₁ : Nat) :
    PostS c ad₁ { s with heap := h₁, toks := tk₁ } Q Q' := fun h' tk f m' ad' σ' af R pr rf q => h h' tk f m' ad' σ' af R (p.trans pr) rf q
theorem es_nil : EvS P n sc [] wSkip := fun c A s m ad σ Q Q' E hc hs hcp hA R hp hQ => wpAny_execs_nil (hQ s.heap s.toks .next m ad σ .next R (List.prefix_refl _) .next hp)
theorem es_cons {st : Stmt} {rest : List Stmt} {p q : WS} (h : EvX P n sc st p) (hr : EvS P n sc rest q) : EvS P n sc (st :: rest) (wSeq p q) := fun c A s m ad σ Q Q' E hc hs hcp hA R hp hQ => by
  refine wpAny_execs_cons (h c A s m ad σ _ _ _ hc hs hcp hA R hp fun h1 tk1 f1 m1 ad1 σ1 af R1 p1 r1 q1 => ?_)
  cases r1 with
  | next => exact hr c A _ m1 ad1 σ1 _ _ _ hc hs hcp hA R1 q1 (hQ.pre p1 h1 tk1)
  | ret r => exact hQ h1 tk1 _ m1 ad1 σ1 _ R1 p1 (.ret r) q1
noncomputable def wRet (p : WE) : WS := fun σ Q => p σ fun a o => Q (.ret a) ⟨σ.vars, o⟩
theorem ex_ret {e : Expr} {pos : Pos} {p : WE} (h : EvE P n sc e p) : EvX P n sc (.Return (some e) pos) (wRet p) := fun c A s m ad σ Q Q' E hc hs hcp hA R hp hQ =>
  wpAny_Return_some (h c A s m ad σ _ _ _ hc hs hA R hp fun h1 tk1 v1 ad1 os1 a1 R1 p1 r1 q1 => hQ h1 tk1 _ m ad1 _ _ R1 p1 (.ret r1) q1)
noncomputable def wSet (x : String) (p : WE) : WS := fun σ Q => p σ fun a o => Q .next (St.set ⟨σ.vars, o⟩ x a)
theorem Stor.mono {caps : Str → Bool} {x : String} (h : sc.names.lookup (Str.ofString x) = some .local ∨ sc.names.lookup (Str.ofString x) = some .cell) (hcp : ∀ x, caps x = false) : Stor sc caps x := h.imp id fun q => ⟨q, hcp _⟩
noncomputable abbrev Own (sc : Scope) (x : String) : Prop := sc.names.lookup (Str.ofString x) = some .local ∨ sc.names.lookup (Str.ofString x) = some .cell
theorem ex_assign {x : String} {xp pos : Pos} {e : Expr} {p : WE} (hx : Own sc x) (h : EvE P n sc e p)
    (hs' : ∀ env : Env, env.scope = sc → swapsWith e (some (.Name (Str.ofString x) xp)) pos.line env = pure false := by intro _ _; rfl) : EvX P n sc (.Assign [.Name (Str.ofString x) xp] e pos) (wSet x p) := fun c A s m ad σ Q Q' E hc hs hcp hA R hp hQ => by
  refine wpAny_Assign_Name (h c A s m ad σ _ _ _ hc hs hA R hp fun h1 tk1 v1 ad1 os1 a1 R1 p1 r1 q1 => ?_) (hs' _ hs)
  exact store_av hc (by rw [hs]; exact Stor.mono hx hcp) R1 r1 fun h2 tk2 m2 R2 _ => hQ h2 tk2 .next m2 ad1 _ .next R2 p1 .next q1
noncomputable def wIf (t : WB) (p q : WS) : WS := fun σ Q => t σ fun b o => (b = true → p ⟨σ.vars, o⟩ Q) ∧ (b = false → q ⟨σ.vars, o⟩ Q)
theorem ex_if {t : Expr} {b1 b2 : List Stmt} {pos : Pos} {tw : WB} {p q : WS} (ht : EvB P n sc t tw) (h1 : EvS P n sc b1 p) (h2 : EvS P n sc b2 q) : EvX P n sc (.If t b1 b2 pos) (wIf tw p q) := fun c A s m ad σ Q Q' E hc hs hcp hA R hp hQ => by
  refine wpAny_If (ht c A s m ad σ _ _ _ hc hs hA R hp fun g1 tk1 ad1 os1 b R1 p1 q1 => ?_)
  cases b with
  | true => exact h1 c A _ m ad1 ⟨σ.vars, os1⟩ _ _ _ hc hs hcp hA R1 (q1.1 rfl) (hQ.pre p1 g1 tk1)
  | false => exact h2 c A _ m ad1 ⟨σ.vars, os1⟩ _ _ _ hc hs hcp hA R1 (q1.2 rfl) (hQ.pre p1 g1 tk1)
noncomputable def wExpr (p : WE) : WS := fun σ Q => p σ fun _ o => Q .next ⟨σ.vars, o⟩
theorem ex_expr {e : Expr} {pos : Pos} {p : WE} (h : EvE P n sc e p) (hs' : ∀ env, swapsWith e none pos.line env = pure false := by intro _; rfl) : EvX P n sc (.Expr e pos) (wExpr p) := fun c A s m ad σ Q Q' E hc hs hcp hA R hp hQ =>
  wpAny_Expr_any (h c A s m ad σ _ _ _ hc hs hA R hp fun h1 tk1 v1 ad1 os1 a1 R1 p1 r1 q1 => hQ h1 tk1 _ m ad1 _ _ R1 p1 .next q1)
    (by unfold interactive; rw [hc.kind]; rfl) (hs' _)
/-- the frame while an iterator stands -/
noncomputable def Cx.with (c : Cx) (h : Heap) (fp : List Addr) : Cx := { c with B := fun b => if b ∈ fp then h.get? b else c.B b }
theorem CxOk.with {c : Cx} (hc : CxOk P c) {h : Heap} {ad fp : List Addr} (off : Off c ad fp) : CxOk P (c.with h fp) := ⟨hc.gl, hc.bu, hc.kind, fun h' hk => hc.gf h' fun b o e => hk b o (by
  show (if b ∈ fp then h.get? b else c.B b) = some o
  rw [if_neg (fun hm => by rw [off.B b hm] at e; cases e)]; exact e)⟩
theorem Rel.with {c : Cx} {m : Str → Option Value} {ad : List Addr} {σ : St} {h : Heap} {fp : List Addr} (R : Rel c m ad σ h) (off : Off c ad fp) : Rel (c.with h fp) m ad σ h :=
  R.base _ (fun b o e => by
      by_cases hm : b ∈ fp
      · rw [if_pos hm] at e; exact e
      · rw [if_neg hm] at e; exact R.keep b o e)
    (by rw [if_neg (fun hm => off.L _ hm rfl)]; exact R.bL)
    (fun x a k kc e => by rw [if_neg (fun hm => off.C a hm x k kc e)]; exact (R.cellOwn x a k kc e).1)
    (fun x a k e => by obtain ⟨o, ho⟩ := R.cellFree x a k e; exact ⟨o, by rw [if_neg (fun hm => by rw [off.B a hm] at ho; cases ho)]; exact ho⟩)
    (fun k a hk e => by rw [if_neg (fun hm => off.A a hm (List.mem_of_getElem? e))]; exact R.fresh k a hk e)
theorem Rel.without {c : Cx} {m m₀ : Str → Option Value} {ad ad₀ : List Addr} {σ σ₀ : St} {h h₀ : Heap} {fp : List Addr} (R : Rel (c.with h₀ fp) m ad σ h) (R₀ : Rel c m₀ ad₀ σ₀ h₀) (off : Off c ad₀ fp) (hp : ad₀ <+: ad) (hal : ∀ b ∈ fp, ∃ o, h₀.get? b = some o) :
    Rel c m ad σ h ∧ Off c ad fp ∧ ∀ b ∈ fp, ∀ o, h₀.get? b = some o → h.get? b = some o := by
  have offA : ∀ b ∈ fp, b ∉ ad := fun b hm ha => by
    obtain ⟨k, hk⟩ := List.getElem?_of_mem ha
    by_cases hk' : k < ad₀.length
    · refine off.A b hm (List.mem_of_getElem? (i := k) ?_)
      obtain ⟨r, rfl⟩ := hp
      rw [List.getElem?_append_left hk'] at hk; exact hk
    · have := R.fresh k b (Nat.le_trans R₀.roLe (Nat.not_lt.mp hk')) hk
      obtain ⟨o, ho⟩ := hal b hm
      have e : (c.with h₀ fp).B b = h₀.get? b := if_pos hm
      rw [e, ho] at this; cases this
  refine ⟨?_, ⟨off.B, off.L, offA, off.C⟩, fun b hm o e => R.keep b o (by show (if b ∈ fp then h₀.get? b else c.B b) = some o; rw [if_pos hm]; exact e)⟩
  refine Rel.base (c := c.with h₀ fp) R c.B (fun b o e => R.keep b o (by show (if b ∈ fp then h₀.get? b else c.B b) = some o; rw [if_neg (fun hm => by rw [off.B b hm] at e; cases e)]; exact e)) R₀.bL
    (fun x a k kc e => (R₀.cellOwn x a k kc e).1) (fun x a k e => R₀.cellFree x a k e) (fun k a hk e => ?_)
  have h1 := R.fresh k a hk e
  have h2 : (if a ∈ fp then h₀.get? a else c.B a) = none := h1
  rwa [if_neg (fun hm => offA a hm (List.mem_of_getElem? e))] at h2
noncomputable def forW (ik : IK) (tg : Tg) (body : WS) (Q : VS) : Nat → Nat → St → Prop
  | 0, _, _ => False
  | f + 1, i, σ => IKok ik σ.objs ∧ match itemAt ik σ.objs i with
    | none => Q .next σ
    | some it => match bindT tg it σ with
      | none => False
      | some σ' => body σ' fun fl σ'' => match fl with
        | .next => forW ik tg body Q f (i + 1) σ''
        | .ret a => Q (.ret a) σ''
noncomputable def wFor (it : WI) (tg : Tg) (body : WS) : WS := fun σ Q => it σ fun ik o => ∃ f, forW ik tg body Q f 0 ⟨σ.vars, o⟩
theorem ItAt.alive {ad : List Addr} {h : Heap} {I : Addr} {fp : List Addr} {ik : IK} {i : Nat} (x : ItAt ad h I fp ik i) : ∀ b ∈ fp, ∃ o, h.get? b = some o := by
  cases ik with
  | list k => obtain ⟨rfl, ax, q, o, ho, r⟩ := x; intro b hb; rw [List.mem_singleton.mp hb]; exact ⟨o, ho⟩
  | tup k => obtain ⟨rfl, ax, q, o, ho, r⟩ := x; intro b hb; rw [List.mem_singleton.mp hb]; exact ⟨o, ho⟩
  | range a n => obtain ⟨rfl, hl, q⟩ := x; intro b hb; rw [List.mem_singleton.mp hb]; exact ⟨_, q⟩
  | str y =>
    obtain ⟨rfl, t, q⟩ := x
    intro b hb; rw [List.mem_singleton.mp hb]
    rcases q with ⟨o, ho, r⟩ | ⟨o, ho, r⟩ <;> exact ⟨o, ho⟩
  | enum k =>
    obtain ⟨it, rfl, hne, ax, old, q, he, o, ho, r⟩ := x
    intro b hb
    rcases List.mem_cons.mp hb with e | e
    · rw [e]; exact ⟨_, he⟩
    · rw [List.mem_singleton.mp e]; exact ⟨o, ho⟩
theorem ex_for {target iter : Expr} {tg : Tg} {body : List Stmt} {pos : Pos} {it : WI} {p : WS} (ht : TgE target tg) (hst : ∀ caps : Str → Bool, (∀ x, caps x = false) → TgStor sc caps tg) (hi : EvI P n sc iter it) (hb : EvS P n sc body p)
    (hf : ∀ env x, foldedSetIterable iter env x = pure x := by intro _ _; rfl) : EvX P n sc (.For target iter body [] pos) (wFor it tg p) := fun c A s m ad σ Q Q' E hc hs hcp hA R hp hQ => by
  refine wpAny_For (hi c A s m ad σ _ _ _ hc hs hA R hp fun h1 tk1 ad1 os1 ik I fp R1 p1 hI off hok q1 => ?_) (fun x => hf _ x)
  obtain ⟨f, q1⟩ := q1
  refine codeAny_forLoop_any (fun k s' => ∃ h' tk' m' ad' σ' i, s' = { s with heap := h', toks := tk' } ∧ Rel c m' ad' σ' h' ∧ ad <+: ad' ∧ ItAt ad' h' I fp ik i ∧ Off c ad' fp ∧ forW ik tg p Q k i σ') ?_ f
    ⟨h1, tk1, m, ad1, _, 0, rfl, R1, p1, hI, off, q1⟩
  rintro k s' ⟨h', tk', m', ad', σ', i, rfl, R', p', hI', off', hw⟩
  cases k with
  | zero => exact hw.elim
  | succ k =>
    obtain ⟨hok', hw⟩ := hw
    refine it_turn (s := { s with heap := h', toks := tk' }) hA hc ht (by rw [hs]; exact hst _ hcp) R' off' hI' hok' (fun hn h2 R2 _ => ?_) fun item hit => ?_
    · rw [hn] at hw
      exact wpAny_execs_nil (hQ h2 tk' .next m' ad' σ' .next R2 p' .next hw)
    · rw [hit] at hw
      dsimp only at hw
      split at hw
      · exact hw.elim
      · rename_i σ2 hbind
        refine ⟨σ2, hbind, fun h2 tk2 m2 R2 hI2 => ?_⟩
        refine hb (c.with h2 fp) A _ m2 ad' σ2 _ _ _ (hc.with off') hs hcp hA (R2.with off') hw fun h3 tk3 f3 m3 ad3 σ3 af R3 p3 r3 q3 => ?_
        obtain ⟨R4, off4, keep4⟩ := R3.without R2 off' p3 hI2.alive
        cases r3 with
        | next => exact ⟨k, Nat.lt_succ_self _, h3, tk3, m3, ad3, σ3, i + 1, rfl, R4, p'.trans p3, hI2.keep p3 keep4, off4, q3⟩
        | ret r => exact hQ h3 tk3 _ m3 ad3 σ3 _ R4 (p'.trans p3) (.ret r) q3
noncomputable def EvXT (P : Par) (tk n : Nat) (sc : Scope) (st : Stmt) (p : WS) : Prop :=
  ∀ (c : Cx) (A : Around) (s : Shared) (m : Str → Option Value) (ad : List Addr) (σ : St) (Q : VS) (Q' : Flow → Shared → Prop) (E : Value → Shared → Prop),
    CxOk P c → c.env.scope = sc → (∀ x, c.caps x = false) → AOk n A → tk ≤ s.toks → Rel c m ad σ s.heap → p σ Q → PostS c ad s Q Q' → wpAny (model P.prog P.w) A (exec st c.env) Q' E s
noncomputable def EvST (P : Par) (tk n : Nat) (sc : Scope) (sts : List Stmt) (p : WS) : Prop :=
  ∀ (c : Cx) (A : Around) (s : Shared) (m : Str → Option Value) (ad : List Addr) (σ : St) (Q : VS) (Q' : Flow → Shared → Prop) (E : Value → Shared → Prop),
    CxOk P c → c.env.scope = sc → (∀ x, c.caps x = false) → AOk n A → tk ≤ s.toks → Rel c m ad σ s.heap → p σ Q → PostS c ad s Q Q' → wpAny (model P.prog P.w) A (execs sts c.env) Q' E s
theorem EvX.t {st : Stmt} {p : WS} (h : EvX P n sc st p) (tk : Nat) : EvXT P tk n sc st p := fun c A s m ad σ Q Q' E hc hs hcp hA _ R hp hQ => h c A s m ad σ Q Q' E hc hs hcp hA R hp hQ
theorem EvS.t {sts : List Stmt} {p : WS} (h : EvS P n sc sts p) (tk : Nat) : EvST P tk n sc sts p := fun c A s m ad σ Q Q' E hc hs hcp hA _ R hp hQ => h c A s m ad σ Q Q' E hc hs hcp hA R hp hQ
theorem EvXT.up {tk : Nat} {st : Stmt} {p : WS} (h : EvXT P tk n sc st p) (c : Cx) (A : Around) (s : Shared) (m : Str → Option Value) (ad : List Addr) (σ : St) (Q : VS) (Q' : Flow → Shared → Prop) (E : Value → Shared → Prop) (hc : CxOk P c) (hs : c.env.scope = sc) (hcp : ∀ x, c.caps x = false) (hA : AOk n A) (hT : tk ≤ s.toks) (R : Rel c m ad σ s.heap) (hp : p σ Q)
    (hQ : ∀ h' tk' f m' ad' σ' af, tk ≤ tk' → Rel c m' ad' σ' h' → ad <+: ad' → RF ad' af f → Q af σ' → Q' f { s with heap := h', toks := tk' }) : wpAny (model P.prog P.w) A (exec st c.env) Q' E s :=
  wpAny_with_toks hT (wpAny_mono (h c A s m ad σ Q (fun v s' => tk ≤ s'.toks → Q' v s') E hc hs hcp hA hT R hp fun h' tk' f m' ad' σ' af R' p' r q hT' => hQ h' tk' f m' ad' σ' af hT' R' p' r q) (fun _ _ x => x) fun _ _ x _ => x)
theorem EvST.up {tk : Nat} {sts : List Stmt} {p : WS} (h : EvST P tk n sc sts p) (c : Cx) (A : Around) (s : Shared) (m : Str → Option Value) (ad : List Addr) (σ : St) (Q : VS) (Q' : Flow → Shared → Prop) (E : Value → Shared → Prop) (hc : CxOk P c) (hs : c.env.scope = sc) (hcp : ∀ x, c.caps x = false) (hA : AOk n A) (hT : tk ≤ s.toks) (R : Rel c m ad σ s.heap) (hp : p σ Q)
    (hQ : ∀ h' tk' f m' ad' σ' af, tk ≤ tk' → Rel c m' ad' σ' h' → ad <+: ad' → RF ad' af f → Q af σ' → Q' f { s with heap := h', toks := tk' }) : wpAny (model P.prog P.w) A (execs sts c.env) Q' E s :=
  wpAny_with_toks hT (wpAny_mono (h c A s m ad σ Q (fun v s' => tk ≤ s'.toks → Q' v s') E hc hs hcp hA hT R hp fun h' tk' f m' ad' σ' af R' p' r q hT' => hQ h' tk' f m' ad' σ' af hT' R' p' r q) (fun _ _ x => x) fun _ _ x _ => x)
theorem EvI.up {tk : Nat} {e : Expr} {p : WI} (h : EvI P n sc e p) (c : Cx) (A : Around) (s : Shared) (m : Str → Option Value) (ad : List Addr) (σ : St) (Q : IK → List AO → Prop) (Q' : Value → Shared → Prop) (E : Value → Shared → Prop) (hc : CxOk P c) (hs : c.env.scope = sc) (hA : AOk n A) (hT : tk ≤ s.toks) (R : Rel c m ad σ s.heap) (hp : p σ Q)
    (hQ : ∀ h' tk' ad' os' ik I fp, tk ≤ tk' → Rel c m ad' ⟨σ.vars, os'⟩ h' → ad <+: ad' → ItAt ad' h' I fp ik 0 → Off c ad' fp → IKok ik os' → Q ik os' → Q' (.ref I) { s with heap := h', toks := tk' }) :
    wpAny (model P.prog P.w) A (eval e c.env) (fun x s₁ => wpAny (model P.prog P.w) A (pyIter x) Q' E s₁) E s := by
  have g := h c A s m ad σ Q (fun v s' => tk ≤ s'.toks → Q' v s') E hc hs hA R hp fun h' tk' ad' os' ik I fp R' p' hI off hok q hT' => hQ h' tk' ad' os' ik I fp hT' R' p' hI off hok q
  refine wpAny_mono (wpAny_toks_of hT g) (fun x s₁ y => ?_) fun _ _ y => y.2
  exact wpAny_mono (wpAny_toks_of y.1 y.2) (fun _ _ z => z.2 z.1) fun _ _ z => z.2
noncomputable def whileW (t : WB) (body : WS) (Q : VS) : Nat → St → Prop
  | 0, _ => False
  | f + 1, σ => t σ fun b o => (b = true → body ⟨σ.vars, o⟩ fun fl σ'' => match fl with
      | .next => whileW t body Q f σ''
      | .ret a => Q (.ret a) σ'') ∧ (b = false → Q .next ⟨σ.vars, o⟩)
noncomputable def wWhile (t : WB) (body : WS) : WS := fun σ Q => ∃ f, whileW t body Q f σ
theorem ex_while {t : Expr} {body : List Stmt} {pos : Pos} {tw : WB} {p : WS} (ht : EvB P n sc t tw) (hb : EvS P n sc body p) : EvX P n sc (.While t body [] pos) (wWhile tw p) := fun c A s m ad σ Q Q' E hc hs hcp hA R hp hQ => by
  obtain ⟨f, hp⟩ := hp
  refine wpAny_While (codeAny_whileLoop (fun k s' => ∃ h' tk' m' ad' σ', s' = { s with heap := h', toks := tk' } ∧ Rel c m' ad' σ' h' ∧ ad <+: ad' ∧ whileW tw p Q k σ') ?_ f ⟨s.heap, s.toks, m, ad, σ, rfl, R, List.prefix_refl _, hp⟩)
  rintro k s' ⟨h', tk', m', ad', σ', rfl, R', p', hw⟩
  cases k with
  | zero => exact hw.elim
  | succ k =>
    refine ht c A _ m' ad' σ' _ _ _ hc hs hA R' hw fun h1 tk1 ad1 os1 b R1 p1 q1 => ?_
    cases b with
    | true =>
      refine hb c A _ m' ad1 ⟨σ'.vars, os1⟩ _ _ _ hc hs hcp hA R1 (q1.1 rfl) fun h3 tk3 f3 m3 ad3 σ3 af R3 p3 r3 q3 => ?_
      cases r3 with
      | next => exact ⟨k, Nat.lt_succ_self _, h3, tk3, m3, ad3, σ3, rfl, R3, (p'.trans p1).trans p3, q3⟩
      | ret r => exact hQ h3 tk3 _ m3 ad3 σ3 _ R3 ((p'.trans p1).trans p3) (.ret r) q3
    | false => exact wpAny_execs_nil (hQ h1 tk1 .next m' ad1 _ .next R1 (p'.trans p1) .next (q1.2 rfl))
end
end Mine
end P3
section P4
set_option maxRecDepth 100000
set_option Elab.async false
set_option autoImplicit false
set_option linter.unusedSimpArgs false
set_option linter.unusedVariables false
namespace Mine
open PySem PyProof.Rows
noncomputable def relab (scope sc : Scope) : Scope :=
  { scope with names := scope.names.map fun (n, k) => if (k == .free && sc.kind == .function && sc.names.lookup n == some .cell) then (n, .cell) else (n, k) }
theorem relabel_eq (scope : Scope) (env : Env) : relabel scope env = relab scope env.scope := rfl
/-- the cells that a comprehension captures -/
noncomputable def clOf (cells : List (Str × Addr)) : List (Str × NameKind) → List (Str × Addr) → List (Str × Addr)
  | [], acc => acc
  | (x, k) :: r, acc => if k == .free then clOf cells r ((x, (cells.lookup x).getD 0) :: acc) else clOf cells r acc
theorem clOf_for (env : Env) (f : Str × NameKind → List (Str × Addr) → Sem (ForInStep (List (Str × Addr))))
    (hf : ∀ x k acc, f (x, k) acc = if k == .free then (do let a ← cellOf env x; pure (.yield ((x, a) :: acc))) else pure (.yield acc)) :
    ∀ (names : List (Str × NameKind)) (acc : List (Str × Addr)), (∀ y ∈ names, y.2 = .free → ∃ a, env.cells.lookup y.1 = some a) → forIn names acc f = pure (clOf env.cells names acc)
  | [], acc, _ => by rw [List.forIn_nil]; rfl
  | (x, k) :: r, acc, h => by
    rw [List.forIn_cons, hf]
    have hr : ∀ y ∈ r, y.2 = .free → ∃ a, env.cells.lookup y.1 = some a := fun y hy => h y (List.mem_cons_of_mem _ hy)
    unfold clOf
    by_cases hk : (k == NameKind.free) = true
    · rw [if_pos hk, if_pos hk]
      obtain ⟨a, ha⟩ := h (x, k) (List.mem_cons_self ..) (by simpa using hk)
      unfold cellOf
      dsimp only at ha
      rw [ha]
      exact clOf_for env f hf r _ hr
    · rw [if_neg hk, if_neg hk]
      exact clOf_for env f hf r acc hr
theorem closure_eq {scope : Scope} {env : Env} (h : ∀ y ∈ scope.names, y.2 = .free → ∃ a, env.cells.lookup y.1 = some a) : closureFor scope env = pure (clOf env.cells scope.names []) := by
  simp only [closureFor]
  rw [clOf_for env _ (fun x k acc => by cases hk : k == NameKind.free <;> simp [hk]) scope.names [] h]
  rfl
theorem clOf_lookup {cells : List (Str × Addr)} {x : Str} {a : Addr} : ∀ (names : List (Str × NameKind)) (acc : List (Str × Addr)), (clOf cells names acc).lookup x = some a → (∃ y ∈ names, y.1 = x ∧ y.2 = .free ∧ a = (cells.lookup x).getD 0) ∨ acc.lookup x = some a
  | [], acc, h => .inr h
  | (y, k) :: r, acc, h => by
    unfold clOf at h
    by_cases hk : (k == NameKind.free) = true
    · rw [if_pos hk] at h
      rcases clOf_lookup r _ h with ⟨z, hz, e⟩ | h
      · exact .inl ⟨z, List.mem_cons_of_mem _ hz, e⟩
      · by_cases hx : x = y
        · subst hx
          rw [List.lookup_cons_self] at h; cases h
          exact .inl ⟨(x, k), List.mem_cons_self .., rfl, by simpa using hk, rfl⟩
        · rw [List.lookup_cons, beq_eq_false_iff_ne.mpr hx] at h
          exact .inr h
    · rw [if_neg hk] at h
      rcases clOf_lookup r _ h with ⟨z, hz, e⟩ | h
      · exact .inl ⟨z, List.mem_cons_of_mem _ hz, e⟩
      · exact .inr h
theorem clOf_some {cells : List (Str × Addr)} {x : Str} : ∀ (names : List (Str × NameKind)) (acc : List (Str × Addr)), (∃ y ∈ names, y.1 = x ∧ y.2 = .free) ∨ (acc.lookup x).isSome = true → ((clOf cells names acc).lookup x).isSome = true
  | [], acc, h => h.elim (fun ⟨_, hy, _⟩ => nomatch hy) id
  | (y, k) :: r, acc, h => by
    unfold clOf
    by_cases hk : (k == NameKind.free) = true
    · rw [if_pos hk]
      refine clOf_some r _ ?_
      by_cases hx : x = y
      · subst hx; exact .inr (by rw [List.lookup_cons_self]; rfl)
      · refine h.imp (fun ⟨z, hz, e, f⟩ => ?_) fun e => by rw [List.lookup_cons, beq_eq_false_iff_ne.mpr hx]; exact e
        rcases List.mem_cons.mp hz with q | q
        · subst q; exact absurd e.symm hx
        · exact ⟨z, q, e, f⟩
    · rw [if_neg hk]
      refine clOf_some r acc (h.imp (fun ⟨z, hz, e, f⟩ => ?_) id)
      rcases List.mem_cons.mp hz with q | q
      · subst q; exact absurd (by simpa using f) hk
      · exact ⟨z, q, e, f⟩
theorem clOf_at {cells : List (Str × Addr)} {x : Str} {a : Addr} {names : List (Str × NameKind)} (hm : ∃ y ∈ names, y.1 = x ∧ y.2 = .free) (ha : cells.lookup x = some a) : (clOf cells names []).lookup x = some a := by
  obtain ⟨b, hb⟩ := Option.isSome_iff_exists.mp (clOf_some (cells := cells) (x := x) names [] (.inl hm))
  rcases clOf_lookup names [] hb with ⟨_, _, _, _, e⟩ | h
  · rw [hb, e, ha]; rfl
  · simp at h
/-- the new cells of a frame over captured ones -/
theorem cells_new : ∀ (names : List (Str × NameKind)) (h : Heap) (acc : List (Str × Addr)) (lo : Nat), lo ≤ h.objs.size → (∀ x y a, acc.lookup x = some a → acc.lookup y = some a → lo ≤ a → x = y) →
    (∀ x a, acc.lookup x = some a → lo ≤ a → h.IsCell a none) →
    (∀ x a, (cellsFrom h.objs.size names acc).lookup x = some a → lo ≤ a → (pushCells h names).IsCell a none) ∧
    (∀ x y a, (cellsFrom h.objs.size names acc).lookup x = some a → (cellsFrom h.objs.size names acc).lookup y = some a → lo ≤ a → x = y) ∧
    (∀ x, (∃ z ∈ names, z.1 = x ∧ z.2 = .cell) ∨ (∃ a, lo ≤ a ∧ acc.lookup x = some a) → ∃ a, lo ≤ a ∧ (cellsFrom h.objs.size names acc).lookup x = some a) ∧
    (∀ x, (∀ z ∈ names, z.1 = x → z.2 ≠ .cell) → (cellsFrom h.objs.size names acc).lookup x = acc.lookup x)
  | [], h, acc, lo, hlo, inj, alive => ⟨alive, inj, fun x hx => hx.elim (fun ⟨_, hz, _⟩ => nomatch hz) id, fun x _ => rfl⟩
  | (n, k) :: r, h, acc, lo, hlo, inj, alive => by
    unfold cellsFrom pushCells
    by_cases hk : (k == NameKind.cell) = true
    · rw [if_pos hk, if_pos hk]
      have hsz : (h.push { cls := .type "cell", data := .cell none }).objs.size = h.objs.size + 1 := Heap.size_push ..
      have ih := cells_new r (h.push { cls := .type "cell", data := .cell none }) ((n, h.objs.size) :: acc) lo (by rw [hsz]; lia  )
        (fun x y a hx hy hl => by
          by_cases h1 : x = n
          · subst h1
            rw [List.lookup_cons_self] at hx; cases hx
            by_cases h2 : y = x
            · exact h2.symm
            · rw [List.lookup_cons, beq_eq_false_iff_ne.mpr h2] at hy
              have := (alive y _ hy hl).lt
              exact absurd this (Nat.lt_irrefl _)
          · rw [List.lookup_cons, beq_eq_false_iff_ne.mpr h1] at hx
            by_cases h2 : y = n
            · subst h2
              rw [List.lookup_cons_self] at hy; cases hy
              exact absurd (alive x _ hx hl).lt (Nat.lt_irrefl _)
            · rw [List.lookup_cons, beq_eq_false_iff_ne.mpr h2] at hy
              exact inj x y a hx hy hl)
        (fun x a hx hl => by
          by_cases h1 : x = n
          · subst h1
            rw [List.lookup_cons_self] at hx; cases hx
            exact ⟨_, Heap.get?_push_size _ rfl, rfl⟩
          · rw [List.lookup_cons, beq_eq_false_iff_ne.mpr h1] at hx
            exact (alive x a hx hl).keeps fun b o e => Heap.get?_push_of_some _ e)
      rw [hsz] at ih
      obtain ⟨i1, i2, i3, i4⟩ := ih
      refine ⟨i1, i2, fun x hx => i3 x ?_, fun x hx => ?_⟩
      · by_cases h1 : x = n
        · subst h1; exact .inr ⟨h.objs.size, hlo, List.lookup_cons_self⟩
        · refine hx.imp (fun ⟨z, hz, e, f⟩ => ?_) fun ⟨a, hl, e⟩ => ⟨a, hl, by rw [List.lookup_cons, beq_eq_false_iff_ne.mpr h1]; exact e⟩
          rcases List.mem_cons.mp hz with q | q
          · subst q; exact absurd e.symm h1
          · exact ⟨z, q, e, f⟩
      · have hne : x ≠ n := fun q => hx (n, k) (List.mem_cons_self ..) q.symm (by simpa using hk)
        rw [i4 x fun z hz e => hx z (List.mem_cons_of_mem _ hz) e, List.lookup_cons, beq_eq_false_iff_ne.mpr hne]
    · rw [if_neg hk, if_neg hk]
      obtain ⟨i1, i2, i3, i4⟩ := cells_new r h acc lo hlo inj alive
      refine ⟨i1, i2, fun x hx => i3 x (hx.imp (fun ⟨z, hz, e, f⟩ => ?_) id), fun x hx => i4 x fun z hz e => hx z (List.mem_cons_of_mem _ hz) e⟩
      rcases List.mem_cons.mp hz with q | q
      · subst q; exact absurd (by simpa using f) hk
      · exact ⟨z, q, e, f⟩
section
variable {P : Par} {n : Nat} {sc : Scope}
noncomputable def compEnvN (scope : Scope) (C : Addr) (cells : List (Str × Addr)) (env : Env) : Env := { scope, locals := C, globals := env.globals, cells, qual := env.qual, func := none, code := env.code, frame := env.frame, builtins := env.builtins }
theorem newCompEnv {A : Around} {s : Shared} {scope : Scope} {env : Env} {cl : List (Str × Addr)} {Q : Env → Shared → Prop} {E : Value → Shared → Prop}
    (hQ : Q (compEnvN scope s.heap.objs.size (cellsFrom (s.heap.objs.size + 1) scope.names cl) env) { s with heap := pushCells (s.heap.push { cls := .type "dict", data := .dict #[] }) scope.names }) :
    wpAny (model P.prog P.w) A (newFunctionEnv scope env.globals cl [] env.qual none .none (some env)) Q E s := by
  simp only [newFunctionEnv, Option.isSome_some, if_true]
  refine wpAny_bind (wpAny_alloc ?_)
  refine wpAny_bind (wpAny_layCells _ (fun name kind cells => by cases hkc : kind == NameKind.cell <;> simp [hkc]) _ _ _ _ ?_)
  rw [show ({ s with heap := s.heap.push { cls := .type "dict", data := .dict #[] } } : Shared).heap.objs.size = s.heap.objs.size + 1 from Heap.size_push ..]
  exact wpAny_bind (wpAny_pure (wpAny_pure hQ))
theorem codeAny_compLoop_own {A : Around} {s : Shared} {elt target iter : Expr} {ifs : List Expr} {scope : Scope} {pos : Pos} {it acc : Value} {env : Env} {R : Result → Shared → Prop} (I : Nat → Shared → Prop)
    (turn : ∀ n s, I n s → wpAny (model P.prog P.w) A (pyNext it) (fun r s₁ => match r with
      | none => R (.ok .next) s₁
      | some v => wpAny (model P.prog P.w) A (letOwnedTupleGo target it v) (fun _ s₁' => wpAny (model P.prog P.w) A (assign target env v) (fun _ s₂ =>
          wpAny (model P.prog P.w) A (forIn ifs true fun c r => if r = true then do let ok ← isTrue c env (eval c env); pure (ForInStep.yield ok) else pure (ForInStep.yield r)) (fun ok s₃ =>
            if ok = true then wpAny (model P.prog P.w) A (eval elt env) (fun x s₄ =>
              wpAny (model P.prog P.w) A (call (.builtin "list.append") [acc, x]) (fun _ s₅ => ∃ m, m < n ∧ I m s₅) (notedBy (model P.prog P.w) A env fun e s' => R (.error e) s') s₄) (notedBy (model P.prog P.w) A env fun e s' => R (.error e) s') s₃
            else ∃ m, m < n ∧ I m s₃) (notedBy (model P.prog P.w) A env fun e s' => R (.error e) s') s₂) (notedBy (model P.prog P.w) A env fun e s' => R (.error e) s') s₁') (notedBy (model P.prog P.w) A env fun e s' => R (.error e) s') s₁) (notedBy (model P.prog P.w) A env fun e s' => R (.error e) s') s)
    (n : Nat) (h : I n s) : codeAny (model P.prog P.w) A (.compLoop (.ListComp elt [⟨target, iter, ifs, 0⟩] scope pos) 0 it acc env) R s := by
  refine codeAny_loop rfl I (fun n s hI => ?_) n h
  show wpAny _ A ((compTurn (.ListComp elt [⟨target, iter, ifs, 0⟩] scope pos) 0 it acc env).onRaise (fun x => do noteFrame x env; theTreesLotGoes x)) _ _ s
  refine wpAny_noted ?_
  rw [compTurn_list]
  refine wpAny_bind (wpAny_standAt (wpAny_bind (wpAny_mono (turn n s hI) (fun r s₁ h₁ => ?_) fun _ _ h' => h')))
  cases r with
  | none => exact wpAny_pure h₁
  | some v =>
    refine wpAny_bind (wpAny_mono h₁ (fun _ s₁' h₁' => ?_) fun _ _ h' => h')
    refine wpAny_bind (wpAny_mono h₁' (fun _ s₂ h₂ => wpAny_bind (wpAny_mono h₂ (fun ok s₃ h₃ => ?_) fun _ _ h' => h')) fun _ _ h' => h')
    cases ok with
    | false => exact wpAny_pure ⟨rfl, h₃⟩
    | true =>
      exact wpAny_bind (wpAny_bind (wpAny_mono h₃ (fun x s₄ h₄ => wpAny_bind (wpAny_mono h₄ (fun _ s₅ h₅ => wpAny_pure (wpAny_pure ⟨rfl, h₅⟩)) fun _ _ h' => h')) fun _ _ h' => h'))
theorem it_self {A : Around} {s : Shared} {ad : List Addr} {I : Addr} {fp : List Addr} {ik : IK} {i : Nat} {Q : Value → Shared → Prop} {E : Value → Shared → Prop} (hI : ItAt ad s.heap I fp ik i) (h : Q (.ref I) s) : wpAny (model P.prog P.w) A (pyIter (.ref I)) Q E s := by
  cases ik with
  | list k => obtain ⟨_, _, _, hit⟩ := hI; exact wpAny_pyIter_listiter hit h
  | tup k => obtain ⟨_, _, _, hit⟩ := hI; exact wpAny_pyIter_tupleiter hit h
  | range a n => obtain ⟨_, _, hit⟩ := hI; exact wpAny_pyIter_rangeiter hit h
  | str x =>
    obtain ⟨_, t, hit⟩ := hI
    rcases hit with hit | hit
    · exact wpAny_pyIter_striter_ascii hit h
    · exact wpAny_pyIter_striter_wide hit h
  | enum k => obtain ⟨it, _, _, ax, old, _, he, _⟩ := hI; exact wpAny_pyIter_enum he h
/-- an object that stands already becomes one of the frame's own -/
theorem Rel.adopt {c : Cx} {m : Str → Option Value} {ad : List Addr} {σ : St} {h : Heap} {a : Addr} {o : AO} (R : Rel c m ad σ h) (hA : a ∉ ad) (hL : a ≠ c.env.locals) (hB : c.B a = none)
    (hC : ∀ x, c.env.kindOf x = some .cell → c.caps x = false → c.env.cells.lookup x ≠ some a) (ho : RO (ad ++ [a]) h a o) : Rel c m (ad ++ [a]) ⟨σ.vars, σ.objs ++ [o]⟩ h := by
  have hp : ad <+: ad ++ [a] := List.prefix_append ..
  refine ⟨R.keep, R.ns, R.bL, fun x b k kc e => ?_, R.cellInj, R.cellAll, R.cellFree, fun x av e => ?_, by simp [R.len], ?_, ?_, fun k o' e => ?_, fun k b hb e => ?_, by rw [List.length_append]; exact Nat.le_trans R.roLe (Nat.le_add_right ..), R.roEq⟩
  · obtain ⟨p, q, r, v⟩ := R.cellOwn x b k kc e
    refine ⟨p, q, fun hm => ?_, v⟩
    rcases List.mem_append.mp hm with hm | hm
    · exact r hm
    · exact hC x k kc (by rw [← List.mem_singleton.mp hm]; exact e)
  · obtain ⟨v, r, H⟩ := R.vars x av e
    exact ⟨v, r.mono hp, H⟩
  · refine List.nodup_append.mpr ⟨R.nodup, by simp, fun x hx y hy => ?_⟩
    rw [List.mem_singleton.mp hy]; exact fun e => hA (e ▸ hx)
  · intro hm
    rcases List.mem_append.mp hm with hm | hm
    · exact R.lad hm
    · exact hL (List.mem_singleton.mp hm).symm
  · by_cases hl : k < σ.objs.length
    · rw [List.getElem?_append_left hl] at e
      obtain ⟨b, q, r⟩ := R.objs k o' e
      exact ⟨b, pre_get hp q, r.mono hp fun _ e => e⟩
    · rw [List.getElem?_append_right (by lia  )] at e
      have hk' : k - σ.objs.length = 0 := by
        cases hq : k - σ.objs.length with
        | zero => rfl
        | succ j => rw [hq] at e; simp at e
      rw [hk'] at e
      simp at e; subst e
      refine ⟨a, ?_, ho⟩
      rw [List.getElem?_append_right (by rw [R.len]; lia  ), R.len, hk']; rfl
  · by_cases hl : k < ad.length
    · rw [List.getElem?_append_left hl] at e
      exact R.fresh k b hb e
    · rw [List.getElem?_append_right (by lia  )] at e
      have : b = a := by
        cases hq : k - ad.length with
        | zero => rw [hq] at e; simp at e; exact e.symm
        | succ j => rw [hq] at e; simp at e
      subst this
      exact hB
noncomputable def capV (fr : List String) (v : Vs) (ro : Nat) : Vs := ⟨fr.filterMap fun x => (v.lookup x).map fun a => (x, a), ro⟩
theorem capV_lookup {fr : List String} {v : Vs} {ro : Nat} {x : String} {a : AV} (h : (capV fr v ro).lookup x = some a) : x ∈ fr ∧ v.lookup x = some a := by
  unfold capV Vs.lookup at h
  dsimp only at h
  induction fr with
  | nil => simp at h
  | cons y r ih =>
    rw [List.filterMap_cons] at h
    cases q : v.l.lookup y with
    | none =>
      rw [q] at h
      simp only [Option.map_none] at h
      obtain ⟨p1, p2⟩ := ih h
      exact ⟨List.mem_cons_of_mem _ p1, p2⟩
    | some b =>
      rw [q] at h
      simp only [Option.map_some] at h
      by_cases hx : x = y
      · subst hx
        rw [List.lookup_cons_self] at h
        exact ⟨List.mem_cons_self .., by show v.l.lookup x = some a; rw [q]; exact h⟩
      · rw [List.lookup_cons, beq_eq_false_iff_ne.mpr hx] at h
        obtain ⟨p1, p2⟩ := ih h
        exact ⟨List.mem_cons_of_mem _ p1, p2⟩
theorem relab_lookup {scope sc : Scope} {x : Str} : (relab scope sc).names.lookup x = (scope.names.lookup x).map fun k => if (k == .free && sc.kind == .function && sc.names.lookup x == some .cell) then .cell else k := by
  unfold relab
  dsimp only
  induction scope.names with
  | nil => rfl
  | cons y r ih =>
    obtain ⟨z, k⟩ := y
    by_cases hx : x = z
    · subst hx
      rw [List.map_cons, List.lookup_cons_self]
      dsimp only
      rw [Option.map_some]
      split
      · rename_i hc; rw [List.lookup_cons_self]
      · rename_i hc; rw [List.lookup_cons_self]
    · rw [List.map_cons, List.lookup_cons (a := x) (k := z), beq_eq_false_iff_ne.mpr hx]
      dsimp only
      split <;> (rw [List.lookup_cons, beq_eq_false_iff_ne.mpr hx]; exact ih)
noncomputable def compW (ik : IK) (tg : Tg) (test : WB) (elt : WE) (Q : List AV → List AO → Prop) : Nat → Nat → List AV → St → Prop
  | 0, _, _, _ => False
  | f + 1, i, acc, σ => IKok ik σ.objs ∧ match itemAt ik σ.objs i with
    | none => Q acc σ.objs
    | some it => match bindT tg it σ with
      | none => False
      | some σ' => test σ' fun b o => (b = true → elt ⟨σ'.vars, o⟩ fun a o2 => acc.length ≤ sizeLine ∧ compW ik tg test elt Q f (i + 1) (acc ++ [a]) ⟨σ'.vars, o2⟩) ∧ (b = false → compW ik tg test elt Q f (i + 1) acc ⟨σ'.vars, o⟩)
/-- the statics of a comprehension: its scope, the enclosing one, the captured names -/
structure CompOk (scope sc : Scope) (fr : List String) (tg : Tg) : Prop where
  kind : scope.kind = .function
  dup : ∀ z ∈ scope.names, scope.names.lookup z.1 = some z.2
  free : ∀ z ∈ scope.names, z.2 = .free → ∃ x ∈ fr, z.1 = Str.ofString x
  out : ∀ x ∈ fr, scope.names.lookup (Str.ofString x) = some .free ∧ (sc.names.lookup (Str.ofString x) = some .cell ∨ sc.names.lookup (Str.ofString x) = some .free)
  stor : TgStor (relab scope sc) (fun x => scope.names.lookup x == some .free) tg
/-- tests of a comprehension's clause -/
noncomputable def EvT (P : Par) (n : Nat) (sc : Scope) (ifs : List Expr) (p : WB) : Prop :=
  ∀ (c : Cx) (A : Around) (s : Shared) (m : Str → Option Value) (ad : List Addr) (σ : St) (Q : Bool → List AO → Prop) (Q' : Bool → Shared → Prop) (E : Value → Shared → Prop),
    CxOk P c → c.env.scope = sc → AOk n A → Rel c m ad σ s.heap → p σ Q → PostB c m ad σ.vars s Q Q' →
    wpAny (model P.prog P.w) A (forIn ifs true fun e r => if r = true then do let ok ← isTrue e c.env (eval e c.env); pure (ForInStep.yield ok) else pure (ForInStep.yield r)) Q' E s
noncomputable def wTrue : WB := fun σ Q => Q true σ.objs
theorem et_nil : EvT P n sc [] wTrue := fun c A s m ad σ Q Q' E hc hs hA R hp hQ => wpAny_tests_nil (hQ s.heap s.toks ad _ true R (List.prefix_refl _) hp)
theorem et_one {e : Expr} {p : WB} (h : EvB P n sc e p) : EvT P n sc [e] p := fun c A s m ad σ Q Q' E hc hs hA R hp hQ => wpAny_tests_one (h c A s m ad σ Q Q' E hc hs hA R hp hQ)
theorem EvT.up {tk : Nat} {ifs : List Expr} {p : WB} (h : EvT P n sc ifs p) (c : Cx) (A : Around) (s : Shared) (m : Str → Option Value) (ad : List Addr) (σ : St) (Q : Bool → List AO → Prop) (Q' : Bool → Shared → Prop) (E : Value → Shared → Prop) (hc : CxOk P c) (hs : c.env.scope = sc) (hA : AOk n A) (hT : tk ≤ s.toks) (R : Rel c m ad σ s.heap) (hp : p σ Q)
    (hQ : ∀ h' tk' ad' os' b, tk ≤ tk' → Rel c m ad' ⟨σ.vars, os'⟩ h' → ad <+: ad' → Q b os' → Q' b { s with heap := h', toks := tk' }) :
    wpAny (model P.prog P.w) A (forIn ifs true fun e r => if r = true then do let ok ← isTrue e c.env (eval e c.env); pure (ForInStep.yield ok) else pure (ForInStep.yield r)) Q' E s :=
  wpAny_with_toks hT (wpAny_mono (h c A s m ad σ Q (fun v s' => tk ≤ s'.toks → Q' v s') E hc hs hA R hp fun h' tk' ad' os' b R' p' q hT' => hQ h' tk' ad' os' b hT' R' p' q) (fun _ _ x => x) fun _ _ x _ => x)
theorem comp_core {tk0 : Nat} {c : Cx} {A : Around} {s : Shared} {m : Str → Option Value} {ad : List Addr} {vars : Vs} {os : List AO} {ik : IK} {I : Addr} {fp : List Addr} {elt target iter : Expr} {ifs : List Expr} {scope : Scope} {pos : Pos} {tg : Tg} {fr : List String} {test : WB} {ew : WE}
    {Q : List AV → List AO → Prop} {RR : Value → Addr → Result → Shared → Prop} {E : Value → Shared → Prop} {f : Nat}
    (hc : CxOk P c) (hs : c.env.scope = sc) (hA : AOk n A) (R : Rel c m ad ⟨vars, os⟩ s.heap) (hI : ItAt ad s.heap I fp ik 0) (off : Off c ad fp) (ok : CompOk scope sc fr tg) (ht : TgE target tg)
    (htest : EvT P n (relab scope sc) ifs test) (helt : EvET P tk0 n (relab scope sc) elt ew) (hT : tk0 ≤ s.toks) (hcap : ∀ x ∈ fr, (vars.lookup x).isSome = true)
    (hW : compW ik tg test ew Q f 0 [] ⟨capV fr vars os.length, os⟩)
    (hK : ∀ h' tk m' ad' os' acc D C, Rel c m ad' ⟨vars, os' ++ [.list acc]⟩ h' → ad <+: ad' → RV ad' (.ref os'.length) (.ref D) → Q acc os' → h'.Ns C m' → Off c ad' [C] → RR (.ref D) C (.ok .next) { s with heap := h', toks := tk }) :
    wpAny (model P.prog P.w) A (newList []) (fun acc s₃ => wpAny (model P.prog P.w) A (newFunctionEnv scope c.env.globals (clOf c.env.cells scope.names []) [] c.env.qual none .none (some c.env)) (fun cenv s₄ =>
      codeAny (model P.prog P.w) A (.compStart (.ListComp elt [⟨target, iter, ifs, 0⟩] scope pos) 0 (.ref I) acc { cenv with scope := relabel scope c.env }) (RR acc cenv.locals) s₄) E s₃) E s := by
  refine wpAny_newObj_type (newCompEnv ?_)
  generalize hD : s.heap.objs.size = D
  generalize hh3 : s.heap.push { cls := .type "list", data := .seq ([] : List Value).toArray } = h3
  have hC : h3.objs.size = D + 1 := by rw [← hh3, Heap.size_push, hD]
  have hD3 : h3.get? D = some (listObj [] 0) := by rw [← hh3, ← hD]; exact Heap.get?_push_size _ rfl
  have k3 : ∀ b o, s.heap.get? b = some o → h3.get? b = some o := fun b o e => by rw [← hh3]; exact Heap.get?_push_of_some _ e
  show codeAny _ _ _ _ { s with heap := pushCells (h3.push { cls := .type "dict", data := .dict #[] }) scope.names }
  have hs3 : ({ s with heap := h3 } : Shared).heap.objs.size = D + 1 := hC
  rw [hs3]
  generalize hh4 : h3.push { cls := .type "dict", data := .dict #[] } = h4
  have hz4 : h4.objs.size = D + 1 + 1 := by rw [← hh4, Heap.size_push, hC]
  have nC : h4.Ns (D + 1) (fun _ => none) := by rw [← hh4, ← hC]; exact Heap.Ns.new h3 (.type "dict")
  have k4 : ∀ b o, s.heap.get? b = some o → h4.get? b = some o := fun b o e => by rw [← hh4]; exact Heap.get?_push_of_some _ (k3 b o e)
  have hD4 : h4.get? D = some (listObj [] 0) := by rw [← hh4]; exact Heap.get?_push_of_some _ hD3
  -- the cells
  have clOut : ∀ x a, (clOf c.env.cells scope.names []).lookup x = some a → scope.names.lookup x = some .free ∧ c.env.cells.lookup x = some a ∧ a < D ∧ a ∉ fp ∧ ∃ o, s.heap.get? a = some o := by
    intro x a h
    rcases clOf_lookup scope.names [] h with ⟨y, hy, e1, e2, e3⟩ | h
    · obtain ⟨z, hz, e4⟩ := ok.free y hy e2
      obtain ⟨av, hav⟩ := Option.isSome_iff_exists.mp (hcap z hz)
      obtain ⟨v, _, H⟩ := R.vars z av hav
      obtain ⟨_, ko⟩ := ok.out z hz
      have hxz : x = Str.ofString z := by rw [← e1, e4]
      have hk : c.env.kindOf x = some .cell ∨ c.env.kindOf x = some .free := by unfold Env.kindOf; rw [hs, hxz]; exact ko
      have hcell : ∃ b, c.env.cells.lookup x = some b ∧ s.heap.IsCell b (some v) := by
        rw [← hxz] at H
        unfold Held at H
        rcases hk with hk | hk <;> rw [hk] at H <;> exact H
      obtain ⟨b, hb, hcb⟩ := hcell
      have hab : a = b := by rw [e3, hb]; rfl
      subst hab
      refine ⟨by have := ok.dup y hy; rw [e1, e2] at this; exact this, hb, by rw [← hD]; exact hcb.lt, fun hm => ?_, ?_⟩
      · rcases R.cellCase hk hb with ⟨k1, k2, _, _, _⟩ | ⟨o, ho⟩
        · exact off.C _ hm x k1 k2 hb
        · rw [off.B _ hm] at ho; cases ho
      · obtain ⟨o, ho, _⟩ := hcb; exact ⟨o, ho⟩
    · simp at h
  obtain ⟨n1, n2, n3, n4⟩ := cells_new scope.names h4 (clOf c.env.cells scope.names []) (D + 1 + 1) (by rw [hz4]; exact Nat.le_refl _)
    (fun x y a hx _ hl => absurd (clOut x a hx).2.2.1 (by ((try dsimp only [Addr] at *); lia  ))) (fun x a hx hl => absurd (clOut x a hx).2.2.1 (by ((try dsimp only [Addr] at *); lia  )))
  rw [hz4] at n1 n2 n3 n4
  generalize hcells : cellsFrom (D + 1 + 1) scope.names (clOf c.env.cells scope.names []) = cells at n1 n2 n3 n4 ⊢
  generalize hh5 : pushCells h4 scope.names = h5 at n1 ⊢
  have k5' : ∀ b o, h4.get? b = some o → h5.get? b = some o := fun b o e => by rw [← hh5]; exact pushCells_keeps _ _ b o e
  have k5 : ∀ b o, s.heap.get? b = some o → h5.get? b = some o := fun b o e => k5' b o (k4 b o e)
  -- the inner frame
  let cenv : Env := { compEnvN scope (D + 1) cells c.env with scope := relabel scope c.env }
  let c0 : Cx := ⟨cenv, fun b => if b ∈ fp then none else s.heap.get? b, os.length, fun x => scope.names.lookup x == some .free⟩
  have alive : ∀ b, (s.heap.get? b).isSome = true → b < D := fun b e => by obtain ⟨o, ho⟩ := Option.isSome_iff_exists.mp e; rw [← hD]; exact Heap.lt_size ho
  have dead : ∀ b, D ≤ b → s.heap.get? b = none := fun b e => by
    cases q : s.heap.get? b with
    | none => rfl
    | some o => exact absurd (alive b (by rw [q]; rfl)) (Nat.not_lt.mpr e)
  have B0 : ∀ b, D ≤ b → c0.B b = none := fun b e => by show (if b ∈ fp then none else s.heap.get? b) = none; rw [dead b e]; split <;> rfl
  have fpal : ∀ b ∈ fp, b < D := fun b hb => by obtain ⟨o, ho⟩ := hI.alive b hb; exact alive b (by rw [ho]; rfl)
  have adal : ∀ b ∈ ad, b < D := fun b hb => by obtain ⟨o, ho⟩ := R.alive hb; exact alive b (by rw [ho]; rfl)
  have kind0 : ∀ x, cenv.kindOf x = (scope.names.lookup x).map fun k => if (k == .free && sc.kind == .function && sc.names.lookup x == some .cell) then .cell else k := fun x => by
    show (relabel scope c.env).names.lookup x = _
    rw [relabel_eq, hs]; exact relab_lookup
  have ownCell : ∀ x, cenv.kindOf x = some .cell → c0.caps x = false → scope.names.lookup x = some .cell := fun x k kc => by
    rw [kind0] at k
    have kc' : (scope.names.lookup x == some .free) = false := kc
    cases q : scope.names.lookup x with
    | none => rw [q] at k; cases k
    | some kk =>
      rw [q] at k kc'
      simp only [Option.map_some, Option.some.injEq] at k
      have hf : (kk == NameKind.free) = false := by simpa using kc'
      rw [hf] at k
      simp only [Bool.false_and, Bool.false_eq_true, if_false] at k
      rw [k]
  have memOf : ∀ x k, scope.names.lookup x = some k → ∃ z ∈ scope.names, z.1 = x ∧ z.2 = k := fun x k e => ⟨(x, k), mem_of_lookup e, rfl, rfl⟩
  have ownAt : ∀ x a, cenv.kindOf x = some .cell → c0.caps x = false → cells.lookup x = some a → D + 1 + 1 ≤ a := fun x a k kc e => by
    obtain ⟨b, hb, e'⟩ := n3 x (.inl (memOf x _ (ownCell x k kc)))
    rw [e] at e'; cases e'; exact hb
  have freeAt : ∀ x, scope.names.lookup x = some .free → cells.lookup x = (clOf c.env.cells scope.names []).lookup x := fun x hx => n4 x fun z hz e => by
    have := ok.dup z hz
    rw [e, hx] at this
    intro q; rw [q] at this; cases this
  have R0 : Rel c0 (fun _ => none) ad ⟨capV fr vars os.length, os⟩ h5 := by
    refine ⟨fun b o e => ?_, (nC.keeps k5'), B0 (D + 1) (by ((try dsimp only [Addr] at *); lia  )), fun x a k kc e => ?_, fun x y a kx cx ky cy ex ey => n2 x y a ex ey (ownAt x a kx cx ex), fun x k kc => ?_, fun x a k e => ?_, fun x av e => ?_, R.len, R.nodup, fun hm => ?_, fun k o e => ?_, fun k a hk e => ?_, ?_, Nat.le_refl _⟩
    · have e' : (if b ∈ fp then none else s.heap.get? b) = some o := e
      split at e'
      · cases e'
      · exact k5 b o e'
    · have ha := ownAt x a k kc e
      exact ⟨B0 a (by ((try dsimp only [Addr] at *); lia  )), by show a ≠ D + 1; ((try dsimp only [Addr] at *); lia  ), fun hm => absurd (adal a hm) (by ((try dsimp only [Addr] at *); lia  )), none, n1 x a e ha⟩
    · obtain ⟨a, _, e⟩ := n3 x (.inl (memOf x _ (ownCell x k kc)))
      exact ⟨a, e⟩
    · have hx : scope.names.lookup x = some .free := by
        rcases k with k | ⟨_, kc⟩
        · have k' : cenv.kindOf x = some .free := k
          rw [kind0] at k'
          cases q : scope.names.lookup x with
          | none => rw [q] at k'; cases k'
          | some kk =>
            rw [q] at k'
            simp only [Option.map_some, Option.some.injEq] at k'
            split at k'
            · cases k'
            · rw [k']
        · have kc' : (scope.names.lookup x == some .free) = true := kc
          simpa using kc'
      have e' : cells.lookup x = some a := e
      rw [freeAt x hx] at e'
      obtain ⟨_, _, _, hnf, o, ho⟩ := clOut x a e'
      exact ⟨o, by show (if a ∈ fp then none else s.heap.get? a) = some o; rw [if_neg hnf]; exact ho⟩
    · obtain ⟨hx, hv⟩ := capV_lookup e
      obtain ⟨v, rv, H⟩ := R.vars x av hv
      refine ⟨v, rv, ?_⟩
      obtain ⟨hf, ko⟩ := ok.out x hx
      have hk : c.env.kindOf (Str.ofString x) = some .cell ∨ c.env.kindOf (Str.ofString x) = some .free := by unfold Env.kindOf; rw [hs]; exact ko
      have hcell : ∃ b, c.env.cells.lookup (Str.ofString x) = some b ∧ s.heap.IsCell b (some v) := by
        unfold Held at H
        rcases hk with hk | hk <;> rw [hk] at H <;> exact H
      obtain ⟨b, hb, hcb⟩ := hcell
      have hin : cells.lookup (Str.ofString x) = some b := by rw [freeAt _ hf]; exact clOf_at (memOf _ _ hf) hb
      have h0 : ∃ a, c0.env.cells.lookup (Str.ofString x) = some a ∧ h5.IsCell a (some v) := ⟨b, hin, hcb.keeps k5⟩
      have kk : c0.env.kindOf (Str.ofString x) = some .cell ∨ c0.env.kindOf (Str.ofString x) = some .free := by
        show cenv.kindOf _ = _ ∨ cenv.kindOf _ = _
        rw [kind0, hf]
        simp only [Option.map_some]
        split
        · exact .inl rfl
        · exact .inr rfl
      unfold Held
      rcases kk with kk | kk <;> rw [kk] <;> exact h0
    · exact absurd (adal _ hm) (by show ¬ (D + 1 < D); ((try dsimp only [Addr] at *); lia  ))
    · obtain ⟨a, q, r⟩ := R.objs k o e
      exact ⟨a, q, r.mono (List.prefix_refl _) fun ob => k5 a ob⟩
    · have h1 := (List.getElem?_eq_some_iff.mp e).1
      have h2 := R.len
      dsimp only at h2
      have h3 : os.length ≤ k := hk
      ((try dsimp only [Addr] at *); lia  )
    · show os.length ≤ ad.length
      have h2 := R.len
      dsimp only at h2
      ((try dsimp only [Addr] at *); lia  )
  have hc0 : CxOk P c0 := ⟨hc.gl, hc.bu, by show (relabel scope c.env).kind = _; exact ok.kind, fun h hk => hc.gf h fun b o e => hk b o (by
    show (if b ∈ fp then none else s.heap.get? b) = some o
    rw [if_neg (fun hm => by rw [off.B b hm] at e; cases e)]; exact R.keep b o e)⟩
  have hs0 : c0.env.scope = relab scope sc := by show relabel scope c.env = _; rw [relabel_eq, hs]
  have off0 : Off c0 ad (D :: fp) := by
    refine ⟨fun b hb => ?_, fun b hb => ?_, fun b hb => ?_, fun b hb x k kc e => ?_⟩
    · rcases List.mem_cons.mp hb with q | q
      · exact B0 b (by ((try dsimp only [Addr] at *); lia  ))
      · show (if b ∈ fp then none else s.heap.get? b) = none; rw [if_pos q]
    · show b ≠ D + 1
      rcases List.mem_cons.mp hb with q | q
      · ((try dsimp only [Addr] at *); lia  )
      · have := fpal b q; ((try dsimp only [Addr] at *); lia  )
    · intro hm
      rcases List.mem_cons.mp hb with q | q
      · have := adal b hm; ((try dsimp only [Addr] at *); lia  )
      · exact off.A b q hm
    · have := ownAt x b k kc e
      rcases List.mem_cons.mp hb with q | q
      · ((try dsimp only [Addr] at *); lia  )
      · have := fpal b q; ((try dsimp only [Addr] at *); lia  )
  have Dfp : D ∉ fp := fun hm => Nat.lt_irrefl _ (fpal D hm)
  -- the loop
  have loop : codeAny (model P.prog P.w) A (.compLoop (.ListComp elt [⟨target, iter, ifs, 0⟩] scope pos) 0 (.ref I) (.ref D) cenv) (RR (.ref D) (D + 1)) { s with heap := h5 } := by
    refine codeAny_compLoop_own (fun k s' => ∃ h' tk m' ad' σ' i acc vs nn, s' = { s with heap := h', toks := tk } ∧ tk0 ≤ tk ∧ Rel c0 m' ad' σ' h' ∧ ad <+: ad' ∧ ItAt ad' h' I fp ik i ∧ Off c0 ad' (D :: fp) ∧ h'.get? D = some (listObj vs nn) ∧ RVs ad' acc vs ∧ compW ik tg test ew Q k i acc σ') ?_ f
      ⟨h5, s.toks, _, ad, _, 0, [], [], 0, rfl, hT, R0, List.prefix_refl _, hI.keep (List.prefix_refl _) (fun b _ o e => k5 b o e), off0, k5' D _ hD4, .nil, hW⟩
    rintro k s' ⟨h', tk, m', ad', σ', i, acc, vs, nn, rfl, hT', R', p', hI', off', hDo, rs, hw⟩
    cases k with
    | zero => exact hw.elim
    | succ k =>
      obtain ⟨hok', hw⟩ := hw
      have offD : Off c0 ad' [D] := ⟨fun b hb => off'.B b (by simp at hb; simp [hb]), fun b hb => off'.L b (by simp at hb; simp [hb]), fun b hb => off'.A b (by simp at hb; simp [hb]), fun b hb => off'.C b (by simp at hb; simp [hb])⟩
      have offI : Off (c0.with h' [D]) ad' fp := ⟨fun b hb => by
          show (if b ∈ [D] then h'.get? b else c0.B b) = none
          rw [if_neg (fun hm => Dfp (by rw [← List.mem_singleton.mp hm]; exact hb))]; exact off'.B b (List.mem_cons_of_mem _ hb), fun b hb => off'.L b (List.mem_cons_of_mem _ hb), fun b hb => off'.A b (List.mem_cons_of_mem _ hb), fun b hb => off'.C b (List.mem_cons_of_mem _ hb)⟩
      refine it_turn_T (c := c0.with h' [D]) (s := { s with heap := h', toks := tk }) hT' hA (hc0.with offD) ht (by show TgStor c0.env.scope c0.caps tg; rw [hs0]; exact ok.stor) (R'.with offD) offI hI' hok' (fun hn h2 R2 ko => ?_) fun item hit => ?_
      · -- the end
        rw [hn] at hw
        have hD2 : h2.get? D = some (listObj vs nn) := ko D _ Dfp hDo
        obtain ⟨R2', off2, _⟩ := R2.without R' offD (List.prefix_refl _) (fun b hb => by rw [List.mem_singleton.mp hb]; exact ⟨_, hDo⟩)
        have keepO : ∀ b o, b ∉ fp → s.heap.get? b = some o → h2.get? b = some o := fun b o hb e => R2'.keep b o (by show (if b ∈ fp then none else s.heap.get? b) = some o; rw [if_neg hb]; exact e)
        have Ro := R.off off keepO
        have newB : ∀ (j : Nat) (a : Addr), ad.length ≤ j → ad'[j]? = some a → c0.B a = none := fun j a hj e => R2'.fresh j a (by show os.length ≤ j; have := R.len; dsimp only at this; ((try dsimp only [Addr] at *); lia  )) e
        have oldAt : ∀ (j : Nat) (a : Addr), j < ad.length → ad'[j]? = some a → ad[j]? = some a := fun j a hj e => by
          obtain ⟨r, rfl⟩ := p'
          rwa [List.getElem?_append_left hj] at e
        have c0B : ∀ a o, s.heap.get? a = some o → a ∉ fp → c0.B a = some o := fun a o e hb => by show (if a ∈ fp then none else s.heap.get? a) = some o; rw [if_neg hb]; exact e
        have notNew : ∀ a o, s.heap.get? a = some o → a ∉ fp → a ∉ ad → a ∉ ad' := fun a o e hb ha hm => by
          obtain ⟨j, hj⟩ := List.getElem?_of_mem hm
          by_cases hl : j < ad.length
          · exact ha (List.mem_of_getElem? (oldAt j a hl hj))
          · have := newB j a (Nat.not_lt.mp hl) hj
            rw [c0B a o e hb] at this; cases this
        have Lal : ∃ o, s.heap.get? c.env.locals = some o := by obtain ⟨o, _, _, e, _⟩ := R.ns; exact ⟨o, e⟩
        have Rx : Rel c m ad' ⟨vars, σ'.objs⟩ h2 := by
          refine ⟨Ro.keep, Ro.ns, Ro.bL, fun x a kx cx e => ?_, Ro.cellInj, Ro.cellAll, Ro.cellFree, fun x av e => ?_, R2'.len, R2'.nodup, ?_, R2'.objs, fun j a hj e => ?_, Nat.le_trans R.roLe p'.length_le, R.roEq⟩
          · obtain ⟨q1, q2, q3, q4⟩ := Ro.cellOwn x a kx cx e
            obtain ⟨_, _, _, v0, o0, ho0, _⟩ := R.cellOwn x a kx cx e
            exact ⟨q1, q2, notNew a o0 ho0 (fun hm => off.C a hm x kx cx e) q3, q4⟩
          · obtain ⟨v, rv, H⟩ := Ro.vars x av e
            exact ⟨v, rv.mono p', H⟩
          · obtain ⟨o, ho⟩ := Lal
            exact notNew _ o ho (fun hm => off.L _ hm rfl) R.lad
          · by_cases hl : j < ad.length
            · exact R.fresh j a hj (oldAt j a hl e)
            · have h1 := newB j a (Nat.not_lt.mp hl) e
              cases q : c.B a with
              | none => rfl
              | some o => rw [c0B a o (R.keep a o q) (fun hm => by rw [off.B a hm] at q; cases q)] at h1; cases h1
        have Dout : ∀ x a, c.env.cells.lookup x = some a → c.env.kindOf x = some .cell → c.caps x = false → a < D := fun x a e kx cx => by
          obtain ⟨_, _, _, v0, o0, ho0, _⟩ := R.cellOwn x a kx cx e
          exact alive a (by rw [ho0]; rfl)
        have Llt : c.env.locals < D := by obtain ⟨o, ho⟩ := Lal; exact alive _ (by rw [ho]; rfl)
        have cB : ∀ b, D ≤ b → c.B b = none := fun b hb => by
          cases q : c.B b with
          | none => rfl
          | some o => exact absurd (alive b (by rw [R.keep b o q]; rfl)) (Nat.not_lt.mpr hb)
        have Ry := Rx.adopt (a := D) (o := .list acc) (off'.A D (List.mem_cons_self ..)) (by ((try dsimp only [Addr] at *); lia  )) (cB D (Nat.le_refl _)) (fun x kx cx e => Nat.lt_irrefl _ (Dout x D e kx cx)) ⟨vs, nn, hD2, rs.mono (List.prefix_append ..)⟩
        have hRD : RV (ad' ++ [D]) (.ref σ'.objs.length) (.ref D) := .ref _ _ (by have := R2'.len; rw [← this, List.getElem?_append_right (Nat.le_refl _), Nat.sub_self]; rfl)
        refine hK h2 tk m' (ad' ++ [D]) σ'.objs acc D (D + 1) Ry (p'.trans (List.prefix_append ..)) hRD hw R2'.ns ⟨fun b hb => ?_, fun b hb => ?_, fun b hb hm => ?_, fun b hb x kx cx e => ?_⟩
        · rw [List.mem_singleton.mp hb]; exact cB _ (by ((try dsimp only [Addr] at *); lia  ))
        · rw [List.mem_singleton.mp hb]; ((try dsimp only [Addr] at *); lia  )
        · rw [List.mem_singleton.mp hb] at hm
          rcases List.mem_append.mp hm with hm | hm
          · exact R2'.lad hm
          · have := List.mem_singleton.mp hm; ((try dsimp only [Addr] at *); lia  )
        · rw [List.mem_singleton.mp hb] at e
          have := Dout x _ e kx cx; ((try dsimp only [Addr] at *); lia  )
      · rw [hit] at hw
        dsimp only at hw
        split at hw
        · exact hw.elim
        · rename_i σ2 hbind
          refine ⟨σ2, hbind, fun h2 tk2 m2 hT2 R2 hI2 => ?_⟩
          obtain ⟨R2', _, keepD⟩ := R2.without R' offD (List.prefix_refl _) (fun b hb => by rw [List.mem_singleton.mp hb]; exact ⟨_, hDo⟩)
          have hD2 := keepD D (by simp) _ hDo
          have al2 : ∀ b ∈ D :: fp, ∃ o, h2.get? b = some o := fun b hb => by
            rcases List.mem_cons.mp hb with q | q
            · rw [q]; exact ⟨_, hD2⟩
            · exact hI2.alive b q
          refine htest.up (c0.with h2 (D :: fp)) A _ m2 ad' σ2 _ _ _ (hc0.with off') hs0 hA hT2 (R2'.with off') hw fun h3 tk3 ad3 os3 b hT3 R3 p3 q3 => ?_
          cases b with
          | false =>
            obtain ⟨R4, off4, keep4⟩ := R3.without R2' off' p3 al2
            exact ⟨k, Nat.lt_succ_self _, h3, tk3, m2, ad3, _, i + 1, acc, vs, nn, rfl, hT3, R4, p'.trans p3, hI2.keep p3 (fun b hb o e => keep4 b (List.mem_cons_of_mem _ hb) o e), off4, keep4 D (List.mem_cons_self ..) _ hD2, rs.mono p3, q3.2 rfl⟩
          | true =>
            refine helt.up (c0.with h2 (D :: fp)) A _ m2 ad3 ⟨σ2.vars, os3⟩ _ _ _ (hc0.with off') hs0 hA hT3 R3 (q3.1 rfl) fun h4 tk4 v4 ad4 os4 a4 hT4 R4 p4 r4 q4 => ?_
            obtain ⟨R5, off5, keep5⟩ := R4.without R2' off' (p3.trans p4) al2
            have hD5 := keep5 D (List.mem_cons_self ..) _ hD2
            have hsz : vs.toArray.size ≤ sizeLine := by
              have := rs.length
              rw [List.size_toArray, ← this]; exact q4.1
            refine wpAny_list_append_plain (hsz := hsz) ⟨nn, hD5⟩ fun h6 hl6 hs6 => ?_
            obtain ⟨n6, hl6⟩ := hl6
            have offD5 : Off c0 ad4 [D] := ⟨fun b hb => off5.B b (by simp at hb; simp [hb]), fun b hb => off5.L b (by simp at hb; simp [hb]), fun b hb => off5.A b (by simp at hb; simp [hb]), fun b hb => off5.C b (by simp at hb; simp [hb])⟩
            refine ⟨k, Nat.lt_succ_self _, h6, tk4, m2, ad4, _, i + 1, acc ++ [a4], vs ++ [v4], n6, rfl, hT4, R5.off offD5 (fun b o hb e => (hs6.2 b (fun q => hb (by simp [q]))).trans e), (p'.trans p3).trans p4, ?_, off5, ?_, ((rs.mono p3).mono p4).append (.cons r4 .nil), q4.2⟩
            · exact (hI2.keep (p3.trans p4) (fun b hb o e => keep5 b (List.mem_cons_of_mem _ hb) o e)).keep (List.prefix_refl _) fun b hb o e => (hs6.2 b (fun q => Dfp (q ▸ hb))).trans e
            · rw [hl6]; simp [listObj]
  exact codeAny_compStart_list loop (it_self (hI.keep (List.prefix_refl _) (fun b _ o e => k5 b o e)) loop)
theorem KEEPs {C : Addr} {c : Cx} {m m' : Str → Option Value} {ad : List Addr} {σ : St} {h h' : Heap} (R : Rel c m ad σ h) (off : Off c ad [C]) (hs : Heap.SameBut C h h') : Rel c m ad σ h' :=
  R.off off fun b o hb e => hs.extBut b o (fun q => hb (by simp [q])) e
noncomputable def wComp (it : WI) (fr : List String) (tg : Tg) (test : WB) (ew : WE) : WE := fun σ Q => (∀ x ∈ fr, (σ.vars.lookup x).isSome = true) ∧ it σ fun ik o => ∃ f, compW ik tg test ew (fun acc os' => Q (.ref os'.length) (os' ++ [.list acc])) f 0 [] ⟨capV fr σ.vars o.length, o⟩
theorem comp_clos {c : Cx} {m : Str → Option Value} {ad : List Addr} {σ : St} {h : Heap} {scope : Scope} {fr : List String} {tg : Tg} (hs : c.env.scope = sc) (R : Rel c m ad σ h) (ok : CompOk scope sc fr tg) (hcap : ∀ x ∈ fr, (σ.vars.lookup x).isSome = true) :
    ∀ y ∈ scope.names, y.2 = .free → ∃ a, c.env.cells.lookup y.1 = some a := fun y hy hf => by
  obtain ⟨x, hx, e⟩ := ok.free y hy hf
  obtain ⟨_, hk⟩ := ok.out x hx
  obtain ⟨av, hav⟩ := Option.isSome_iff_exists.mp (hcap x hx)
  obtain ⟨v, _, H⟩ := R.vars x av hav
  rw [e]
  unfold Held Env.kindOf at H
  rw [hs] at H
  rcases hk with hk | hk <;> rw [hk] at H <;> exact H.imp fun a h => h.1
theorem ev_comp {elt target iter : Expr} {ifs : List Expr} {scope : Scope} {pos : Pos} {tg : Tg} {fr : List String} {it : WI} {test : WB} {ew : WE} (hi : EvI P n sc iter it) (ok : CompOk scope sc fr tg) (ht : TgE target tg)
    (htest : EvT P n (relab scope sc) ifs test) (helt : EvE P n (relab scope sc) elt ew) (hf : ∀ env x, foldedSetIterable iter env x = pure x := by intro _ _; rfl) :
    EvE P n sc (.ListComp elt [⟨target, iter, ifs, 0⟩] scope pos) (wComp it fr tg test ew) := fun c A s m ad σ Q Q' E hc hs hA R hp hQ => by
  rw [eval_ListComp]
  obtain ⟨hcap, hp⟩ := hp
  refine wpAny_comprehension_free (use := none) rfl (fun x => hf _ x) (closure_eq (comp_clos hs R ok hcap)) ok.kind (fun x hx e => by rw [ok.dup x hx, e]) ?_
  refine hi c A s m ad σ _ _ _ hc hs hA R hp fun h1 tk1 ad1 os1 ik I fp R1 p1 hI off hok q1 => ?_
  obtain ⟨f, q1⟩ := q1
  refine comp_core (tk0 := 0) (s := { s with heap := h1, toks := tk1 }) (RR := fun acc C => compPost (model P.prog P.w) A E none Q' acc C) hc hs hA R1 hI off ok ht htest (helt.t 0) (Nat.zero_le _) hcap q1 fun h2 tk2 m2 ad2 os2 acc D C R2 p2 r2 q2 nC offC => ?_
  exact ⟨m2, nC, fun h3 hs3 => hQ h3 tk2 _ ad2 _ _ (KEEPs (m' := m2) R2 offC hs3) (p1.trans p2) r2 q2⟩
/-- x = [.. for ..] on one line: the store stands ahead of the names' letting go -/
theorem ex_assign_comp {x : String} {xp spos : Pos} {elt target iter : Expr} {ifs : List Expr} {scope : Scope} {pos : Pos} {tg : Tg} {fr : List String} {it : WI} {test : WB} {ew : WE} (hx : Own sc x) (hi : EvI P n sc iter it) (ok : CompOk scope sc fr tg) (ht : TgE target tg)
    (htest : EvT P n (relab scope sc) ifs test) (helt : EvE P n (relab scope sc) elt ew)
    (hsw : ∀ env : Env, env.scope = sc → swapsWith (.ListComp elt [⟨target, iter, ifs, 0⟩] scope pos) (some (.Name (Str.ofString x) xp)) spos.line env = pure true)
    (hf : ∀ env x, foldedSetIterable iter env x = pure x := by intro _ _; rfl) :
    EvX P n sc (.Assign [.Name (Str.ofString x) xp] (.ListComp elt [⟨target, iter, ifs, 0⟩] scope pos) spos) (wSet x (wComp it fr tg test ew)) := fun c A s m ad σ Q Q' E hc hs hcp hA R hp hQ => by
  obtain ⟨hcap, hp⟩ := hp
  rw [exec_Assign_Name_used _ _ _ _ (hsw _ hs)]
  refine wpAny_bind (wpAny_standAt (wpAny_bind ?_))
  show wpAny _ A (do let _ ← comprehension (.ListComp elt [⟨target, iter, ifs, 0⟩] scope pos) scope c.env _ (newList []) false (eval iter c.env) (some (assign (.Name (Str.ofString x) xp) c.env))) _ _ s
  refine wpAny_bind (wpAny_mono (wpAny_comprehension_free (use := some (assign (.Name (Str.ofString x) xp) c.env)) (Q := fun _ s' => Q' .next s') rfl (fun x => hf _ x) (closure_eq (comp_clos hs R ok hcap)) ok.kind (fun x hx e => by rw [ok.dup x hx, e]) ?_)
    (fun _ s' hq => wpAny_pure (wpAny_pure hq)) fun _ _ e => e)
  refine hi c A s m ad σ _ _ _ hc hs hA R hp fun h1 tk1 ad1 os1 ik I fp R1 p1 hI off hok q1 => ?_
  obtain ⟨f, q1⟩ := q1
  refine comp_core (tk0 := 0) (s := { s with heap := h1, toks := tk1 }) (RR := fun acc C => compPost (model P.prog P.w) A E (some (assign (.Name (Str.ofString x) xp) c.env)) (fun _ s' => Q' .next s') acc C) hc hs hA R1 hI off ok ht htest (helt.t 0) (Nat.zero_le _) hcap q1 fun h2 tk2 m2 ad2 os2 acc D C R2 p2 r2 q2 nC offC => ?_
  show wpAny _ A (assign (.Name (Str.ofString x) xp) c.env (.ref D)) _ _ _
  refine assign_one (s := { s with heap := h2, toks := tk2 }) hc (by rw [hs]; exact Stor.mono hx hcp) R2 r2 offC fun h3 tk3 m3 R3 k3 => ?_
  exact ⟨m2, nC.at' fun o e => k3 C (by simp) o e, fun h4 hs4 => hQ h4 tk3 .next m3 ad2 _ .next (KEEPs (m' := m2) R3 offC hs4) (p1.trans p2) .next q2⟩
end
end Mine
end P4
section P5
set_option maxRecDepth 100000
set_option Elab.async false
set_option autoImplicit false
set_option linter.unusedSimpArgs false
set_option linter.unusedVariables false
namespace Mine
open PySem PyProof.Rows
/-- the callee's frame is gone: what it made stays -/
theorem Rel.back {c c' : Cx} {m m' : Str → Option Value} {ad ad' : List Addr} {vars : Vs} {os : List AO} {σ' : St} {h h' : Heap} (R : Rel c m ad ⟨vars, os⟩ h) (R' : Rel c' m' ad' σ' h')
    (hB : ∀ b o, h.get? b = some o → c'.B b = some o) (hro : c'.ro = os.length) (p : ad <+: ad') : Rel c m ad' ⟨vars, σ'.objs⟩ h' := by
  have Ro := R.keeps fun b o e => R'.keep b o (hB b o e)
  have hlen : ad.length = os.length := R.len
  have newB : ∀ (j : Nat) (a : Addr), ad.length ≤ j → ad'[j]? = some a → c'.B a = none := fun j a hj e => R'.fresh j a (by lia  ) e
  have oldAt : ∀ (j : Nat) (a : Addr), j < ad.length → ad'[j]? = some a → ad[j]? = some a := fun j a hj e => by
    obtain ⟨r, rfl⟩ := p
    rwa [List.getElem?_append_left hj] at e
  have notNew : ∀ a o, h.get? a = some o → a ∉ ad → a ∉ ad' := fun a o e ha hm => by
    obtain ⟨j, hj⟩ := List.getElem?_of_mem hm
    by_cases hl : j < ad.length
    · exact ha (List.mem_of_getElem? (oldAt j a hl hj))
    · have := newB j a (Nat.not_lt.mp hl) hj
      rw [hB a o e] at this; cases this
  refine ⟨Ro.keep, Ro.ns, Ro.bL, fun x a kx cx e => ?_, Ro.cellInj, Ro.cellAll, Ro.cellFree, fun x av e => ?_, R'.len, R'.nodup, ?_, R'.objs, fun j a hj e => ?_, Nat.le_trans R.roLe p.length_le, R.roEq⟩
  · obtain ⟨q1, q2, q3, q4⟩ := Ro.cellOwn x a kx cx e
    obtain ⟨_, _, _, v0, o0, ho0, _⟩ := R.cellOwn x a kx cx e
    exact ⟨q1, q2, notNew a o0 ho0 q3, q4⟩
  · obtain ⟨v, rv, H⟩ := Ro.vars x av e
    exact ⟨v, rv.mono p, H⟩
  · obtain ⟨o, _, _, ho, _⟩ := R.ns
    exact notNew _ o ho R.lad
  · by_cases hl : j < ad.length
    · exact R.fresh j a hj (oldAt j a hl e)
    · have h1 := newB j a (Nat.not_lt.mp hl) e
      cases q : c.B a with
      | none => rfl
      | some o => rw [hB a o (R.keep a o q)] at h1; cases h1
inductive BR (ad : List Addr) : List (String × AV) → List (Str × Value) → Prop
  | nil : BR ad [] []
  | cons {x : String} {a : AV} {v : Value} {l : List (String × AV)} {r : List (Str × Value)} (h : RV ad a v) (t : BR ad l r) : BR ad ((x, a) :: l) ((Str.ofString x, v) :: r)
theorem BR.names {ad : List Addr} {l : List (String × AV)} {r : List (Str × Value)} (b : BR ad l r) : r.map (·.1) = l.map fun p => Str.ofString p.1 := by
  induction b with
  | nil => rfl
  | cons _ _ ih => simp [ih]
theorem BR.at {ad : List Addr} {l : List (String × AV)} {r : List (Str × Value)} (b : BR ad l r) {x : String} {a : AV} (e : l.lookup x = some a) : ∃ v, r.lookup (Str.ofString x) = some v ∧ RV ad a v := by
  induction b with
  | nil => simp at e
  | @cons y a' v l r h t ih =>
    by_cases hx : x = y
    · subst hx
      rw [List.lookup_cons_self] at e; cases e
      exact ⟨v, List.lookup_cons_self, h⟩
    · rw [List.lookup_cons, beq_eq_false_iff_ne.mpr hx] at e
      have hne : Str.ofString x ≠ Str.ofString y := fun q => hx (ofString_inj q)
      rw [List.lookup_cons, beq_eq_false_iff_ne.mpr hne]
      exact ih e
theorem bindL_not {kindOf : Str → Option NameKind} {x : Str} : ∀ (binds : List (Str × Value)) (m : Str → Option Value), x ∉ binds.map (·.1) → bindL kindOf binds m x = m x
  | [], m, _ => rfl
  | (n, v) :: r, m, h => by
    unfold bindL
    rw [bindL_not r _ (fun q => h (List.mem_cons_of_mem _ q))]
    split
    · have : x ≠ n := fun q => h (by rw [q]; exact List.mem_cons_self ..)
      simp [this]
    · rfl
theorem bindC_not {kindOf : Str → Option NameKind} {x : Str} : ∀ (binds : List (Str × Value)) (m : Str → Option Value), x ∉ binds.map (·.1) → bindC kindOf binds m x = m x
  | [], m, _ => rfl
  | (n, v) :: r, m, h => by
    unfold bindC
    rw [bindC_not r _ (fun q => h (List.mem_cons_of_mem _ q))]
    split
    · rfl
    · have : x ≠ n := fun q => h (by rw [q]; exact List.mem_cons_self ..)
      simp [this]
theorem bindL_at {kindOf : Str → Option NameKind} {x : Str} {v : Value} (hk : kindOf x = some .local) : ∀ (binds : List (Str × Value)) (m : Str → Option Value), (binds.map (·.1)).Nodup → binds.lookup x = some v → bindL kindOf binds m x = some v
  | (n, u) :: r, m, hn, h => by
    rw [List.map_cons, List.nodup_cons] at hn
    unfold bindL
    by_cases hx : x = n
    · subst hx
      rw [List.lookup_cons_self] at h; cases h
      rw [bindL_not r _ hn.1, if_pos hk]; simp
    · rw [List.lookup_cons, beq_eq_false_iff_ne.mpr hx] at h
      exact bindL_at hk r _ hn.2 h
theorem bindC_at {kindOf : Str → Option NameKind} {x : Str} {v : Value} (hk : kindOf x = some .cell) : ∀ (binds : List (Str × Value)) (m : Str → Option Value), (binds.map (·.1)).Nodup → binds.lookup x = some v → bindC kindOf binds m x = some v
  | (n, u) :: r, m, hn, h => by
    rw [List.map_cons, List.nodup_cons] at hn
    unfold bindC
    by_cases hx : x = n
    · subst hx
      rw [List.lookup_cons_self] at h; cases h
      rw [bindC_not r _ hn.1, if_neg (by rw [hk]; decide)]; simp
    · rw [List.lookup_cons, beq_eq_false_iff_ne.mpr hx] at h
      exact bindC_at hk r _ hn.2 h
structure FnAt (P : Par) (F : Addr) (fd : FuncData) (body : List Stmt) : Prop where
  at_ : ∀ h, P.GF h → ∃ o, h.get? F = some o ∧ o.data = .func fd
  code : ∀ h, P.GF h → h.CodeRec fd.code fd.qualname
  body : fd.body = .stmts body
  gl : fd.globals = mainGlobals
  bu : fd.builtins = builtinsNs
  clo : fd.closure = []
  kind : fd.scope.kind = .function
  co : fd.scope.isCoroutine = false
  gen : fd.scope.isGenerator = false
  nofree : ∀ z ∈ fd.scope.names, z.2 ≠ .free
/-- the arguments fill these names -/
noncomputable def Bnd (P : Par) (fd : FuncData) (avs : List AV) (bs : List (String × AV)) : Prop :=
  ∀ (s : Shared) (ad : List Addr) (vs : List Value), P.GF s.heap → RVs ad avs vs → ∃ binds, BindsTo s fd ⟨vs, []⟩ binds ∧ BR ad bs binds
noncomputable def OkB (sc : Scope) (bs : List (String × AV)) : Prop := (bs.map fun p => Str.ofString p.1).Nodup ∧ ∀ p ∈ bs, sc.names.lookup (Str.ofString p.1) = some .local ∨ sc.names.lookup (Str.ofString p.1) = some .cell
noncomputable def retOf : AF → AV
  | .ret a => a
  | .next => .none
noncomputable def wFn (P : Par) (fd : FuncData) (p : WS) : List AV → List AO → VP → Prop := fun avs os Q => ∃ bs, Bnd P fd avs bs ∧ OkB fd.scope bs ∧ p ⟨⟨bs, os.length⟩, os⟩ fun fl σ' => Q (retOf fl) σ'.objs
section
variable {P : Par} {n : Nat}
theorem fn_ok {F : Addr} {fd : FuncData} {body : List Stmt} {p : WS} (H : FnAt P F fd body) (hb : EvS P n fd.scope body p) : OpOk P (n + 1) (fun vs => call (.ref F) vs) (wFn P fd p) := by
  intro c A s m ad vars os avs vs Q Q' E hc hA R rs hp hQ
  obtain ⟨bs, hbnd, ⟨hnd, hko⟩, hp⟩ := hp
  have G := hc.gf _ R.keep
  obtain ⟨o, ho, hd⟩ := H.at_ _ G
  obtain ⟨binds, hB, hBR⟩ := hbnd s ad vs G rs
  have hnames := hBR.names
  have hnd' : (binds.map (·.1)).Nodup := by rw [hnames]; exact hnd
  obtain ⟨n1, n2, n3, n4⟩ := cells_new fd.scope.names (s.heap.push { cls := .type "frame", data := .dict #[] }) [] (s.heap.objs.size + 1) (by rw [Heap.size_push]; exact Nat.le_refl _) (fun x y a hx => by simp at hx) (fun x a hx => by simp at hx)
  rw [Heap.size_push] at n2 n3 n4
  refine wpAny_call (codeAny_call_function hA.room ho hd H.co H.gen H.body (H.code _ G) (hB _ _ _ _ ?_))
  rw [H.clo]
  refine wpAny_newFunctionEnv_cells H.kind (fun x hx => ?_) fun env he s' x => ?_
  · have hm : x.1 ∈ binds.map (·.1) := List.mem_map_of_mem hx
    rw [hnames] at hm
    obtain ⟨p, hp', e⟩ := List.mem_map.mp hm
    rw [← e]
    refine (hko p hp').imp id fun k => ⟨k, ?_⟩
    obtain ⟨a, _, ha⟩ := n3 (Str.ofString p.1) (.inl ⟨(_, _), mem_of_lookup k, rfl, rfl⟩)
    rw [ha]; rfl
  subst he
  refine ⟨(P.lim _ G).keeps x.toInCall.keep, codeAny_func ?_⟩
  obtain ⟨h1, tk1, rfl⟩ := x.toInCall.same
  -- the new frame
  let env : Env := newEnv fd.scope s.heap.objs.size fd.globals (cellsFrom (s.heap.objs.size + 1) fd.scope.names []) (fd.qualname ++ ".<locals>.") (some F) fd.code none fd.builtins
  let c0 : Cx := ⟨env, s.heap.get?, os.length, fun _ => false⟩
  have dead : ∀ b, s.heap.objs.size ≤ b → s.heap.get? b = none := fun b e => by
    cases q : s.heap.get? b with
    | none => rfl
    | some o => exact absurd (Heap.lt_size q) (Nat.not_lt.mpr e)
  have adal : ∀ b ∈ ad, b < s.heap.objs.size := fun b hb => by obtain ⟨o, ho⟩ := R.alive hb; exact Heap.lt_size ho
  have R0 : Rel c0 (bindL env.kindOf binds fun _ => none) ad ⟨⟨bs, os.length⟩, os⟩ h1 := by
    refine ⟨x.toInCall.keep, x.toInCall.ns, dead _ (Nat.le_refl _), fun y a k _ e => ?_, fun y z a _ _ _ _ ey ez => name_of_addr x.apart (mem_of_lookup ey) (mem_of_lookup ez), fun y k _ => ?_, fun y a k e => ?_, fun y av e => ?_, R.len, R.nodup, fun hm => ?_, fun k o e => ?_, fun k a hk e => ?_, ?_, Nat.le_refl _⟩
    · have ha := x.above y a (mem_of_lookup e)
      exact ⟨dead a (Nat.le_of_lt ha), Nat.ne_of_gt ha, fun hm => absurd (adal a hm) (Nat.not_lt.mpr (Nat.le_of_lt ha)), _, x.cell y a e⟩
    · obtain ⟨a, _, ha⟩ := n3 y (.inl ⟨(_, _), mem_of_lookup k, rfl, rfl⟩)
      exact ⟨a, ha⟩
    · rcases k with k | ⟨_, k⟩
      · exact absurd rfl (H.nofree _ (mem_of_lookup k))
      · cases k
    · obtain ⟨v, hv, rv⟩ := hBR.at e
      refine ⟨v, rv, ?_⟩
      have hmem : (y, av) ∈ bs := by
        have : ∀ {l : List (String × AV)}, l.lookup y = some av → (y, av) ∈ l := by
          intro l
          induction l with
          | nil => intro h; simp at h
          | cons p r ih =>
            intro h
            rw [List.lookup_cons] at h
            split at h
            · rename_i hb; cases h; rw [eq_of_beq hb]; exact List.mem_cons_self ..
            · exact List.mem_cons_of_mem _ (ih h)
        exact this e
      unfold Held
      rcases hko _ hmem with k | k
      · have k' : c0.env.kindOf (Str.ofString y) = some .local := k
        rw [k']
        exact bindL_at k' binds _ hnd' hv
      · have k' : c0.env.kindOf (Str.ofString y) = some .cell := k
        rw [k']
        obtain ⟨a, _, ha⟩ := n3 (Str.ofString y) (.inl ⟨(_, _), mem_of_lookup k, rfl, rfl⟩)
        refine ⟨a, ha, ?_⟩
        have := x.cell _ a ha
        have e2 : bindC env.kindOf binds (fun _ => none) (Str.ofString y) = some v := bindC_at k' binds _ hnd' hv
        exact e2 ▸ this
    · exact absurd (adal _ hm) (Nat.lt_irrefl _)
    · obtain ⟨a, q, r⟩ := R.objs k o e
      exact ⟨a, q, r.mono (List.prefix_refl _) fun ob => x.toInCall.keep a ob⟩
    · have h1 := (List.getElem?_eq_some_iff.mp e).1
      have h2 : ad.length = os.length := R.len
      have h3 : os.length ≤ k := hk
      lia  
    · have h2 : ad.length = os.length := R.len
      show os.length ≤ ad.length; lia  
  have hc0 : CxOk P c0 := ⟨H.gl, H.bu, H.kind, fun h hk => hc.gf h fun b o e => hk b o (R.keep b o e)⟩
  refine hb c0 _ _ _ ad _ _ _ _ hc0 rfl (fun _ => rfl) (hA.deeper _) R0 hp fun h2 tk2 f m2 ad2 σ2 af R2 p2 rf q2 => ?_
  have Rb := R.back R2 (fun _ _ e => e) rfl p2
  cases rf with
  | next => exact hQ h2 tk2 _ ad2 _ _ Rb p2 .none q2
  | ret r => exact hQ h2 tk2 _ ad2 _ _ Rb p2 r q2
end
end Mine
end P5
section P6
set_option maxRecDepth 100000
set_option Elab.async false
set_option autoImplicit false
set_option linter.unusedSimpArgs false
set_option linter.unusedVariables false
namespace Mine
open PySem PyProof.Rows
section
variable {P : Par} {n : Nat} {sc : Scope}
theorem Post.pushed {c : Cx} {m : Str → Option Value} {ad : List Addr} {vars : Vs} {os : List AO} {s : Shared} {Q : VP} {Q' : Value → Shared → Prop} (h : Post c m ad vars s Q Q') (R : Rel c m ad ⟨vars, os⟩ s.heap) {as : List AV} {vs : List Value} (rs : RVs ad as vs) (q : Q (.ref os.length) (os ++ [.list as])) (k tk : Nat) :
    Q' (.ref s.heap.objs.size) { s with heap := s.heap.push (listObj vs k), toks := tk } := by
  obtain ⟨R2, r2⟩ := R.pushList rs k
  exact h _ tk _ _ _ _ R2 (List.prefix_append ..) r2 q
/-- + -/
noncomputable def wAdd : List AV → List AO → VP → Prop
  | [.int a, .int b], os, Q => Q (.int (a + b)) os
  | [.str x, .str y], os, Q => x.length + y.length ≤ 16777216 ∧ Q (.str (x ++ y)) os
  | [.bytes x, .bytes y], os, Q => x.size + y.size ≤ 16777216 ∧ Q (.bytes (x ++ y)) os
  | [.ref j, .ref k], os, Q => ∃ as bs, os[j]? = some (.list as) ∧ os[k]? = some (.list bs) ∧ as.length + bs.length ≤ 16777216 ∧ Q (.ref os.length) (os ++ [.list (as ++ bs)])
  | _, _, _ => False
theorem add_list_av {c : Cx} {A : Around} {s : Shared} {m : Str → Option Value} {ad : List Addr} {vars : Vs} {os : List AO} {j k : Nat} {a b : Addr} {as bs : List AV} {Q : VP} {Q' : Value → Shared → Prop} {E : Value → Shared → Prop}
    (R : Rel c m ad ⟨vars, os⟩ s.heap) (ea : ad[j]? = some a) (eb : ad[k]? = some b) (ha : os[j]? = some (.list as)) (hb : os[k]? = some (.list bs)) (hz : as.length + bs.length ≤ 16777216)
    (q : Q (.ref os.length) (os ++ [.list (as ++ bs)])) (hQ : Post c m ad vars s Q Q') : wpAny (model P.prog P.w) A (binaryOp .Add (.ref a) (.ref b)) Q' E s := by
  obtain ⟨us, hl, ru⟩ := (R.obj ha ea).list_at
  obtain ⟨ws, hl2, rw_⟩ := (R.obj hb eb).list_at
  have e1 := ru.length
  have e2 := rw_.length
  refine PySem.W.kmk_add_lit (zs := us ++ ws) R.fr R.news hl hl2 (by simp) (fun D h' F N hD => ?_) (by rw [sizeLine_eq]; simp; lia  )
  have hk := kl_of_news F N fun p hp => List.mem_cons_of_mem _ hp
  have hn : s.heap.get? D = none := by
    cases e : s.heap.get? D with
    | none => rfl
    | some o =>
      by_cases hL : D = c.env.locals
      · exact absurd hL (N _ (List.mem_cons_self ..)).2.1
      · exact absurd (hD _ (allNews_mem hL e)) (Nat.lt_irrefl _)
  have hob : h'.get? D = some (listObj (us ++ ws) 0) := (N _ (List.mem_cons_self ..)).1
  have R2 := R.alloc (o := .list (as ++ bs)) hk hn ⟨us ++ ws, 0, hob, (ru.append rw_).mono (List.prefix_append ..)⟩
  refine hQ h' s.toks _ _ _ _ R2 (List.prefix_append ..) (.ref _ _ ?_) q
  have := R.len
  dsimp only at this
  rw [← this, List.getElem?_append_right (Nat.le_refl _), Nat.sub_self]; rfl
theorem op_add : OpOk P n (fun vs => binaryOp .Add (vs.getD 0 .none) (vs.getD 1 .none)) wAdd := by
  intro c A s m ad vars os avs vs Q Q' E hc hA R rs hp hQ
  unfold wAdd at hp
  split at hp
  · cases rs with | cons r1 rs => cases rs with | cons r2 rs => cases rs with | nil => cases r1; cases r2; exact PySem.P.add_int (hQ.now R (.int _ _) hp _)
  · cases rs with | cons r1 rs => cases rs with | cons r2 rs => cases rs with | nil => cases r1; cases r2; exact SB.add (fun t' k => hQ.now R (.str _ _) hp.2 _) (by rw [sizeLine_eq]; exact hp.1)
  · cases rs with | cons r1 rs => cases rs with | cons r2 rs => cases rs with | nil => cases r1; cases r2; exact PySem.W.KBy.add_bytes hp.1 (fun t' k => hQ.now R (.bytes _ _) hp.2 _)
  · cases rs with | cons r1 rs => cases rs with | cons r2 rs => cases rs with | nil =>
      cases r1 with | ref _ a ea => cases r2 with | ref _ b eb =>
        obtain ⟨as, bs, ha, hb, hz, q⟩ := hp
        exact add_list_av R ea eb ha hb hz q hQ
  · exact hp.elim
noncomputable def wIAdd : List AV → List AO → VP → Prop
  | [.int a, .int b], os, Q => Q (.int (a + b)) os
  | _, _, _ => False
theorem op_iadd : OpOk P n (fun vs => inplaceOp .Add (vs.getD 0 .none) (vs.getD 1 .none)) wIAdd := by
  intro c A s m ad vars os avs vs Q Q' E hc hA R rs hp hQ
  unfold wIAdd at hp
  split at hp
  · cases rs with | cons r1 rs => cases rs with | cons r2 rs => cases rs with | nil => cases r1; cases r2; exact PySem.P.iadd_int (hQ.now R (.int _ _) hp _)
  · exact hp.elim
/-- - -/
noncomputable def wSub : List AV → List AO → VP → Prop
  | [.int a, .int b], os, Q => Q (.int (a - b)) os
  | _, _, _ => False
theorem op_sub : OpOk P n (fun vs => binaryOp .Sub (vs.getD 0 .none) (vs.getD 1 .none)) wSub := by
  intro c A s m ad vars os avs vs Q Q' E hc hA R rs hp hQ
  unfold wSub at hp
  split at hp
  · cases rs with | cons r1 rs => cases rs with | cons r2 rs => cases rs with | nil => cases r1; cases r2; exact PySem.P.sub_int (hQ.now R (.int _ _) hp _)
  · exact hp.elim
noncomputable def smallI (a : Int) : Prop := -1000000000 ≤ a ∧ a ≤ 1000000000
theorem intBits_small {a : Int} (h : smallI a) : Builtin.Int.intBits a ≤ 64 := by
  have h1 := h.1
  have h2 := h.2
  have h3 : a.natAbs ≤ 1000000000 := by lia  
  exact intBits_le (Nat.lt_of_le_of_lt h3 (by decide))
/-- * -/
noncomputable def wMul : List AV → List AO → VP → Prop
  | [.int a, .int b], os, Q => (smallI a ∨ smallI b) ∧ Q (.int (a * b)) os
  | [.str x, .int b], os, Q => x.length * b.toNat ≤ 1000000 ∧ 0 ≤ b ∧ b ≤ 1000000 ∧ Q (.str ⟨(List.replicate b.toNat x.cps.toList).flatten.toArray⟩) os
  | [.ref j, .int b], os, Q => ∃ as, os[j]? = some (.list as) ∧ as.length * b.toNat ≤ 256 ∧ 0 ≤ b ∧ b ≤ 1000000 ∧ Q (.ref os.length) (os ++ [.list (List.replicate b.toNat as).flatten])
  | _, _, _ => False
theorem RVs.rep {ad : List Addr} {as : List AV} {vs : List Value} (r : RVs ad as vs) : ∀ k, RVs ad (List.replicate k as).flatten (List.replicate k vs).flatten
  | 0 => by simp; exact .nil
  | k + 1 => by rw [List.replicate_succ, List.replicate_succ, List.flatten_cons, List.flatten_cons]; exact r.append (r.rep k)
theorem str_ext {x y : Str} (h : x.cps.toList = y.cps.toList) : x = y := by
  cases x; cases y; congr 1; exact Array.ext' h
theorem rep_foldl (x : Array Nat) : ∀ (k : Nat) (acc : Array Nat), ((List.replicate k x).foldl (· ++ ·) acc).toList = acc.toList ++ (List.replicate k x.toList).flatten
  | 0, acc => by simp
  | k + 1, acc => by rw [List.replicate_succ, List.foldl_cons, rep_foldl x k, List.replicate_succ, List.flatten_cons]; simp
theorem op_mul : OpOk P n (fun vs => binaryOp .Mult (vs.getD 0 .none) (vs.getD 1 .none)) wMul := by
  intro c A s m ad vars os avs vs Q Q' E hc hA R rs hp hQ
  unfold wMul at hp
  split at hp
  · rename_i a b
    cases rs with | cons r1 rs => cases rs with | cons r2 rs => cases rs with | nil => cases r1; cases r2; exact PySem.P.mul_int (hQ.now R (.int _ _) hp.2 _) (hp.1.elim (fun h => .of_left (intBits_small h)) fun h => .of_right (intBits_small h))
  · rename_i x b
    cases rs with | cons r1 rs => cases rs with | cons r2 rs => cases rs with | nil =>
      cases r1; cases r2
      obtain ⟨h1, h2, h3, q⟩ := hp
      have hlen : ∀ k : Nat, (⟨(List.replicate k x.cps.toList).flatten.toArray⟩ : Str).length = k * x.length := by
        intro k
        show ((List.replicate k x.cps.toList).flatten.toArray).size = k * x.cps.size
        simp
      refine PySem.P.mul_str (by simp; lia  ) (fun _ _ hgt => ?_) (fun _ _ => ?_) ?_
      · have e : (x.length : Int) * b ≤ 1000000 := by
          have : ((x.length * b.toNat : Nat) : Int) ≤ 1000000 := by lia  
          rw [Int.natCast_mul, Int.toNat_of_nonneg h2] at this; exact this
        have hb1 : 1 ≤ b := by
          by_cases hb : b = 0
          · subst hb; lia  
          · lia  
        have := (Int.ediv_lt_iff_lt_mul (a := 2 ^ 63 - 1) (b := (x.length : Int)) (c := b) (by lia  )).mp hgt
        lia  
      · unfold PySem.Builtin.Str.tooLong; rw [sizeLine_eq]; simp; lia  
      · split
        · rename_i hlt
          have hb : b = 0 := by lia  
          subst hb
          refine ⟨by rw [sizeLine_eq]; decide, ?_⟩
          have := hQ.now R (.str _ s.toks) q (s.toks + 1)
          exact this
        · split
          · rename_i h5 h6
            have e : (⟨(List.replicate b.toNat x.cps.toList).flatten.toArray⟩ : Str) = x := by
              rcases Bool.or_eq_true _ _ |>.mp h6 with h7 | h7
              · have : b = 1 := by simpa using h7
                subst this
                exact str_ext (by simp)
              · have h8 : x.cps.size = 0 := eq_of_beq h7
                have h9 : x.cps.toList = [] := by rw [Array.eq_empty_of_size_eq_zero h8]
                exact str_ext (by simp [h9])
            rw [e] at q
            exact hQ.now R (.str _ _) q s.toks
          · have e : (⟨(List.replicate b.toNat x.cps).foldl (· ++ ·) #[]⟩ : Str) = ⟨(List.replicate b.toNat x.cps.toList).flatten.toArray⟩ := str_ext (by rw [rep_foldl]; simp)
            rw [e]
            refine ⟨by rw [hlen, sizeLine_eq]; rw [Nat.mul_comm]; lia  , ?_⟩
            exact hQ.now R (.str _ _) q (s.toks + 1)
  · rename_i j b
    cases rs with | cons r1 rs => cases rs with | cons r2 rs => cases rs with | nil =>
      cases r1 with | ref _ a ea => cases r2 with | int _ t =>
        obtain ⟨as, ha, hz, h0, h1, q⟩ := hp
        obtain ⟨us, hl, ru⟩ := (R.obj ha ea).list_at
        have e1 := ru.length
        refine PySem.W.KMa.mul R.fr R.news hl (by lia  ) (by lia  ) (by rw [← e1]; exact hz) rfl fun D h' F N hD => ?_
        have hk := kl_of_news F N fun p hp => List.mem_cons_of_mem _ hp
        have hn : s.heap.get? D = none := by
          cases e : s.heap.get? D with
          | none => rfl
          | some o =>
            by_cases hL : D = c.env.locals
            · exact absurd hL (N _ (List.mem_cons_self ..)).2.1
            · exact absurd (hD _ (allNews_mem hL e)) (Nat.lt_irrefl _)
        have hob : h'.get? D = some (listObj (List.replicate b.toNat us).flatten 0) := (N _ (List.mem_cons_self ..)).1
        have R2 := R.alloc (o := .list (List.replicate b.toNat as).flatten) hk hn ⟨_, 0, hob, (ru.rep _).mono (List.prefix_append ..)⟩
        refine hQ h' s.toks _ _ _ _ R2 (List.prefix_append ..) (.ref _ _ ?_) q
        have := R.len
        dsimp only at this
        rw [← this, List.getElem?_append_right (Nat.le_refl _), Nat.sub_self]; rfl
  · exact hp.elim
/-- // -/
noncomputable def wFdiv : List AV → List AO → VP → Prop
  | [.int a, .int b], os, Q => b ≠ 0 ∧ smallI b ∧ Q (.int (a.fdiv b)) os
  | _, _, _ => False
theorem op_fdiv : OpOk P n (fun vs => binaryOp .FloorDiv (vs.getD 0 .none) (vs.getD 1 .none)) wFdiv := by
  intro c A s m ad vars os avs vs Q Q' E hc hA R rs hp hQ
  unfold wFdiv at hp
  split at hp
  · cases rs with | cons r1 rs => cases rs with | cons r2 rs => cases rs with | nil => cases r1; cases r2; exact floordiv_int hp.1 (hQ.now R (.int _ _) hp.2.2 _) (Or.inl (PyProof.noPylong_small (by have := hp.2.1.1; have := hp.2.1.2; lia  )))
  · exact hp.elim
/-- % -/
noncomputable def wMod : List AV → List AO → VP → Prop
  | [.int a, .int b], os, Q => b ≠ 0 ∧ Q (.int (a.fmod b)) os
  | _, _, _ => False
theorem op_mod : OpOk P n (fun vs => binaryOp .Mod (vs.getD 0 .none) (vs.getD 1 .none)) wMod := by
  intro c A s m ad vars os avs vs Q Q' E hc hA R rs hp hQ
  unfold wMod at hp
  split at hp
  · cases rs with | cons r1 rs => cases rs with | cons r2 rs => cases rs with | nil => cases r1; cases r2; exact mod_int' hp.1 (hQ.now R (.int _ _) hp.2 _)
  · exact hp.elim
/-- ** -/
noncomputable def wPow : List AV → List AO → VP → Prop
  | [.int a, .int b], os, Q => 0 ≤ b ∧ b ≤ 1000 ∧ smallI a ∧ Q (.int (a ^ b.toNat)) os
  | _, _, _ => False
/-- unary - -/
noncomputable def wNeg : List AV → List AO → VP → Prop
  | [.int a], os, Q => Q (.int (-a)) os
  | _, _, _ => False
theorem op_neg : OpOk P n (fun vs => unaryOp .USub (vs.getD 0 .none)) wNeg := by
  intro c A s m ad vars os avs vs Q Q' E hc hA R rs hp hQ
  unfold wNeg at hp
  split at hp
  · cases rs with | cons r1 rs => cases rs with | nil => cases r1; exact PySem.P.neg_int (hQ.now R (.int _ _) hp _)
  · exact hp.elim
noncomputable def wLt : List AV → List AO → VP → Prop
  | [.int a, .int b], os, Q => Q (.bool (decide (a < b))) os
  | _, _, _ => False
noncomputable def wLe : List AV → List AO → VP → Prop
  | [.int a, .int b], os, Q => Q (.bool (decide (a ≤ b))) os
  | [.str x, .str y], os, Q => Q (.bool (!decide (y.cps.toList < x.cps.toList))) os
  | _, _, _ => False
noncomputable def wGt : List AV → List AO → VP → Prop
  | [.int a, .int b], os, Q => Q (.bool (decide (a > b))) os
  | _, _, _ => False
noncomputable def wGe : List AV → List AO → VP → Prop
  | [.int a, .int b], os, Q => Q (.bool (decide (a ≥ b))) os
  | _, _, _ => False
theorem op_lt : OpOk P n (fun vs => compareOp .Lt (vs.getD 0 .none) (vs.getD 1 .none)) wLt := by
  intro c A s m ad vars os avs vs Q Q' E hc hA R rs hp hQ
  unfold wLt at hp
  split at hp
  · cases rs with | cons r1 rs => cases rs with | cons r2 rs => cases rs with | nil => cases r1; cases r2; exact PySem.P.lt_int (hQ.now R (.bool _) hp s.toks)
  · exact hp.elim
theorem op_le : OpOk P n (fun vs => compareOp .LtE (vs.getD 0 .none) (vs.getD 1 .none)) wLe := by
  intro c A s m ad vars os avs vs Q Q' E hc hA R rs hp hQ
  unfold wLe at hp
  split at hp
  · cases rs with | cons r1 rs => cases rs with | cons r2 rs => cases rs with | nil => cases r1; cases r2; exact PySem.P.le_int (hQ.now R (.bool _) hp s.toks)
  · cases rs with | cons r1 rs => cases rs with | cons r2 rs => cases rs with | nil => cases r1; cases r2; exact PySem.P.le_str (hQ.now R (.bool _) (by simpa using hp) s.toks)
  · exact hp.elim
theorem op_gt : OpOk P n (fun vs => compareOp .Gt (vs.getD 0 .none) (vs.getD 1 .none)) wGt := by
  intro c A s m ad vars os avs vs Q Q' E hc hA R rs hp hQ
  unfold wGt at hp
  split at hp
  · cases rs with | cons r1 rs => cases rs with | cons r2 rs => cases rs with | nil => cases r1; cases r2; exact PySem.P.gt_int (hQ.now R (.bool _) hp s.toks)
  · exact hp.elim
theorem op_ge : OpOk P n (fun vs => compareOp .GtE (vs.getD 0 .none) (vs.getD 1 .none)) wGe := by
  intro c A s m ad vars os avs vs Q Q' E hc hA R rs hp hQ
  unfold wGe at hp
  split at hp
  · cases rs with | cons r1 rs => cases rs with | cons r2 rs => cases rs with | nil => cases r1; cases r2; exact PySem.P.ge_int (hQ.now R (.bool _) hp s.toks)
  · exact hp.elim
end
end Mine
end P6
section P7
set_option maxRecDepth 100000
set_option Elab.async false
set_option autoImplicit false
set_option linter.unusedSimpArgs false
set_option linter.unusedVariables false
namespace Mine
open PySem PyProof.Rows PySem.SeqAt
section
variable {P : Par} {n : Nat} {sc : Scope}
theorem rv_int {ad : List Addr} {n : Int} {v : Value} (h : RV ad (.int n) v) : ∃ t, v = .int n t := by cases h; exact ⟨_, rfl⟩
theorem rv_str {ad : List Addr} {n : Str} {v : Value} (h : RV ad (.str n) v) : ∃ t, v = .str n t := by cases h; exact ⟨_, rfl⟩
theorem rvs_ints {ad : List Addr} {ns : List Int} {vs : List Value} (h : RVs ad (ns.map .int) vs) : IntsAre vs ns := by
  induction ns generalizing vs with
  | nil => cases h; exact .nil
  | cons n r ih =>
    rw [List.map_cons] at h
    cases h with | cons h1 h2 =>
      obtain ⟨t, rfl⟩ := rv_int h1
      exact .cons n t (ih h2)
theorem rvs_strs {ad : List Addr} {ns : List Str} {vs : List Value} (h : RVs ad (ns.map .str) vs) : StrsAre vs ns := by
  induction ns generalizing vs with
  | nil => cases h; exact .nil
  | cons n r ih =>
    rw [List.map_cons] at h
    cases h with | cons h1 h2 =>
      obtain ⟨t, rfl⟩ := rv_str h1
      exact .cons n t (ih h2)
theorem readsAll_strs {h : Heap} {ys : List Str} {vs : List Value} (x : StrsAre vs ys) : ReadsAll h vs (ys.map PyData.str) [] := by
  induction x with
  | nil => exact .nil
  | cons y t r ih => exact .cons (as := []) (.str y t) ih
theorem reads_of_strs {h : Heap} {a : Addr} {vs : List Value} {ys : List Str} (hl : h.IsList a vs.toArray) (hi : StrsAre vs ys) : Reads h (.ref a) (.list (ys.map PyData.str)) [a] := by
  obtain ⟨o, ho, hc, n, hd⟩ := hl
  exact Reads.list ho hc hd (by simpa using readsAll_strs hi)
theorem canLayAll0_strs : ∀ ns : List Str, (∀ x ∈ ns, PyData.strOk x = true) → PyData.canLayAll0 (ns.map PyData.str) = true
  | [], _ => by simp [PyData.canLayAll0]
  | n :: r, h => by simp [PyData.canLayAll0, PyData.canLay0, canLayAll0_strs r (fun x hx => h x (List.mem_cons_of_mem _ hx)), h n (List.mem_cons_self ..)]
theorem depthAll_strs : ∀ ns : List Str, PyData.depthAll (ns.map PyData.str) ≤ 1
  | [] => by simp [PyData.depthAll]
  | n :: r => by
    have := depthAll_strs r
    simp only [List.map_cons, PyData.depthAll, PyData.depth]
    lia  
theorem shaped_strs (ns : List Str) (hn : ∀ x ∈ ns, PyData.strOk x = true) : shaped (.list (ns.map PyData.str)) = true := by
  have h1 := depthAll_strs ns
  have h2 : PyData.depth (.list (ns.map PyData.str)) ≤ 64 := by simp only [PyData.depth]; lia  
  show (PyData.canLay0 (.list (ns.map PyData.str)) && decide (PyData.depth (.list (ns.map PyData.str)) ≤ 64)) = true
  rw [Bool.and_eq_true]
  exact ⟨by simp only [PyData.canLay0]; exact canLayAll0_strs ns hn, decide_eq_true h2⟩
theorem noMix_strs : ∀ ns ms : List Str, noMixAll (ns.map PyData.str) (ms.map PyData.str) = true
  | [], [] => by simp [noMixAll]
  | [], _ :: _ => by simp [noMixAll]
  | _ :: _, [] => by simp [noMixAll]
  | _ :: r, _ :: q => by simp [noMixAll, noMix, noMix_strs r q]
theorem same_strs : ∀ ns ms : List Str, PySem.Spec.sameAll (ns.map PyData.str) (ms.map PyData.str) = decide (ns = ms)
  | [], [] => by simp [PySem.Spec.sameAll]
  | [], _ :: _ => by simp [PySem.Spec.sameAll]
  | _ :: _, [] => by simp [PySem.Spec.sameAll]
  | n :: r, k :: q => by
    simp only [List.map_cons, PySem.Spec.sameAll, PySem.Spec.same, same_strs r q]
    by_cases h : n = k <;> simp [h]
/-- lists of one kind that may be compared -/
inductive EqL : List AV → List AV → Bool → Prop
  | ofI (ns ms : List Int) : EqL (ns.map .int) (ms.map .int) (decide (ns = ms))
  | ofS (ns ms : List Str) (hn : ∀ x ∈ ns, PyData.strOk x = true) (hm : ∀ x ∈ ms, PyData.strOk x = true) : EqL (ns.map .str) (ms.map .str) (decide (ns = ms))
noncomputable def wEq : List AV → List AO → VP → Prop
  | [.int a, .int b], os, Q => Q (.bool (decide (a = b))) os
  | [.str x, .str y], os, Q => Q (.bool (decide (x = y))) os
  | [.ref j, .ref k], os, Q => ∃ as bs r, os[j]? = some (.list as) ∧ os[k]? = some (.list bs) ∧ EqL as bs r ∧ Q (.bool r) os
  | _, _, _ => False
noncomputable def wNe : List AV → List AO → VP → Prop
  | [.int a, .int b], os, Q => Q (.bool (!decide (a = b))) os
  | [.str x, .str y], os, Q => Q (.bool (!decide (x = y))) os
  | [.ref j, .ref k], os, Q => ∃ as bs r, os[j]? = some (.list as) ∧ os[k]? = some (.list bs) ∧ EqL as bs r ∧ Q (.bool (!r)) os
  | _, _, _ => False
theorem cps_beq (x y : Str) : (x.cps.toList == y.cps.toList) = decide (x = y) := by
  rw [Bool.eq_iff_iff, beq_iff_eq, decide_eq_true_iff]
  exact ⟨fun h => str_ext h, fun h => by rw [h]⟩
theorem AOk.units64 {n : Nat} {A : Around} (h : AOk n A) : A.units + 64 < cLine := by have := h.2.2; show A.units + 64 < 9900; lia  
theorem op_eq : OpOk P n (fun vs => compareOp .Eq (vs.getD 0 .none) (vs.getD 1 .none)) wEq := by
  intro c A s m ad vars os avs vs Q Q' E hc hA R rs hp hQ
  unfold wEq at hp
  split at hp
  · rename_i a b
    cases rs with | cons r1 rs => cases rs with | cons r2 rs => cases rs with | nil => cases r1; cases r2; exact PySem.P.eq_int (hQ.now R (.bool _) (by rw [show (a == b) = decide (a = b) from rfl]; exact hp) s.toks)
  · cases rs with | cons r1 rs => cases rs with | cons r2 rs => cases rs with | nil => cases r1; cases r2; exact PySem.P.eq_str (hQ.now R (.bool _) (by rw [cps_beq]; exact hp) s.toks)
  · cases rs with | cons r1 rs => cases rs with | cons r2 rs => cases rs with | nil =>
      cases r1 with | ref _ a ea => cases r2 with | ref _ b eb =>
        obtain ⟨as, bs, r, ha, hb, he, q⟩ := hp
        obtain ⟨us, hl, ru⟩ := (R.obj ha ea).list_at
        obtain ⟨ws, hl2, rw_⟩ := (R.obj hb eb).list_at
        cases he with
        | ofI ns ms => exact PySem.W.eq_intsK hl (rvs_ints ru) hl2 (rvs_ints rw_) hA.units64 (hQ.now R (.bool _) q s.toks)
        | ofS ns ms hn hm =>
          exact eq_dataH_same (reads_of_strs hl (rvs_strs ru)) (reads_of_strs hl2 (rvs_strs rw_)) (shaped_strs ns hn) (shaped_strs ms hm) hA.units64 (by simp only [noMix]; exact noMix_strs ns ms) (by
            simp only [PySem.Spec.same]; rw [same_strs]; exact hQ.now R (.bool _) q s.toks)
  · exact hp.elim
theorem op_ne : OpOk P n (fun vs => compareOp .NotEq (vs.getD 0 .none) (vs.getD 1 .none)) wNe := by
  intro c A s m ad vars os avs vs Q Q' E hc hA R rs hp hQ
  unfold wNe at hp
  split at hp
  · rename_i a b
    cases rs with | cons r1 rs => cases rs with | cons r2 rs => cases rs with | nil => cases r1; cases r2; exact PySem.P.ne_int (hQ.now R (.bool _) (by rw [show (a != b) = !decide (a = b) from rfl]; exact hp) s.toks)
  · cases rs with | cons r1 rs => cases rs with | cons r2 rs => cases rs with | nil => cases r1; cases r2; exact PySem.P.ne_str (hQ.now R (.bool _) (by rw [bne, cps_beq]; exact hp) s.toks)
  · cases rs with | cons r1 rs => cases rs with | cons r2 rs => cases rs with | nil =>
      cases r1 with | ref _ a ea => cases r2 with | ref _ b eb =>
        obtain ⟨as, bs, r, ha, hb, he, q⟩ := hp
        obtain ⟨us, hl, ru⟩ := (R.obj ha ea).list_at
        obtain ⟨ws, hl2, rw_⟩ := (R.obj hb eb).list_at
        cases he with
        | ofI ns ms => exact PySem.W.ne_intsK hl (rvs_ints ru) hl2 (rvs_ints rw_) hA.units64 (hQ.now R (.bool _) q s.toks)
        | ofS ns ms hn hm =>
          exact ne_dataH_same (reads_of_strs hl (rvs_strs ru)) (reads_of_strs hl2 (rvs_strs rw_)) (shaped_strs ns hn) (shaped_strs ms hm) hA.units64 (by simp only [noMix]; exact noMix_strs ns ms) (by
            simp only [PySem.Spec.same]; rw [same_strs]; exact hQ.now R (.bool _) q s.toks)
  · exact hp.elim
noncomputable def wIn : List AV → List AO → VP → Prop
  | [.str y, .str x], os, Q => Q (.bool (Txt.contains x y)) os
  | [.str y, .ref k], os, Q => ∃ xs : List Str, os[k]? = some (.tup (xs.map .str)) ∧ Q (.bool (xs.any (· == y))) os
  | _, _, _ => False
theorem in_strs_any {ad : List Addr} (y : Str) (e : Value → Bool) (he : ∀ x t, e (.str x t) = (x == y)) : ∀ {xs : List Str} {us : List Value}, RVs ad (xs.map .str) us → us.any e = xs.any (· == y)
  | [], _, .nil => rfl
  | x :: r, _, .cons (.str _ t) h => by rw [List.any_cons, List.any_cons, in_strs_any y e he h, he]
theorem op_in : OpOk P n (fun vs => compareOp .In (vs.getD 0 .none) (vs.getD 1 .none)) wIn := by
  intro c A s m ad vars os avs vs Q Q' E hc hA R rs hp hQ
  unfold wIn at hp
  split at hp
  · cases rs with | cons r1 rs => cases rs with | cons r2 rs => cases rs with | nil => cases r1; cases r2; exact SB.contains (hQ.now R (.bool _) hp s.toks)
  · rename_i y k
    cases rs with | cons r1 rs => cases rs with | cons r2 rs => cases rs with | nil =>
      cases r1 with | str _ t => cases r2 with | ref _ a ea =>
        obtain ⟨xs, hx, q⟩ := hp
        obtain ⟨us, hl, ru⟩ := (R.obj hx ea).tup_at
        refine PySem.SeqAt.in_tupleAt (fun v => match v with | .str x _ => x == y | _ => false) hl (fun v hv => ?_) ?_
        · have : ∃ x t, v = .str x t := by
            have hv' : v ∈ us := by simpa using hv
            clear hl q hx hv
            generalize hxs : xs.map AV.str = zs at ru
            induction ru generalizing xs with
            | nil => simp at hv'
            | cons h _ ih =>
              cases xs with
              | nil => cases hxs
              | cons z xs =>
                rw [List.map_cons] at hxs
                injection hxs with e1 e2
                subst e1
                cases h
                rcases List.mem_cons.mp hv' with q | q
                · exact ⟨_, _, q⟩
                · exact ih xs q e2
          obtain ⟨x, u, rfl⟩ := this
          exact PySem.SeqAt.EqAt.str_str _ _ _ _
        · have e : (us.toArray.any fun v => match v with | .str x _ => x == y | _ => false) = xs.any (· == y) := by
            rw [List.any_toArray]; exact in_strs_any y _ (fun _ _ => rfl) ru
          rw [e]
          exact hQ.now R (.bool _) q s.toks
  · exact hp.elim
noncomputable def wItem : AV → AV → List AO → VP → Prop
  | .str x, .int i, os, Q => -(x.length : Int) ≤ i ∧ i < x.length ∧ x.length < 4611686018427387904 ∧ Q (.str (Txt.item x i)) os
  | .ref k, .int i, os, Q => ∃ vs j a, (os[k]? = some (.list vs) ∨ os[k]? = some (.tup vs)) ∧ vs.length < 4611686018427387904 ∧ seqIndex? i vs.length = some j ∧ vs[j]? = some a ∧ Q a os
  | _, _, _, _ => False
theorem seqIndex_bounds {i : Int} {k j : Nat} (h : seqIndex? i k = some j) : -(k : Int) ≤ i ∧ i < k ∧ (j : Int) = (if i < 0 then i + k else i) := by
  unfold seqIndex? at h
  by_cases hi : i < 0
  · simp only [hi, if_true] at h ⊢
    split at h
    · rename_i h1
      simp only [Bool.and_eq_true, decide_eq_true_eq] at h1
      injection h with h; lia  
    · cases h
  · simp only [hi, if_false] at h ⊢
    split at h
    · rename_i h1
      simp only [Bool.and_eq_true, decide_eq_true_eq] at h1
      injection h with h; lia  
    · cases h
theorem getItem_av {c : Cx} {A : Around} {s : Shared} {m : Str → Option Value} {ad : List Addr} {vars : Vs} {os : List AO} {a i : AV} {u v : Value} {Q : VP} {Q' : Value → Shared → Prop} {E : Value → Shared → Prop} {value slice : Expr}
    (R : Rel c m ad ⟨vars, os⟩ s.heap) (ra : RV ad a u) (ri : RV ad i v) (hp : wItem a i os Q) (hQ : Post c m ad vars s Q Q') (hs : ∀ o i : Value, subscripted slice false o i = operate [o, i] (getItem o i)) :
    wpAny (model P.prog P.w) A (subscriptTail value slice u v) Q' E s := by
  unfold wItem at hp
  split at hp
  · rename_i x i
    cases ra with | str _ t => cases ri with | int _ k =>
      obtain ⟨h1, h2, h3, q⟩ := hp
      refine tail_any (typeIs_str _ _ _) PySem.F.slot_str_getitem.lookup ?_ (hs _ _)
      obtain ⟨ch, hch⟩ := Option.isSome_iff_exists.mp (charAt_isSome h1 h2)
      refine PySem.P.getItem_str (c := ch) ?_ hch ?_
      · rw [Bool.or_eq_false_iff, decide_eq_false_iff_not, decide_eq_false_iff_not]
        have e : (2 : Int) ^ 63 = 9223372036854775808 := by decide
        rw [e]; lia  
      · have : Txt.item x i = ⟨#[ch]⟩ := by unfold Txt.item; rw [hch]; rfl
        rw [this] at q
        exact hQ.now R (.str _ _) q _
  · rename_i k i
    cases ra with | ref _ a ea => cases ri with | int _ t =>
      obtain ⟨vs, j, av, ho, hl, hj, hv, q⟩ := hp
      obtain ⟨b1, b2, b3⟩ := seqIndex_bounds hj
      have e : (2 : Int) ^ 63 = 9223372036854775808 := by decide
      rcases ho with ho | ho
      · obtain ⟨us, hl', ru⟩ := (R.obj ho ea).list_at
        obtain ⟨x, hx, rx⟩ := ru.get hv
        have hlen := ru.length
        refine tail_any hl'.typeIs PySem.slot_list_getitem.lookup ?_ (hs _ _)
        by_cases hi : i < 0
        · rw [if_pos hi] at b3
          refine wpAny_getItem_list_neg hl' hi (by simp; lia  ) (by rw [e]; lia  ) (x := x) ?_ (hQ.now R rx q s.toks)
          have : (i + (us.toArray.size : Int)).toNat = j := by simp; lia  
          rw [this]; simpa using hx
        · rw [if_neg hi] at b3
          refine wpAny_getItem_list hl' (by lia  ) (by rw [e]; lia  ) (x := x) ?_ (hQ.now R rx q s.toks)
          have : i.toNat = j := by lia  
          rw [this]; simpa using hx
      · obtain ⟨us, hl', ru⟩ := (R.obj ho ea).tup_at
        obtain ⟨x, hx, rx⟩ := ru.get hv
        have hlen := ru.length
        exact tail_any hl'.typeIs slot_tuple_getitem.lookup (getItem_tuple (j := j) (x := x) hl' (by rw [e]; lia  ) (by rw [e]; lia  ) (by simpa [← hlen] using hj) (by simpa using hx) (hQ.now R rx q s.toks)) (hs _ _)
  · exact hp.elim
noncomputable def wSub2 (p q : WE) : WE := fun σ Q => p σ fun a o1 => q ⟨σ.vars, o1⟩ fun i o2 => wItem a i o2 Q
theorem ev_item {value slice : Expr} {pos : Pos} {p q : WE} (hv : EvE P n sc value p) (hi : EvE P n sc slice q) (hs' : ∀ o i : Value, subscripted slice false o i = operate [o, i] (getItem o i) := by intro _ _; with_unfolding_all rfl) :
    EvE P n sc (.Subscript value slice pos) (wSub2 p q) := fun c A s m ad σ Q Q' E hc hs hA R hp hQ => by
  refine Subscript_ (hv c A s m ad σ _ _ _ hc hs hA R hp fun h1 tk1 v1 ad1 os1 a1 R1 p1 r1 q1 => ?_)
  refine hi c A _ m ad1 ⟨σ.vars, os1⟩ _ _ _ hc hs hA R1 q1 fun h2 tk2 v2 ad2 os2 a2 R2 p2 r2 q2 => ?_
  exact getItem_av (s := { s with heap := h2, toks := tk2 }) R2 (r1.mono p2) r2 q2 ((hQ.pre p1 h1 tk1).pre p2 h2 tk2) hs'
/-- slices: a part that may lack -/
noncomputable def EvP (P : Par) (n : Nat) (sc : Scope) (e : Option Expr) (p : WE) : Prop :=
  ∀ (c : Cx) (A : Around) (s : Shared) (m : Str → Option Value) (ad : List Addr) (σ : St) (Q : VP) (Q' : Value → Shared → Prop) (E : Value → Shared → Prop),
    CxOk P c → c.env.scope = sc → AOk n A → Rel c m ad σ s.heap → p σ Q → Post c m ad σ.vars s Q Q' → wpAny (model P.prog P.w) A (evalPart e c.env) Q' E s
theorem ep_none : EvP P n sc none (wLit .none) := fun c A s m ad σ Q Q' E hc hs hA R hp hQ => wpAny_pure (hQ.now R .none hp s.toks)
theorem ep_some {e : Expr} {p : WE} (h : EvE P n sc e p) : EvP P n sc (some e) p := h
noncomputable def partOf : AV → Option (Option Int)
  | .none => some none
  | .int i => some (some i)
  | _ => none
noncomputable def cutL {α : Type} (vs : List α) : Option Int → Option Int → List α
  | none, none => vs
  | none, some b => vs.take b.toNat
  | some a, none => vs.drop a.toNat
  | some a, some b => (vs.drop a.toNat).take (b.toNat - a.toNat)
noncomputable def okCut (n : Nat) : Option Int → Option Int → Prop
  | none, none => True
  | none, some b => 0 ≤ b ∧ b ≤ n
  | some a, none => 0 ≤ a ∧ a ≤ n
  | some a, some b => 0 ≤ a ∧ a ≤ b ∧ b ≤ n
noncomputable def wCut : AV → AV → AV → List AO → VP → Prop
  | .str x, lo, hi, os, Q => ∃ l h, partOf lo = some l ∧ partOf hi = some h ∧ x.length ≤ 16777216 ∧ Q (.str (Txt.slice x l h)) os
  | .ref k, lo, hi, os, Q => ∃ l h vs, partOf lo = some l ∧ partOf hi = some h ∧ os[k]? = some (.list vs) ∧ vs.length ≤ 16777216 ∧ okCut vs.length l h ∧ Q (.ref os.length) (os ++ [.list (cutL vs l h)])
  | _, _, _, _, _ => False
theorem cutL_pick (us : List Value) : ∀ (l h : Option Int), okCut us.length l h → (slicePick us.toArray l h none) = (cutL us l h).toArray
  | none, none, _ => by rw [slicePick_all]; rfl
  | none, some b, ⟨h1, h2⟩ => by
    have := slicePick_upto us.toArray b.toNat (by simp; lia  )
    rw [Int.toNat_of_nonneg h1] at this; rw [this]; rfl
  | some a, none, ⟨h1, h2⟩ => by
    have := slicePick_from us.toArray a.toNat (by simp; lia  )
    rw [Int.toNat_of_nonneg h1] at this; rw [this]; rfl
  | some a, some b, ⟨h1, h2, h3⟩ => by
    have := slicePick_run us.toArray a.toNat b.toNat (by simp; lia  ) (by lia  )
    rw [Int.toNat_of_nonneg h1, Int.toNat_of_nonneg (by lia  )] at this; rw [this]; rfl
theorem RVs.cut {ad : List Addr} {as : List AV} {us : List Value} (r : RVs ad as us) : ∀ (l h : Option Int), RVs ad (cutL as l h) (cutL us l h)
  | none, none => r
  | none, some b => r.take _
  | some a, none => r.drop _
  | some a, some b => (r.drop _).take _
theorem isPart_of {ad : List Addr} {a : AV} {v : Value} {l : Option Int} (r : RV ad a v) (h : partOf a = some l) : IsPart v l := by
  cases r <;> first | (cases h; constructor) | cases h
theorem cut_av {c : Cx} {A : Around} {s : Shared} {m : Str → Option Value} {ad : List Addr} {vars : Vs} {os : List AO} {a lo hi : AV} {u vl vh : Value} {Q : VP} {Q' : Value → Shared → Prop} {E : Value → Shared → Prop} {value : Expr} {lower upper : Option Expr} {p : Pos}
    (R : Rel c m ad ⟨vars, os⟩ s.heap) (ra : RV ad a u) (rl : RV ad lo vl) (rh : RV ad hi vh) (hp : wCut a lo hi os Q) (hQ : Post c m ad vars s Q Q') :
    wpAny (model P.prog P.w) A (subscriptTail value (.Slice lower upper none p) u (.ref s.heap.objs.size)) Q' E { s with heap := s.heap.push { cls := .type "slice", data := .fields #[vl, vh, .none] } } := by
  have Rp : ∀ ob, Rel c m ad ⟨vars, os⟩ (s.heap.push ob) := fun ob => R.keeps fun b o e => Heap.get?_push_of_some _ e
  have hsub : ∀ o i : Value, subscripted (.Slice lower upper none p) false o i = operate [i, o] (getItem o i) := fun _ _ => rfl
  unfold wCut at hp
  split at hp
  · rename_i x
    cases ra with | str _ t =>
      obtain ⟨l, h, hl, hh, hz, q⟩ := hp
      have hz' : x.length ≤ sizeLine := by rw [sizeLine_eq]; exact hz
      have fin : ∀ h' t' k, (fun g => Rel c m ad ⟨vars, os⟩ g) h' → Q' (.str (Txt.slice x l h) t') { s with heap := h', toks := k } := fun h' t' k R' => hQ h' k _ ad os _ R' (List.prefix_refl _) (.str _ _) q
      have kept : KeptH (fun g => Rel c m ad ⟨vars, os⟩ g) := fun g ob R' => R'.keeps fun b o e => Heap.get?_push_of_some _ e
      refine tail_any (T := "str") (typeIs_str _ _ _) PySem.F.slot_str_getitem.lookup ?_ (hsub _ _)
      cases rl <;> cases rh <;> first | (cases hl; done) | (cases hh; done) | skip
      all_goals first | (cases hl; cases hh) | skip
      · exact (SBH.sliceItem_nn kept R fin hz').choose_spec.choose_spec.2.2
      · exact (SBH.sliceItem_ns kept R fin hz').choose_spec.choose_spec.2.2
      · exact (SBH.sliceItem_sn kept R fin hz').choose_spec.choose_spec.2.2
      · exact (SBH.sliceItem_ss kept R fin hz').choose_spec.choose_spec.2.2
  · rename_i k
    cases ra with | ref _ a ea =>
      obtain ⟨l, h, vs, hl, hh, ho, hz, hcut, q⟩ := hp
      have R1 := Rp { cls := .type "slice", data := .fields #[vl, vh, .none] }
      obtain ⟨us, hlist, ru⟩ := (R1.obj ho ea).list_at
      have hlen := ru.length
      refine tail_any hlist.typeIs PySem.slot_list_getitem.lookup ?_ (hsub _ _)
      refine wpAny_getItem_list_slice hlist (.new s.heap _ _ _) (isPart_of rl hl) (isPart_of rh hh) .none (by simp) ?_ (by rw [sizeLine_eq]; simp; lia  )
      rw [cutL_pick us l h (by rw [← hlen]; exact hcut)]
      exact (show Post c m ad vars { s with heap := s.heap.push { cls := .type "slice", data := .fields #[vl, vh, .none] } } Q Q' from fun h' tk v ad' os' av R p r q => hQ h' tk v ad' os' av R p r q).pushed R1 (ru.cut l h) q 0 s.toks
  · exact hp.elim
noncomputable def wSlice3 (p l h : WE) : WE := fun σ Q => p σ fun a o1 => l ⟨σ.vars, o1⟩ fun lo o2 => h ⟨σ.vars, o2⟩ fun hi o3 => wCut a lo hi o3 Q
theorem ev_slice {value : Expr} {lower upper : Option Expr} {pp pos : Pos} {p l h : WE} (hv : EvE P n sc value p) (hl : EvP P n sc lower l) (hu : EvP P n sc upper h) :
    EvE P n sc (.Subscript value (.Slice lower upper none pp) pos) (wSlice3 p l h) := fun c A s m ad σ Q Q' E hc hs hA R hp hQ => by
  refine Subscript_ (hv c A s m ad σ _ _ _ hc hs hA R hp fun h1 tk1 v1 ad1 os1 a1 R1 p1 r1 q1 => ?_)
  refine wpAny_Slice ?_
  refine hl c A _ m ad1 ⟨σ.vars, os1⟩ _ _ _ hc hs hA R1 q1 fun h2 tk2 v2 ad2 os2 a2 R2 p2 r2 q2 => ?_
  refine hu c A _ m ad2 ⟨σ.vars, os2⟩ _ _ _ hc hs hA R2 q2 fun h3 tk3 v3 ad3 os3 a3 R3 p3 r3 q3 => ?_
  refine wpAny_pure ?_
  exact cut_av (s := { s with heap := h3, toks := tk3 }) R3 ((r1.mono p2).mono p3) (r2.mono p3) r3 q3 (((hQ.pre p1 h1 tk1).pre p2 h2 tk2).pre p3 h3 tk3)
noncomputable def wChain3 (p q r : WE) (w1 w2 : List AV → List AO → VP → Prop) : WB := fun σ Q => p σ fun a o1 => q ⟨σ.vars, o1⟩ fun b o2 => w1 [a, b] o2 fun t o3 => ∃ x, t = .bool x ∧ (x = true → r ⟨σ.vars, o3⟩ fun d o4 => w2 [b, d] o4 fun u o5 => ∃ y, u = .bool y ∧ Q y o5) ∧ (x = false → Q false o3)
theorem tb_chain {l r₁ r₂ : Expr} {op₁ op₂ : CmpOp} {pos : Pos} {p q r : WE} {w1 w2 : List AV → List AO → VP → Prop} (hl : EvE P n sc l p) (h1 : EvE P n sc r₁ q) (h2 : EvE P n sc r₂ r)
    (o1 : OpOk P n (fun vs => compareOp op₁ (vs.getD 0 .none) (vs.getD 1 .none)) w1) (o2 : OpOk P n (fun vs => compareOp op₂ (vs.getD 0 .none) (vs.getD 1 .none)) w2)
    (hm : lastMarks [op₁, op₂] [r₁, r₂] = false := by with_unfolding_all rfl) : EvB P n sc (.Compare l [op₁, op₂] [r₁, r₂] pos) (wChain3 p q r w1 w2) := fun c A s m ad σ Q Q' E hc hs hA R hp hQ => by
  refine isTrue_chain (hl c A s m ad σ _ _ _ hc hs hA R hp fun g1 tk1 v1 ad1 os1 a1 R1 p1 rv1 q1 => ?_) hm
  refine test_link (h1 c A _ m ad1 ⟨σ.vars, os1⟩ _ _ _ hc hs hA R1 q1 fun g2 tk2 v2 ad2 os2 a2 R2 p2 rv2 q2 => ?_)
  refine o1 c A _ m ad2 σ.vars os2 [a1, a2] [v1, v2] _ _ _ hc hA R2 (.cons (rv1.mono p2) (.cons rv2 .nil)) q2 fun g3 tk3 v3 ad3 os3 a3 R3 p3 rv3 q3 => ?_
  obtain ⟨x, rfl, qt, qf⟩ := q3
  cases rv3
  refine wpAny_truthy_bool ?_
  cases x with
  | false => exact hQ g3 tk3 ad3 os3 false R3 ((p1.trans p2).trans p3) (qf rfl)
  | true =>
    refine test_last (h2 c A _ m ad3 ⟨σ.vars, os3⟩ _ _ _ hc hs hA R3 (qt rfl) fun g4 tk4 v4 ad4 os4 a4 R4 p4 rv4 q4 => ?_)
    refine o2 c A _ m ad4 σ.vars os4 [a2, a4] [v2, v4] _ _ _ hc hA R4 (.cons ((rv2.mono p3).mono p4) (.cons rv4 .nil)) q4 fun g5 tk5 v5 ad5 os5 a5 R5 p5 rv5 q5 => ?_
    obtain ⟨y, rfl, q⟩ := q5
    cases rv5
    exact wpAny_truthy_bool (hQ g5 tk5 ad5 os5 y R5 ((((p1.trans p2).trans p3).trans p4).trans p5) q)
/-- and, or as values -/
noncomputable def wOrV (p q : WE) : WE := fun σ Q => p σ fun a o1 => (∀ x, a = .str x → x.length < 2 ^ 63) ∧ ∃ b, aTruth a o1 = some b ∧ (b = true → Q a o1) ∧ (b = false → q ⟨σ.vars, o1⟩ Q)
theorem ev_or {x y : Expr} {pos : Pos} {p q : WE} (hx : EvE P n sc x p) (hy : EvE P n sc y q) : EvE P n sc (.BoolOp .Or [x, y] pos) (wOrV p q) := fun c A s m ad σ Q Q' E hc hs hA R hp hQ => by
  refine BoolOp_or (hx c A s m ad σ _ _ _ hc hs hA R hp fun h1 tk1 v1 ad1 os1 a1 R1 p1 r1 q1 => ?_)
  obtain ⟨hz, b, hb, qt, qf⟩ := q1
  refine truthy_av (m := m) (Q := fun b' o => b' = b ∧ o = os1) R1 r1 hb ⟨rfl, rfl⟩ hz fun h2 tk2 ad2 os2 b2 R2 p2 q2 => ?_
  obtain ⟨rfl, rfl⟩ := q2
  cases b2 with
  | true => exact hQ h2 tk2 v1 ad2 os2 a1 R2 (p1.trans p2) (r1.mono p2) (qt rfl)
  | false => exact BoolOp_one (hy c A _ m ad2 ⟨σ.vars, os2⟩ _ _ _ hc hs hA R2 (qf rfl) ((hQ.pre p1 h1 tk1).pre p2 h2 tk2))
/-- a global name that is a text -/
theorem ev_globS (x : String) (y : Str) (t : Tok) (pos : Pos) (hx : sc.names.lookup (Str.ofString x) = some .globalImplicit) (hv : P.gl.lookup x = some (.str y t)) (hd : (Str.ofString x == ("__debug__" : Str)) = false := by decide +kernel) : EvE P n sc (.Name (Str.ofString x) pos) (wLit (.str y)) := fun c A s m ad σ Q Q' E hc hs hA R hp hQ => by
  refine ev_glob x (.str y t) pos hx hv hd c A s m ad σ (fun a o => a = .lit (.str y t) ∧ o = σ.objs) _ _ hc hs hA R ⟨rfl, rfl⟩ fun h1 tk1 v1 ad1 os1 a1 R1 p1 r1 q1 => ?_
  obtain ⟨rfl, rfl⟩ := q1
  cases r1
  exact hQ h1 tk1 _ ad1 _ _ R1 p1 (.str _ _) hp
end
end Mine
end P7
section P8
set_option maxRecDepth 100000
set_option Elab.async false
set_option autoImplicit false
set_option linter.unusedSimpArgs false
set_option linter.unusedVariables false
namespace Mine
open PySem PyProof.Rows
namespace FF
theorem lk_append : typeLookup (.type "list") "append" = pure (some (.builtin "list.append")) := by rw [typeLookup_type, builtinLookup_eq_fast]; kernel_rfl
theorem ty_append : typeOf (.builtin "list.append") = pure (.type "method_descriptor") := by kernel_rfl
theorem md_get : typeLookup (.type "method_descriptor") "__get__" = pure (some (.builtin "method_descriptor.__get__")) := by rw [typeLookup_type, builtinLookup_eq_fast]; kernel_rfl
theorem md_set : typeLookup (.type "method_descriptor") "__set__" = pure none := by rw [typeLookup_type, builtinLookup_eq_fast]; kernel_rfl
theorem md_del : typeLookup (.type "method_descriptor") "__delete__" = pure none := by rw [typeLookup_type, builtinLookup_eq_fast]; kernel_rfl
theorem slot_md_get : Slot "method_descriptor" "__get__" "method_descriptor.__get__" :=
  .of (owner := "method_descriptor") (n := "__get__") (by rw [typeLookup_type, builtinLookup_eq_fast]; kernel_rfl) (by decide +kernel) (by decide +kernel) (by decide +kernel)
    (by first | exact .inl (by decide +kernel) | exact .inr (by decide +kernel)) (by rw [isSubtype_type]; kernel_rfl)
theorem entry_md_get : entryFor table "method_descriptor.__get__" = some Builtin.«method_descriptor.__get__» := entryFor_of_tree (by kernel_rfl)
theorem args_md_get (a b c : Value) : argsOk "method_descriptor.__get__" ⟨[a, b, c], []⟩ := by unfold argsOk; kernel_rfl
theorem told_append : Manifest.toldItsClass.contains "list.append" = false := by decide +kernel
theorem sub_list_append_owner : isSubtype (.type "list") (.type (".".intercalate ("list.append".cutAt '.').dropLast)) = pure true := by
  have e0 : "list.append".cutAt '.' = ["list", "append"] := by first | rfl | decide +kernel
  have e1 : (".".intercalate ("list.append".cutAt '.').dropLast) = "list" := by rw [e0]; decide +kernel
  rw [e1, isSubtype_type]; kernel_rfl
theorem sig_append : ∃ sg, Manifest.signature? "list.append" = some sg ∧ ∀ (l : Addr) (x : Value), Bind.checkArgs "list.append" { sg with full := s!"{Bind.lastOf "list"}.{Bind.lastOf "list.append"}" } ⟨[.ref l, x], []⟩ = pure () := by
  rw [signature?_of (id := "list.append") (n := ['d', 'n', 'e', 'p', 'p', 'a']) (o := ['t', 's', 'i', 'l']) (by kernel_rfl) F.owner_list]
  exact ⟨_, rfl, fun l x => by kernel_rfl⟩
theorem kind_append : builtinKind "list.append" = some .method := by kernel_rfl
theorem not_module : isSubtype (.type "list") (.type "module") = pure false := by rw [isSubtype_type]; kernel_rfl
theorem not_varargs : Manifest.varargsMethods.contains "list.append" = false := by decide +kernel
end FF
section
variable {prog : Program} {w : World} {A : Around} {E : Value → Shared → Prop} {h : Heap} {g : Array GenState} {d : Drawn} {t : Nat} {os : OsState} {a : Addr} {o : Obj}
theorem append_get {vs : List Value} {n : Nat} {R : Result → Shared → Prop} (hx : h.get? a = some (listObj vs n)) (hq : R (.ok (.ret (.ref h.objs.size))) ⟨h.push (appObj a), g, d, t, os⟩) :
    codeAny (model prog w) A (.call (.builtin "method_descriptor.__get__") ⟨[.builtin "list.append", .ref a, .type "list"], []⟩) R ⟨h, g, d, t, os⟩ := by
  have hT : (⟨h, g, d, t, os⟩ : Shared).TypeIs (.ref a) "list" := ⟨_, hx, rfl⟩
  have hT5 : (⟨h, g, d, t, os⟩ : Shared).TypeIs (.builtin "list.append") "method_descriptor" := FF.ty_append
  have f8 := FF.sub_list_append_owner
  have f9 := FF.told_append
  refine codeAny_call_builtin FF.slot_md_get.plain FF.entry_md_get (FF.slot_md_get.check _ _ _ _ _ _ _ _ hT5 (FF.args_md_get _ _ _) ?_)
  iterate 8 (first | assumption | wp_step)
  dsimp only
  rw [if_neg (show ¬ ((Value.ref a == Value.none) = true) from Bool.false_ne_true), if_neg (show ¬ ((Value.type "list" == Value.none) = true) from Bool.false_ne_true)]
  dsimp only
  rw [if_neg (by rw [f9]; exact Bool.false_ne_true)]
  iterate 12 (first | assumption | wp_step)
  refine wpAny_newObj_type ?_
  exact wpAny_pure hq
theorem append_entry {tk : Tok} {vs : List Value} {n : Nat} {Q : Fin → Shared → Prop} (hx : h.get? a = some (listObj vs n)) (hq : Q (.done (.ret (.ref h.objs.size))) ⟨h.push (appObj a), g, d, t, os⟩) :
    wpAny (model prog w) A (Builtin.«object.__getattribute__» ⟨[.ref a, .str "append" tk], []⟩) Q E ⟨h, g, d, t, os⟩ := by
  have hT : (⟨h, g, d, t, os⟩ : Shared).TypeIs (.ref a) "list" := ⟨_, hx, rfl⟩
  have f4 := FF.lk_append
  have f5 := FF.ty_append
  have f6 := FF.md_get
  have f7 := FF.md_set
  have f8 := FF.md_del
  repeat (any_goals (first | assumption | wp_step))
  refine append_get hx ?_
  repeat (any_goals (first | assumption | wp_step))
theorem append_call {tk : Tok} {vs : List Value} {n : Nat} {R : Result → Shared → Prop} (hx : h.get? a = some (listObj vs n)) (hq : R (.ok (.ret (.ref h.objs.size))) ⟨h.push (appObj a), g, d, t, os⟩) :
    codeAny (model prog w) A (.call (.builtin "list.__getattribute__") ⟨[.ref a, .str "append" tk], []⟩) R ⟨h, g, d, t, os⟩ :=
  codeAny_call_builtin F.slot_list_getattribute.plain F.entry_list_ga (F.slot_list_getattribute.check _ _ _ _ _ _ _ _ (show (⟨h, g, d, t, os⟩ : Shared).TypeIs (.ref a) "list" from ⟨_, hx, rfl⟩) (F.args_list_getattribute_2 _ _) (append_entry hx hq))
theorem getAttr_append {s : Shared} {vs : List Value} {n : Nat} {Q : Value → Shared → Prop} (hx : s.heap.get? a = some (listObj vs n)) (hq : ∀ k, Q (.ref s.heap.objs.size) { s with heap := s.heap.push (appObj a), toks := k }) : wpAny (model prog w) A (getAttr (.ref a) "append" true) Q E s := by
  obtain ⟨h, g, d, t, os⟩ := s
  have hT : ∀ t, (⟨h, g, d, t, os⟩ : Shared).TypeIs (.ref a) "list" := fun t => ⟨_, hx, rfl⟩
  have hT0 := hT (t + 1)
  have hT1 := hT t
  have f2 := F.slot_list_getattribute.lookup
  have f3 := F.slot_list_getattribute.bind (.ref a)
  unfold getAttr getAttrBy
  repeat (any_goals (first | assumption | wp_step))
  refine append_call hx ?_
  repeat (any_goals (first | assumption | wp_step))
  all_goals exact hq _
end
end Mine
end P8
section P9
set_option maxRecDepth 100000
set_option Elab.async false
set_option autoImplicit false
set_option linter.unusedSimpArgs false
set_option linter.unusedVariables false
namespace Mine
open PySem PyProof.Rows
section
variable {prog : Program} {w : World} {A : Around} {E : Value → Shared → Prop} {h : Heap} {g : Array GenState} {d : Drawn} {t : Nat} {os : OsState} {a : Addr} {o : Obj}
theorem call_app {s : Shared} {F l : Addr} {x : Value} {vs : List Value} {n : Nat} {Q : Value → Shared → Prop} (hF : s.heap.get? F = some (appObj l)) (hl : s.heap.get? l = some (listObj vs n)) (hz : vs.length ≤ 16777216)
    (hq : ∀ h', h'.get? l = some (listObj (vs ++ [x]) (n + 1)) → Heap.SameBut l s.heap h' → Q .none { s with heap := h' }) : wpAny (model prog w) A (call (.ref F) [x]) Q E s := by
  have hT : s.TypeIs (.ref F) "builtin_function_or_method" := ⟨_, hF, rfl⟩
  have hTl : s.TypeIs (.ref l) "list" := ⟨_, hl, rfl⟩
  obtain ⟨sg, h1, h2⟩ := FF.sig_append
  have h3 := FF.kind_append
  refine wpAny_call (codeAny_of_tree ?_)
  show wpAny _ A.in1 (callAny (.ref F) ⟨[x], []⟩) _ _ s
  simp only [callAny]
  refine wpAny_bind (wpAny_load hF ?_)
  simp only [appObj, List.getElem?_toArray, List.getElem?_cons_zero, List.getElem?_cons_succ, beq_self_eq_true, Bool.or_true, Bool.true_or, if_true]
  show wpAny (model prog w) A.in1 (do checkBoundCall "list.append" ⟨[.ref l, x], []⟩; again (Code.builtin "list.append" ⟨[.ref l, x], []⟩)) _ _ s
  refine wpAny_bind ?_
  simp only [checkBoundCall, h1, h3]
  rw [if_neg (by decide)]
  refine wpAny_bind (wpAny_isInstance hTl FF.not_module ?_)
  rw [if_neg (by rw [FF.not_varargs]; decide)]
  refine wpAny_bind ?_
  simp only [isType]
  refine wpAny_bind (wpAny_load hl (wpAny_pure ?_))
  simp only [listObj, Bool.false_eq_true, if_false]
  refine wpAny_bind (wpAny_typeOf hTl ?_)
  dsimp only
  rw [h2]
  refine wpAny_pure ?_
  refine wpAny_pure ⟨Code.quiet_builtin _ (by decide +kernel), codeAny_builtin entry_list_append ?_⟩
  show wpAny _ _ (updateSeq l (·.push x) >>= fun _ => ret .none) _ _ s
  refine wpAny_bind ?_
  refine wpAny_updateSeq hl rfl (wpAny_pure (hq _ ?_ (Heap.SameBut.update ..)))
  rw [Heap.get?_update_self _ hl (by rw [listObj, Obj.mapSeq_push_plain]; rfl), listObj, Obj.mapSeq_push_plain]
  simp [listObj]
end
section
variable {P : Par} {n : Nat} {sc : Scope}
noncomputable def wAppAttr (p : WE) : WE := fun σ Q => p σ fun a o => ∃ k vs, a = .ref k ∧ o[k]? = some (.list vs) ∧ Q (.ref o.length) (o ++ [.app k])
theorem ev_appattr {e : Expr} {pos : Pos} {p : WE} (h : EvE P n sc e p) (he : ∀ env, eval (.Attribute e (Str.ofString "append") pos) env = (do
      let o ← eval e env
      standAt pos.atName
      let r ← holding [o] (getAttr o (Str.ofString "append") true)
      letTemporaryGo e o r
      pure r) := by intro _; with_unfolding_all rfl) : EvE P n sc (.Attribute e (Str.ofString "append") pos) (wAppAttr p) := fun c A s m ad σ Q Q' E hc hs hA R hp hQ => by
  refine Attribute_any_ (h c A s m ad σ _ _ _ hc hs hA R hp fun h1 tk1 v1 ad1 os1 a1 R1 p1 r1 q1 => ?_) (he _)
  obtain ⟨k, vs, rfl, hk, q⟩ := q1
  cases r1 with
  | ref _ a ea =>
    obtain ⟨us, n0, hl, ru⟩ := R1.obj hk ea
    refine getAttr_append (s := { s with heap := h1, toks := tk1 }) hl fun tk => ?_
    obtain ⟨R2, r2⟩ := R1.push (o := .app k) (ob := appObj a) rfl ⟨a, pre_get (List.prefix_append ..) ea, Heap.get?_push_size _ rfl⟩
    exact hQ _ tk _ _ _ _ R2 (p1.trans (List.prefix_append ..)) r2 q
/-- an operation that may change the frame's own lists -/
noncomputable def OpOkV (P : Par) (n : Nat) (t : List Value → Sem Value) (w : Vs → List AV → List AO → VP → Prop) : Prop :=
  ∀ (c : Cx) (A : Around) (s : Shared) (m : Str → Option Value) (ad : List Addr) (vars : Vs) (os : List AO) (avs : List AV) (vs : List Value) (Q : VP) (Q' : Value → Shared → Prop) (E : Value → Shared → Prop),
    CxOk P c → AOk n A → Rel c m ad ⟨vars, os⟩ s.heap → RVs ad avs vs → w vars avs os Q → Post c m ad vars s Q Q' → wpAny (model P.prog P.w) A (t vs) Q' E s
theorem callWith_avV {c : Cx} {A : Around} {s : Shared} {m : Str → Option Value} {ad : List Addr} {σ : St} {pos : Pos} {es : List Expr} {q : WL} {w : Vs → List AV → List AO → VP → Prop} {f : Value} {first : List Value} {fa : List AV} {Q : VP} {Q' : Value → Shared → Prop} {E : Value → Shared → Prop}
    (hk : KeeperOk P f) (ha : EvL P n sc es q) (ho : OpOkV P n (fun vs => call f vs) w) (hst : ∀ env pos, (backTo pos (starEach es env)).any (·.1) = false)
    (hc : CxOk P c) (hs : c.env.scope = sc) (hA : AOk n A) (R : Rel c m ad σ s.heap) (rf : RVs ad fa first) (hp : q σ fun as o => w σ.vars (fa ++ as) o Q) (hQ : Post c m ad σ.vars s Q Q') :
    wpAny (model P.prog P.w) A (callWith pos f first (backTo pos (starEach es c.env)) []) Q' E s := by
  refine PySem.W.callWith_of (P := P.GF) (by rw [hst]; rfl) hk (evalArgs_any (hst _ _) (ha c A s m ad σ pos _ _ _ hc hs hA R hp fun h1 tk1 vs1 ad1 os1 as1 R1 p1 r1 q1 => ⟨hc.gf _ R1.keep, ?_⟩))
  exact ho c A _ m ad1 σ.vars os1 (fa ++ as1) (first ++ vs1) _ _ _ hc hA R1 ((rf.mono p1).append r1) q1 (hQ.pre p1 h1 tk1)
/-- a method of a list -/
noncomputable def wMethV (p : WE) (q : WL) (w : Vs → List AV → List AO → VP → Prop) : WE := fun σ Q => p σ fun a o1 => (∃ k vs, a = .ref k ∧ o1[k]? = some (.list vs)) ∧ q ⟨σ.vars, o1⟩ fun as o2 => w σ.vars (a :: as) o2 Q
theorem ev_methL {o : Expr} {name : String} {apos pos : Pos} {es : List Expr} {id : String} {p : WE} {q : WL} {w : Vs → List AV → List AO → VP → Prop}
    (slot : Slot "list" (Str.ofString name) id) (hty : typeOf (.builtin id) = pure (.type "method_descriptor"))
    (hp : EvE P n sc o p) (ha : EvL P n sc es q) (ho : OpOkV P n (fun vs => call (.builtin id) vs) w)
    (hbase : ∀ env, attributeBase o (Str.ofString name) env (eval o env) = eval o env := by intro _; rfl)
    (hfew : ∀ env, ((backTo pos (starEach es env)).all (fun x => !x.1) && (backToKw pos (keywordEach [] env)).all (fun x => x.1.isSome) && decide (es.length + ([] : List Keyword).length + (if ([] : List Keyword).isEmpty then 0 else 1) < 30)) = true := by intro _; rfl)
    (hline : (apos.endLine == pos.line) = true := by rfl)
    (hst : ∀ env pos, (backTo pos (starEach es env)).any (·.1) = false := by intro _ _; rfl) : EvE P n sc (.Call (.Attribute o (Str.ofString name) apos) es [] pos) (wMethV p q w) := fun c A s m ad σ Q Q' E hc hs hA R h hQ => by
  refine wpAny_Call_method (hbase _) (hfew _) hline PySem.F.plainAttrs_list slot hty (hp c A s m ad σ _ _ _ hc hs hA R h fun h1 tk1 v1 ad1 os1 a1 R1 p1 r1 q1 => ?_)
  obtain ⟨⟨k, vs, rfl, hk⟩, q1⟩ := q1
  cases r1 with
  | ref _ a ea =>
    obtain ⟨us, n0, hl, ru⟩ := R1.obj hk ea
    refine ⟨⟨_, hl, rfl⟩, fun b e => by cases e; exact ⟨_, hl, rfl⟩, callWith_avV (fa := [.ref k]) (keeper_builtin id) ha ho hst hc hs hA R1 (.cons (.ref k a ea) .nil) q1 (hQ.pre p1 h1 tk1)⟩
/-- append(x), append a name of the frame's -/
noncomputable def wLocCall (x : String) (q : WL) : WE := fun σ Q => ∃ j k, σ.vars.lookup x = some (.ref j) ∧ σ.objs[j]? = some (.app k) ∧ q σ fun as o => ∃ a vs, as = [a] ∧ o[j]? = some (.app k) ∧ o[k]? = some (.list vs) ∧ σ.vars.ro ≤ k ∧ vs.length ≤ 1000000 ∧ Q .none (o.set k (.list (vs ++ [a])))
theorem ev_loccall {x : String} {np pos : Pos} {es : List Expr} {q : WL} (ha : EvL P n sc es q)
    (hd : (Str.ofString x == ("__debug__" : Str)) = false := by decide +kernel) (hn : (Str.ofString x == ("__classdict__" : Str)) = false := by decide +kernel)
    (hst : ∀ env pos, (backTo pos (starEach es env)).any (·.1) = false := by intro _ _; rfl) : EvE P n sc (.Call (.Name (Str.ofString x) np) es [] pos) (wLocCall x q) := fun c A s m ad σ Q Q' E hc hs hA R hp hQ => by
  obtain ⟨j, k, hx, hj, hp⟩ := hp
  refine wpAny_Call_ofName (wpAny_Name (load_var x hc R hx hn fun v rv => ?_) hd)
  cases rv with
  | ref _ F eF =>
    obtain ⟨l, el, hF⟩ := R.obj hj eF
    refine PySem.W.callWith_of (P := fun h => h.get? F = some (appObj l)) (by rw [hst]; rfl) (fun h hh => ⟨.machine, .inr (.inl rfl), ?_⟩) (evalArgs_any (hst _ _) (ha c A s m ad σ pos _ _ _ hc hs hA R hp fun h1 tk1 vs1 ad1 os1 as1 R1 p1 r1 q1 => ?_))
    · intro A' Q1 E1 s1 k1 q1
      have hF1 := k1 _ _ hh
      simp only [keeperOf]
      refine wpAny_bind (wpAny_load hF1 ?_)
      simp only [appObj]
      exact wpAny_pure q1
    · obtain ⟨a, xs, rfl, hj', hk, hro, hz, q⟩ := q1
      obtain ⟨l', el', hF'⟩ := R1.obj hj' (pre_get p1 eF)
      have e2 := pre_get p1 el
      rw [e2] at el'; cases el'
      refine ⟨hF', ?_⟩
      cases r1 with | cons ra rn => cases rn with | nil =>
        obtain ⟨us, n0, hl, ru⟩ := R1.obj hk e2
        have hlen := ru.length
        refine call_app (s := { s with heap := h1, toks := tk1 }) hF' hl (by lia  ) fun h' hl' hs' => ?_
        exact hQ h' tk1 .none ad1 _ .none (R1.change e2 (Nat.le_trans R.roEq hro) (fun b o hb e => (hs'.2 b hb).trans e) (o := .list (xs ++ [a])) ⟨_, _, hl', ru.append (.cons ra .nil)⟩) p1 .none q
end
end Mine
end P9
section P10
set_option maxRecDepth 100000
set_option Elab.async false
set_option autoImplicit false
set_option linter.unusedSimpArgs false
set_option linter.unusedVariables false
namespace Mine
open PySem PyProof.Rows
section
variable {P : Par} {n : Nat} {sc : Scope}
noncomputable def wStore (vars : Vs) : AV → AV → AV → List AO → (List AO → Prop) → Prop
  | .ref k, .int i, a, os, K => ∃ vs, os[k]? = some (.list vs) ∧ vars.ro ≤ k ∧ 0 ≤ i ∧ i < vs.length ∧ vs.length ≤ 1000000 ∧ K (os.set k (.list (vs.set i.toNat a)))
  | _, _, _, _, _ => False
theorem setItem_av {c : Cx} {A : Around} {s : Shared} {m : Str → Option Value} {ad : List Addr} {vars : Vs} {os : List AO} {a i b : AV} {u v x : Value} {K : List AO → Prop} {Q' : Unit → Shared → Prop} {E : Value → Shared → Prop}
    (R : Rel c m ad ⟨vars, os⟩ s.heap) (ra : RV ad a u) (ri : RV ad i v) (rb : RV ad b x) (hp : wStore vars a i b os K) (hQ : ∀ h' os', Rel c m ad ⟨vars, os'⟩ h' → K os' → Q' () { s with heap := h' }) :
    wpAny (model P.prog P.w) A (setItem u v x) Q' E s := by
  unfold wStore at hp
  split at hp
  · rename_i k i
    cases ra with | ref _ l el => cases ri with | int _ t =>
      obtain ⟨xs, hk, hro, h0, h1, hz, q⟩ := hp
      obtain ⟨us, n0, hl, ru⟩ := R.obj hk el
      have hlen := ru.length
      obtain ⟨n1, hn1⟩ : ∃ n1, (s.heap.update l (Obj.mapSeq (·.setIfInBounds i.toNat x))).get? l = some (listObj (us.set i.toNat x) n1) := by
        have q := PySem.IsL.update hl (·.setIfInBounds i.toNat x)
        rw [List.setIfInBounds_toArray] at q
        exact ⟨_, q⟩
      refine PySem.W.ki_setAt hl h0 (by have e : (2 : Int) ^ 63 = 9223372036854775808 := by decide
                                        rw [e]; lia  ) (by simp; lia  ) (hQ _ _ (R.change el (Nat.le_trans R.roEq hro) (fun b o hb e => ((Heap.SameBut.update ..).2 b hb).trans e) (o := .list (xs.set i.toNat b)) ⟨us.set i.toNat x, n1, hn1, ru.set rb⟩) q)
  · exact hp.elim
theorem getItem_plain {c : Cx} {A : Around} {s : Shared} {m : Str → Option Value} {ad : List Addr} {vars : Vs} {os : List AO} {a i : AV} {u v : Value} {Q : VP} {Q' : Value → Shared → Prop} {E : Value → Shared → Prop}
    (R : Rel c m ad ⟨vars, os⟩ s.heap) (ra : RV ad a u) (ri : RV ad i v) (hp : wItem a i os Q) (hQ : Post c m ad vars s Q Q') (hk : ∃ k, a = .ref k) : wpAny (model P.prog P.w) A (getItem u v) Q' E s := by
  obtain ⟨k, rfl⟩ := hk
  unfold wItem at hp
  split at hp
  · rename_i h; cases h
  · rename_i k' i h
    cases h
    cases ra with | ref _ a ea => cases ri with | int _ t =>
      obtain ⟨vs, j, av, ho, hl, hj, hv, q⟩ := hp
      obtain ⟨b1, b2, b3⟩ := seqIndex_bounds hj
      have e : (2 : Int) ^ 63 = 9223372036854775808 := by decide
      rcases ho with ho | ho
      · obtain ⟨us, hl', ru⟩ := (R.obj ho ea).list_at
        obtain ⟨x, hx, rx⟩ := ru.get hv
        have hlen := ru.length
        by_cases hi : i < 0
        · rw [if_pos hi] at b3
          refine wpAny_getItem_list_neg hl' hi (by simp; lia  ) (by rw [e]; lia  ) (x := x) ?_ (hQ.now R rx q s.toks)
          have : (i + (us.toArray.size : Int)).toNat = j := by simp; lia  
          rw [this]; simpa using hx
        · rw [if_neg hi] at b3
          refine wpAny_getItem_list hl' (by lia  ) (by rw [e]; lia  ) (x := x) ?_ (hQ.now R rx q s.toks)
          have : i.toNat = j := by lia  
          rw [this]; simpa using hx
      · obtain ⟨us, hl', ru⟩ := (R.obj ho ea).tup_at
        obtain ⟨x, hx, rx⟩ := ru.get hv
        have hlen := ru.length
        exact getItem_tuple (j := j) (x := x) hl' (by rw [e]; lia  ) (by rw [e]; lia  ) (by simpa [← hlen] using hj) (by simpa using hx) (hQ.now R rx q s.toks)
  · exact hp.elim
theorem ex_augitem {o i value : Expr} {op : Operator} {pos' pos : Pos} {p q r : WE} {w : List AV → List AO → VP → Prop} (ho : EvE P n sc o q) (hi : EvE P n sc i r) (hv : EvE P n sc value p) (hw : OpOk P n (fun vs => inplaceOp op (vs.getD 0 .none) (vs.getD 1 .none)) w)
    (ha : ∀ ov iv new, augStore i ov iv new = (do holding [new, ov, iv] (setItem ov iv new); release [new, ov, iv] []; pure .next) := by intro _ _ _; rfl) : EvX P n sc (.AugAssign (.Subscript o i pos') op value pos) (fun σ Q => q σ fun a o1 => (∃ k, a = .ref k) ∧ r ⟨σ.vars, o1⟩ fun k o2 => wItem a k o2 fun old o3 => p ⟨σ.vars, o3⟩ fun b o4 => w [old, b] o4 fun x o5 => wStore σ.vars a k x o5 fun o6 => Q .next ⟨σ.vars, o6⟩) := fun c A s m ad σ Q Q' E hc hs hcp hA R hp hQ => by
  refine wpAny_AugAssign_SubscriptAny (ho c A s m ad σ _ _ _ hc hs hA R hp fun h1 tk1 v1 ad1 os1 a1 R1 p1 r1 q1 => ?_) ha
  obtain ⟨hk, q1⟩ := q1
  refine hi c A _ m ad1 ⟨σ.vars, os1⟩ _ _ _ hc hs hA R1 q1 fun h2 tk2 v2 ad2 os2 a2 R2 p2 r2 q2 => ?_
  refine getItem_plain (m := m) (s := { s with heap := h2, toks := tk2 }) R2 (r1.mono p2) r2 q2 (fun h3 tk3 v3 ad3 os3 a3 R3 p3 r3 q3 => ?_) hk
  refine hv c A _ m ad3 ⟨σ.vars, os3⟩ _ _ _ hc hs hA R3 q3 fun h4 tk4 v4 ad4 os4 a4 R4 p4 r4 q4 => ?_
  refine hw c A _ m ad4 σ.vars os4 [a3, a4] [v3, v4] _ _ _ hc hA R4 (.cons (r3.mono p4) (.cons r4 .nil)) q4 fun h5 tk5 v5 ad5 os5 a5 R5 p5 r5 q5 => ?_
  exact setItem_av (s := { s with heap := h5, toks := tk5 }) R5 ((((r1.mono p2).mono p3).mono p4).mono p5) (((r2.mono p3).mono p4).mono p5) r5 q5 fun h6 os6 R6 q6 => hQ h6 tk5 .next m ad5 _ .next R6 ((((p1.trans p2).trans p3).trans p4).trans p5) .next q6
noncomputable def wPop (vars : Vs) : List AV → List AO → VP → Prop
  | [.ref k, .int i], os, Q => ∃ vs j a, os[k]? = some (.list vs) ∧ vars.ro ≤ k ∧ vs.length ≤ 1000000 ∧ seqIndex? i vs.length = some j ∧ vs[j]? = some a ∧ Q a (os.set k (.list (vs.eraseIdx j)))
  | _, _, _ => False
theorem op_pop : OpOkV P n (fun vs => call (.builtin "list.pop") vs) wPop := by
  intro c A s m ad vars os avs vs Q Q' E hc hA R rs hp hQ
  unfold wPop at hp
  split at hp
  · rename_i k i
    obtain ⟨xs, j, a, hk, hro, hz, hj, ha, q⟩ := hp
    cases rs with | cons r1 rs => cases rs with | cons r2 rs => cases rs with | nil =>
      cases r1 with | ref _ l el => cases r2 with | int _ t =>
        obtain ⟨us, n0, hl, ru⟩ := R.obj hk el
        have hlen := ru.length
        obtain ⟨y, hy, ry⟩ := ru.get ha
        obtain ⟨b1, b2, b3⟩ := seqIndex_bounds hj
        have hjl : j < xs.length := (List.getElem?_eq_some_iff.mp ha).1
        refine call_meets PySem.F.slot_list_pop ⟨_, hl, rfl⟩ PySem.F.entry_list_pop (PySem.F.args_list_pop_2 _ _) (PySem.MeetsSeq.list_pop_at l us.toArray n0 i t j y ?_ (by simpa [← hlen] using hj) (by simpa using hy) (by rw [sizeLine_eq]; simp; lia  )) ⟨hl, ?_⟩
        · by_cases hi : i < 0
          · exact fitsIndex_neg hi (by have e : (2 : Int) ^ 63 = 9223372036854775808 := by decide
                                       rw [e]; lia  )
          · exact fitsIndex_of (by lia  ) (by have e : (2 : Int) ^ 63 = 9223372036854775808 := by decide
                                              rw [e]; lia  )
        · obtain ⟨n1, hn1⟩ : ∃ n1, (s.heap.update l (Obj.mapSeq fun xs => xs.eraseIdxIfInBounds j)).get? l = some (listObj (us.eraseIdx j) n1) := by
            have q := PySem.IsL.update hl (fun xs => xs.eraseIdxIfInBounds j)
            have hju : j < us.length := by lia  
            have e1 : us.toArray.eraseIdxIfInBounds j = (us.eraseIdx j).toArray := by
              simp [Array.eraseIdxIfInBounds, hju]
            rw [e1] at q
            exact ⟨_, q⟩
          exact hQ _ s.toks y ad _ a (R.change el (Nat.le_trans R.roEq hro) (fun b o hb e => ((Heap.SameBut.update ..).2 b hb).trans e) (o := .list (xs.eraseIdx j)) ⟨us.eraseIdx j, n1, hn1, ru.eraseIdx j⟩) (List.prefix_refl _) ry q
  · exact hp.elim
noncomputable def wLen : List AV → List AO → VP → Prop
  | [.str x], os, Q => x.length < 4611686018427387904 ∧ Q (.int x.length) os
  | [.ref k], os, Q => ∃ vs, os[k]? = some (.list vs) ∧ vs.length < 4611686018427387904 ∧ Q (.int vs.length) os
  | _, _, _ => False
theorem op_len : OpOk P n (fun vs => call (.builtin "len") vs) wLen := by
  intro c A s m ad vars os avs vs Q Q' E hc hA R rs hp hQ
  unfold wLen at hp
  have e : (2 : Int) ^ 63 = 9223372036854775808 := by decide
  split at hp
  · cases rs with | cons r1 rs => cases rs with | nil => cases r1; exact PySem.P.len_str (by rw [e]; lia  ) (hQ.now R (.int _ _) hp.2 _)
  · obtain ⟨xs, hk, hz, q⟩ := hp
    cases rs with | cons r1 rs => cases rs with | nil => cases r1 with | ref _ l el =>
      obtain ⟨us, hl, ru⟩ := (R.obj hk el).list_at
      have hlen := ru.length
      refine Calls.call_len_list hl (by rw [e]; simp; lia  ) ?_
      have : us.toArray.size = xs.length := by simp [hlen]
      rw [this]
      exact hQ.now R (.int _ _) q _
  · exact hp.elim
noncomputable def wOrd : List AV → List AO → VP → Prop
  | [.str x], os, Q => x.length = 1 ∧ Q (.int (x.cps.getD 0 0 : Nat)) os
  | _, _, _ => False
theorem op_ord : OpOk P n (fun vs => call (.builtin "ord") vs) wOrd := by
  intro c A s m ad vars os avs vs Q Q' E hc hA R rs hp hQ
  unfold wOrd at hp
  split at hp
  · cases rs with | cons r1 rs => cases rs with | nil => cases r1; exact ord_of_one hp.1 (hQ.now R (.int _ _) hp.2 _)
  · exact hp.elim
noncomputable def wChr : List AV → List AO → VP → Prop
  | [.int i], os, Q => 0 ≤ i ∧ i ≤ 1114111 ∧ Q (.str ⟨#[i.toNat]⟩) os
  | _, _, _ => False
theorem op_chr : OpOk P n (fun vs => call (.builtin "chr") vs) wChr := by
  intro c A s m ad vars os avs vs Q Q' E hc hA R rs hp hQ
  unfold wChr at hp
  split at hp
  · cases rs with | cons r1 rs => cases rs with | nil => cases r1; exact chr_of_range hp.1 hp.2.1 (hQ.now R (.str _ _) hp.2.2 _)
  · exact hp.elim
noncomputable def wMin : List AV → List AO → VP → Prop
  | [.int a, .int b], os, Q => Q (.int (if b < a then b else a)) os
  | _, _, _ => False
noncomputable def isS (a : AV) (_ : List AO) : Prop := ∃ x, a = .str x
theorem ev_smeth {o : Expr} {name : String} {apos pos : Pos} {es : List Expr} {id : String} {p : WE} {q : WL} {w : List AV → List AO → VP → Prop}
    (slot : Slot "str" (Str.ofString name) id) (hty : typeOf (.builtin id) = pure (.type "method_descriptor"))
    (hp : EvE P n sc o p) (ha : EvL P n sc es q) (ho : OpOk P n (fun vs => call (.builtin id) vs) w)
    (hbase : ∀ env, attributeBase o (Str.ofString name) env (eval o env) = eval o env := by intro _; rfl)
    (hfew : ∀ env, ((backTo pos (starEach es env)).all (fun x => !x.1) && (backToKw pos (keywordEach [] env)).all (fun x => x.1.isSome) && decide (es.length + ([] : List Keyword).length + (if ([] : List Keyword).isEmpty then 0 else 1) < 30)) = true := by intro _; rfl)
    (hline : (apos.endLine == pos.line) = true := by rfl)
    (hst : ∀ env pos, (backTo pos (starEach es env)).any (·.1) = false := by intro _ _; rfl) : EvE P n sc (.Call (.Attribute o (Str.ofString name) apos) es [] pos) (wMeth isS p q w) :=
  ev_meth (T := "str") (fun c m ad vars os s a v R rv ⟨x, hx⟩ => by subst hx; cases rv; exact ⟨typeIs_str _ _ _, fun b e => nomatch e⟩) PySem.F.plainAttrs_str slot hty hp ha ho hbase hfew hline hst
noncomputable def totLen (ys : List Str) : Nat := (ys.map (·.length)).sum
noncomputable def wJoin : List AV → List AO → VP → Prop
  | [.str x, .ref k], os, Q => ∃ ys : List Str, os[k]? = some (.list (ys.map .str)) ∧ totLen ys + ys.length * x.length ≤ 16777216 ∧ Q (.str (Txt.join x ys)) os
  | _, _, _ => False
theorem op_join : OpOk P n (fun vs => call (.builtin "str.join") vs) wJoin := by
  intro c A s m ad vars os avs vs Q Q' E hc hA R rs hp hQ
  unfold wJoin at hp
  split at hp
  · obtain ⟨ys, hk, hz, q⟩ := hp
    cases rs with | cons r1 rs => cases rs with | cons r2 rs => cases rs with | nil =>
      cases r1; cases r2 with | ref _ l el =>
        obtain ⟨us, hl, ru⟩ := (R.obj hk el).list_at
        exact join_list hl (by simpa using rvs_strs ru) hz fun t' k => hQ.now R (.str _ _) q _
  · exact hp.elim
noncomputable def wCount : List AV → List AO → VP → Prop
  | [.str x, .str y], os, Q => Q (.int (Txt.count x y)) os
  | _, _, _ => False
theorem op_count : OpOk P n (fun vs => call (.builtin "str.count") vs) wCount := by
  intro c A s m ad vars os avs vs Q Q' E hc hA R rs hp hQ
  unfold wCount at hp
  split at hp
  · cases rs with | cons r1 rs => cases rs with | cons r2 rs => cases rs with | nil => cases r1; cases r2; exact SC.count (hQ.now R (.int _ _) hp _)
  · exact hp.elim
noncomputable def wLower : List AV → List AO → VP → Prop
  | [.str x], os, Q => x.length ≤ 5592405 ∧ Q (.str (Txt.lower x)) os
  | _, _, _ => False
theorem op_lower : OpOk P n (fun vs => call (.builtin "str.lower") vs) wLower := by
  intro c A s m ad vars os avs vs Q Q' E hc hA R rs hp hQ
  unfold wLower at hp
  split at hp
  · cases rs with | cons r1 rs => cases rs with | nil => cases r1; exact SCL.lower hp.1 (fun _ => hQ.now R (.str _ _) hp.2 _)
  · exact hp.elim
noncomputable def wUpper : List AV → List AO → VP → Prop
  | [.str x], os, Q => x.length ≤ 5592405 ∧ Q (.str (Txt.upper x)) os
  | _, _, _ => False
noncomputable def wSplit : List AV → List AO → VP → Prop
  | [.str x, .str y], os, Q => y.length ≠ 0 ∧ x.length ≤ 1000000 ∧ Q (.ref os.length) (os ++ [.list ((Txt.split x y).map .str)])
  | _, _, _ => False
theorem rvs_values {ad : List Addr} : ∀ (l : List (Str × Tok)), RVs ad ((l.map (·.1)).map .str) (strValues l)
  | [] => .nil
  | (x, t) :: r => .cons (.str x t) (rvs_values r)
/-- a new list at the ledger's head -/
theorem post_new {c : Cx} {s : Shared} {m : Str → Option Value} {ad : List Addr} {vars : Vs} {os : List AO} {as : List AV} {vs : List Value} {k tk : Nat} {D : Addr} {h' : Heap} {Q : VP} {Q' : Value → Shared → Prop} (R : Rel c m ad ⟨vars, os⟩ s.heap) (rs : RVs ad as vs)
    (F : Fr {} c.env.locals h' m) (N : News {} c.env.locals h' ((D, listObj vs k) :: allNews s.heap c.env.locals)) (hD : ∀ p ∈ allNews s.heap c.env.locals, p.1 < D) (q : Q (.ref os.length) (os ++ [.list as])) (hQ : Post c m ad vars s Q Q') : Q' (.ref D) { s with heap := h', toks := tk } := by
  have hk := kl_of_news F N fun p hp => List.mem_cons_of_mem _ hp
  have hn : s.heap.get? D = none := by
    cases e : s.heap.get? D with
    | none => rfl
    | some o =>
      by_cases hL : D = c.env.locals
      · exact absurd hL (N _ (List.mem_cons_self ..)).2.1
      · exact absurd (hD _ (allNews_mem hL e)) (Nat.lt_irrefl _)
  have hob : h'.get? D = some (listObj vs k) := (N _ (List.mem_cons_self ..)).1
  have R2 := R.alloc (o := .list as) hk hn ⟨vs, k, hob, rs.mono (List.prefix_append ..)⟩
  refine hQ h' tk _ _ _ _ R2 (List.prefix_append ..) (.ref _ _ ?_) q
  have := R.len
  dsimp only at this
  rw [← this, List.getElem?_append_right (Nat.le_refl _), Nat.sub_self]; rfl
theorem op_split : OpOk P n (fun vs => call (.builtin "str.split") vs) wSplit := by
  intro c A s m ad vars os avs vs Q Q' E hc hA R rs hp hQ
  unfold wSplit at hp
  split at hp
  · rename_i x y
    obtain ⟨hy, hz, q⟩ := hp
    cases rs with | cons r1 rs => cases rs with | cons r2 rs => cases rs with | nil =>
      cases r1; cases r2
      refine PySem.W.KSpl.split1 R.fr R.news (by simpa using hy) (fun D l h' k hl hs F N hD => ?_) (by rw [sizeLine_eq]; lia  )
      have rl := rvs_values (ad := ad) l
      rw [hl] at rl
      exact post_new R rl F N hD q hQ
  · exact hp.elim
end
end Mine
end P10
section P11
set_option maxRecDepth 100000
set_option Elab.async false
set_option autoImplicit false
set_option linter.unusedSimpArgs false
set_option linter.unusedVariables false
namespace Mine
open PySem PyProof.Rows PySem.Builtin PySem.Builtin.Str
section
variable {prog : Program} {w : World} {A : Around} {E : Value → Shared → Prop}
theorem tab_look {s : Shared} {a : Addr} {us : List Value} {c : Nat} {y : Str} {u : Tok} {Q : Mapped → Shared → Prop} (hl : s.heap.IsList a us.toArray) (hc : us[c]? = some (.str y u)) (hn : c < 4611686018427387904) (hq : Q (.text y) { s with toks := s.toks + 1 }) :
    wpAny (model prog w) A (tableLookup (.ref a) c) Q E s := by
  have e : (2 : Int) ^ 63 = 9223372036854775808 := by decide
  unfold tableLookup
  refine wpAny_bind (wpAny_attempt ?_)
  show wpAny _ _ (mkInt c >>= fun i => getItem (.ref a) i) _ _ s
  refine wpAny_bind (m := mkInt c) (wpAny_mkInt ?_)
  refine wpAny_getItem_list (s := { s with toks := s.toks + 1 }) hl (Int.natCast_nonneg c) (by rw [e]; show (c : Int) < _; lia  ) (x := .str y u) (by simpa using hc) ?_
  first | exact wpAny_pure hq | exact hq
noncomputable def trText (T : Nat → Str) (l : List Nat) : Str := ⟨(l.flatMap fun c => (T c).cps.toList).toArray⟩
noncomputable def trLen (T : Nat → Str) (l : List Nat) : Nat := (l.map fun c => (T c).length).sum
theorem trLen_app (T : Nat → Str) (l r : List Nat) : trLen T (l ++ r) = trLen T l + trLen T r := by unfold trLen; simp
theorem pieces_text (T : Nat → Str) (l : List Nat) : (⟨(l.map T).foldl (fun acc p => acc ++ p.cps) #[]⟩ : Str) = trText T l := by
  refine str_ext ?_
  have : ∀ (l : List Nat) (acc : Array Nat), ((l.map T).foldl (fun acc p => acc ++ p.cps) acc).toList = acc.toList ++ l.flatMap fun c => (T c).cps.toList := by
    intro l
    induction l with
    | nil => intro acc; simp
    | cons c r ih => intro acc; rw [List.map_cons, List.foldl_cons, ih]; simp
  rw [this]; simp [trText]
theorem translate_wp {s : Shared} {a : Addr} {us : List Value} {x : Str} {t : Tok} {T : Nat → Str} {Q : Value → Shared → Prop} (hl : s.heap.IsList a us.toArray) (hT : ∀ c ∈ x.cps.toList, c < 4611686018427387904 ∧ ∃ u, us[c]? = some (.str (T c) u))
    (hz : trLen T x.cps.toList ≤ 16777216) (hq : ∀ t' k, Q (.str (trText T x.cps.toList) t') { s with toks := k }) : wpAny (model prog w) A (call (.builtin "str.translate") [.str x t, .ref a]) Q E s := by
  refine wpAny_call_entry PySem.F.slot_str_translate (typeIs_str _ _ _) PySem.F.entry_str_translate ?_ (PySem.F.args_str_translate_2 _ _)
  unfold Builtin.«str.translate»
  simp only [strOneArg, selfAndOne, textOf, pure_bind, bind_assoc]
  refine wpAny_bind (wpAny_of_eq (a := ()) rfl ?_)
  refine wpAny_bind (wpAny_of_eq (a := some x) rfl ?_)
  refine wpAny_bind (wpAny_of_eq (a := x) rfl ?_)
  by_cases h0 : (x.length == 0) = true
  · rw [if_pos h0]
    have hx : x.cps.toList = [] := by
      have : x.cps.size = 0 := eq_of_beq h0
      rw [Array.eq_empty_of_size_eq_zero this]
    refine wpAny_bind (wpAny_rule (wpAny_pure ?_))
    refine ⟨_, rfl, ?_⟩
    have e : trText T x.cps.toList = x := str_ext (by unfold trText; rw [hx]; rfl)
    have := hq t s.toks
    rw [e] at this
    exact this
  · rw [if_neg h0]
    refine wpAny_bind ?_
    refine PySem.MeetsSeq2.wpAny_forIn_array _ (fun rest (b : List Str × Nat × Bool × List (Nat × Option Nat) × Bool) s' => ∃ done tk, x.cps.toList = done ++ rest ∧ b.1 = (done.map T).reverse ∧ b.2.1 = trLen T done ∧ (∀ c v, b.2.2.2.1.lookup c = some v → ∃ d, v = some d ∧ T c = ⟨#[d]⟩) ∧ b.2.2.2.2 = false ∧ s' = { s with toks := tk }) _ ?_ ?_ _ _ ⟨[], s.toks, rfl, rfl, rfl, fun c v h => by simp at h, rfl, rfl⟩
    · rintro c rest ⟨pieces, total, fast, known, drop⟩ s' ⟨done, tk, hx, hp, ht, hk, hd, rfl⟩
      dsimp only at hp ht hk hd
      subst hp ht hd
      have hm : c ∈ x.cps.toList := by rw [hx]; simp
      obtain ⟨hcn, u, hcu⟩ := hT c hm
      have hz' : trLen T done + (T c).length ≤ 16777216 := by
        rw [hx, trLen_app] at hz
        have : trLen T (c :: rest) = (T c).length + trLen T rest := rfl
        lia  
      have ex : x.cps.toList = (done ++ [c]) ++ rest := by rw [hx]; simp
      have e2 : trLen T (done ++ [c]) = trLen T done + (T c).length := by rw [trLen_app]; rfl
      have slow : ∀ (tk : Nat) (known : List (Nat × Option Nat)), (∀ c v, known.lookup c = some v → ∃ d, v = some d ∧ T c = ⟨#[d]⟩) → ∃ done' tk', x.cps.toList = done' ++ rest ∧ T c :: (done.map T).reverse = (done'.map T).reverse ∧ trLen T done + (T c).length = trLen T done' ∧ (∀ c v, known.lookup c = some v → ∃ d, v = some d ∧ T c = ⟨#[d]⟩) ∧ ({ s with toks := tk } : Shared) = { s with toks := tk' } :=
        fun tk known hk => ⟨done ++ [c], tk, ex, by simp, e2.symm, hk, rfl⟩
      rw [if_neg (by unfold tooLong; rw [sizeLine_eq]; simp; lia  )]
      cases fast with
      | true =>
        rw [if_pos rfl]
        dsimp only
        cases hlk : known.lookup c with
        | some v =>
          obtain ⟨d, rfl, hTc⟩ := hk c v hlk
          dsimp only
          refine wpAny_pure ⟨done ++ [c], tk, ex, ?_, ?_, hk, rfl, rfl⟩
          · simp [hTc]
          · rw [e2, hTc]; rfl
        | none =>
          refine wpAny_bind (tab_look (s := { s with toks := tk }) hl hcu hcn ?_)
          dsimp only
          by_cases h1 : ((T c).length == 1 && (T c).cps.all fun x => decide (x < 128)) = true
          · rw [if_pos h1]
            have hlen : (T c).cps.size = 1 := eq_of_beq (Bool.and_eq_true_iff.mp h1).1
            obtain ⟨d, hTd⟩ : ∃ d, T c = ⟨#[d]⟩ := ⟨(T c).cps[0], by
              refine str_ext ?_
              apply List.ext_getElem
              · simp [hlen]
              · intro i h1 h2
                have : i = 0 := by simp at h2; lia  
                subst this; simp⟩
            have hget : (T c).cps[0]? = some d := by rw [hTd]; rfl
            rw [hget]
            dsimp only
            refine wpAny_pure ⟨done ++ [c], tk + 1, ex, ?_, ?_, ?_, rfl, rfl⟩
            · simp [hTd]
            · rw [e2, hTd]; rfl
            · intro c' v' h'
              by_cases hcc : c' = c
              · subst hcc
                rw [List.lookup_cons_self] at h'
                cases h'
                exact ⟨d, rfl, hTd⟩
              · rw [List.lookup_cons, beq_eq_false_iff_ne.mpr hcc] at h'
                exact hk c' v' h'
          · rw [if_neg h1]
            dsimp only
            refine wpAny_bind (wpAny_rule ?_)
            first | refine wpAny_pure ?_ | skip
            rw [if_neg (by decide)]
            refine wpAny_bind (tab_look (s := { s with toks := tk + 1 }) hl hcu hcn ?_)
            dsimp only
            obtain ⟨done', tk', g1, g2, g3, g4, g5⟩ := slow (tk + 1 + 1) known hk
            exact wpAny_pure ⟨done', tk', g1, g2, g3, g4, rfl, g5⟩
      | false =>
        rw [if_neg (show ¬ (false = true) from Bool.false_ne_true)]
        dsimp only
        rw [if_neg (by decide)]
        refine wpAny_bind (tab_look (s := { s with toks := tk }) hl hcu hcn ?_)
        dsimp only
        obtain ⟨done', tk', g1, g2, g3, g4, g5⟩ := slow (tk + 1) known hk
        exact wpAny_pure ⟨done', tk', g1, g2, g3, g4, rfl, g5⟩
    · rintro ⟨pieces, total, fast, known, drop⟩ s' ⟨done, tk, hx, hp, ht, hk, hd, rfl⟩
      dsimp only at hp ht
      subst hp ht
      rw [List.append_nil] at hx
      subst hx
      dsimp only
      rw [if_neg (by unfold tooLong; rw [sizeLine_eq]; simp; lia  )]
      rw [List.reverse_reverse, pieces_text]
      have hsz : (trText T x.cps.toList).length ≤ 16777216 := by
        have : (trText T x.cps.toList).length = trLen T x.cps.toList := by
          show ((x.cps.toList.flatMap fun c => (T c).cps.toList).toArray).size = _
          rw [List.size_toArray, List.length_flatMap]; rfl
        lia  
      unfold retStr
      refine wpAny_bind ?_
      unfold mkStr
      rw [if_neg (by rw [sizeLine_eq]; lia  )]
      refine wpAny_bind (wpAny_fresh (wpAny_pure (wpAny_pure ⟨_, rfl, hq _ _⟩)))
end
end Mine
end P11
section P12
set_option maxRecDepth 100000
set_option Elab.async false
set_option autoImplicit false
set_option linter.unusedSimpArgs false
set_option linter.unusedVariables false
namespace Mine
open PySem PyProof.Rows PySem.Builtin PySem.Builtin.Str
theorem enc_road (id : String) (self : Value) (s : Str) : _codecs.encodeRoad id self s (Str.ofString "ascii") none = (_codecs.encodeNarrow id _codecs.asciiCodec none self s >>= fun b => mkBytes b) := by kernel_rfl
theorem enc_entry (x : Str) (t u : Tok) : Builtin.«str.encode» ⟨[.str x t, .str (Str.ofString "ascii") u], []⟩ = (_codecs.encodeRoad "str.encode" (.str x t) x (Str.ofString "ascii") none >>= fun v => ret v) := by kernel_rfl
theorem dec_entry (c : UInt8) (cs : List UInt8) (t u : Tok) : Builtin.«bytes.decode» ⟨[.bytes (c :: cs).toArray t, .str (Str.ofString "ascii") u], []⟩ = (mkStr (Str.ofString "utf-8") >>= fun _ => mkStr (Str.ofString "ascii") >>= fun e => mkStr (Str.ofString "bytes.decode") >>= fun d =>
    call (.builtin "_codecs.decode.text") [.bytes (c :: cs).toArray t, e, .none, d] >>= fun v => ret v) := by kernel_rfl
theorem dec_road (id : String) (b : Array UInt8) : _codecs.decodeRoad id b (Str.ofString "ascii") none [] = (_codecs.runDecoder id _codecs.asciiDecoder none true b 0 [] >>= fun r => mkStr ⟨r.1⟩) := by kernel_rfl
theorem range_forIn {β : Type} (n : Nat) (b : β) (f : Nat → β → Sem (ForInStep β)) : forIn [0 : n] b f = forIn (List.range' 0 n) b f := by
  rw [Std.Legacy.Range.forIn_eq_forIn_range']
  simp [Std.Legacy.Range.size]
noncomputable def asBytes (x : Str) : Array UInt8 := (x.cps.toList.map Nat.toUInt8).toArray
noncomputable def ofBytes (b : Array UInt8) : Str := ⟨(b.toList.map UInt8.toNat).toArray⟩
theorem fold_bytes : ∀ (l : List Nat) (acc : Array UInt8), (l.foldl (fun acc y => acc ++ (_codecs.asciiCodec.bytesOf y).toArray) acc) = acc ++ (l.map Nat.toUInt8).toArray
  | [], acc => by simp
  | c :: r, acc => by rw [List.foldl_cons, fold_bytes r, Array.append_assoc]; congr 1; simp [_codecs.asciiCodec]
theorem enc_narrow (id : String) (self : Value) (x : Str) (h : ∀ c ∈ x.cps.toList, c < 128) (hz : x.length ≤ 16777216) : _codecs.encodeNarrow id _codecs.asciiCodec none self x = pure (asBytes x) := by
  have hbad : ∀ c ∈ x.cps.toList, _codecs.asciiCodec.bad c = false := fun c hc => decide_eq_false (Nat.not_le.mpr (h c hc))
  unfold _codecs.encodeNarrow
  dsimp only
  rw [range_forIn]
  have hsz : x.length = x.cps.size := rfl
  cases hn : x.length with
  | zero =>
    rw [List.range'_zero, List.forIn_nil]
    have hx : x.cps = #[] := Array.eq_empty_of_size_eq_zero (by rw [← hsz, hn])
    simp [asBytes, hx]
  | succ n =>
    have h0 : 0 < x.cps.size := by lia  
    rw [List.range'_succ, List.forIn_cons]
    have e0 : x.cps[0]? = some x.cps[0] := by simp [h0]
    have b0 : _codecs.asciiCodec.bad x.cps[0] = false := hbad _ (by simp)
    have ex : x.cps.extract 0 x.cps.size = x.cps := by simp
    have efind : x.cps.findIdx? _codecs.asciiCodec.bad = none := by
      rw [Array.findIdx?_eq_none_iff]
      intro c hc
      exact hbad c (by simpa using hc)
    have esz : ¬ (#[] : Array UInt8).size > sizeLine := by decide
    have efold : (x.cps.extract 0 x.cps.size).foldl (fun acc y => acc ++ (_codecs.asciiCodec.bytesOf y).toArray) #[] = asBytes x := by
      rw [ex, ← Array.foldl_toList, fold_bytes]; simp [asBytes]
    have elen : (asBytes x).size = x.length := by simp [asBytes, hsz]
    have efind' : Array.findIdx? _codecs.asciiCodec.bad (x.cps.extract 0) = none := by rw [show x.cps.extract 0 = x.cps from ex]; exact efind
    have ex' : x.cps.extract 0 = x.cps := ex
    dsimp only
    rw [if_neg esz, e0]
    dsimp only
    rw [b0, ex', efind]
    simp only [Bool.not_false, if_true, Option.getD_none, pure_bind, Nat.zero_add]
    rw [efold]
    cases n with
    | zero => rw [List.range'_zero, List.forIn_nil]; rfl
    | succ n =>
      rw [List.range'_succ, List.forIn_cons]
      dsimp only
      rw [if_neg (by rw [elen, sizeLine_eq]; lia  )]
      have en : x.cps[x.cps.size]? = none := by simp
      rw [en]
      rfl
theorem encode_ascii {prog : Program} {w : World} {A : Around} {E : Value → Shared → Prop} {s : Shared} {x : Str} {t u : Tok} {Q : Value → Shared → Prop} (h : ∀ c ∈ x.cps.toList, c < 128) (hz : x.length ≤ 16777216) (hq : ∀ t' k, Q (.bytes (asBytes x) t') { s with toks := k }) :
    wpAny (model prog w) A (call (.builtin "str.encode") [.str x t, .str (Str.ofString "ascii") u]) Q E s := by
  refine wpAny_call_entry PySem.F.slot_str_encode (typeIs_str _ _ _) PySem.F.entry_str_encode ?_ (PySem.F.args_str_encode_2 _ _)
  rw [enc_entry, enc_road, enc_narrow _ _ _ h hz]
  refine wpAny_bind (wpAny_bind (wpAny_pure ?_))
  unfold mkBytes
  rw [if_neg (by rw [sizeLine_eq]; simp [asBytes]; have : x.cps.size = x.length := rfl; lia  )]
  refine wpAny_bind (wpAny_fresh (wpAny_pure ?_))
  exact wpAny_pure ⟨_, rfl, hq _ _⟩
theorem toArray_take_succ {b : Array UInt8} {i : Nat} (h : i < b.size) : (b.toList.take (i + 1)) = b.toList.take i ++ [b[i]] := by
  rw [List.take_add_one]; simp [h]
theorem dec_run (id : String) (b : Array UInt8) (h : ∀ c ∈ b.toList, c.toNat < 128) (hz : b.size ≤ 16777216) : _codecs.runDecoder id _codecs.asciiDecoder none true b 0 [] = pure ((ofBytes b).cps, b.size) := by
  unfold _codecs.runDecoder
  dsimp only
  rw [range_forIn]
  have key : ∀ (k i : Nat) (st : _codecs.Faults) (f : Nat → Nat × Array Nat × _codecs.Faults → Sem (ForInStep (Nat × Array Nat × _codecs.Faults))) , i + k = b.size →
      (∀ j i st, i < b.size → f j (i, ((b.toList.take i).map UInt8.toNat).toArray, st) = pure (.yield (i + 1, ((b.toList.take (i + 1)).map UInt8.toNat).toArray, st))) →
      forIn (List.range' i k) (i, ((b.toList.take i).map UInt8.toNat).toArray, st) f = pure (b.size, (b.toList.map UInt8.toNat).toArray, st) := by
    intro k
    induction k with
    | zero =>
      intro i st f hi _
      rw [List.range'_zero, List.forIn_nil]
      have : i = b.size := by lia  
      subst this
      have e : b.toList.take b.size = b.toList := List.take_of_length_le (by simp)
      rw [e]
    | succ k ih =>
      intro i st f hi hf
      rw [List.range'_succ, List.forIn_cons, hf i i st (by lia  )]
      simp only [pure_bind]
      exact ih (i + 1) st f (by lia  ) hf
  have key0 := fun f hf => key b.size 0 {} f (by lia  ) hf
  simp only [List.take_zero, List.map_nil] at key0
  rw [key0]
  · rfl
  · intro j i st hi
    dsimp only
    have hlen : (((b.toList.take i).map UInt8.toNat).toArray).size = i := by simp; lia  
    rw [if_neg (by rw [hlen, sizeLine_eq]; lia  ), if_neg (by lia  )]
    have hget : b.getD i 0 = b[i] := by simp [Array.getD, hi]
    have hm : (b[i]).toNat < 128 := h _ (by simp)
    have e1 : _codecs.asciiDecoder.find true b i = .text [b[i].toNat] (i + 1) := by
      show (if (b.getD i 0).toNat < 128 then _ else _) = _
      rw [hget, if_pos hm]; rfl
    rw [e1]
    dsimp only
    rw [toArray_take_succ hi]
    simp
theorem dec_meets {b : Array UInt8} {t t1 t2 : Tok} {d : Str} (h : ∀ c ∈ b.toList, c.toNat < 128) (hz : b.size ≤ 16777216) :
    Meets («_codecs.decode.text» ⟨[.bytes b t, .str (Str.ofString "ascii") t1, .none, .str d t2], []⟩) (fun _ R s => R (.ok (.ret (.str (ofBytes b) s.toks))) { s with toks := s.toks + 1 }) := by
  refine .of_wp fun prog w A R s hS => ?_
  show wpAny _ _ (Bytes.bytesLike _ (.bytes b t) >>= fun r => _) _ _ s
  refine wpAny_bind (wpAny_of_eq PySem.W.KBd.like_eq ?_)
  refine wpAny_bind (wpAny_of_eq PySem.W.KBd.held_eq ?_)
  show wpAny _ _ (_codecs.decodeRoad _ b (Str.ofString "ascii") none [] >>= fun v => _) _ _ s
  rw [dec_road, dec_run _ _ h hz]
  refine wpAny_bind (wpAny_bind (wpAny_pure ?_))
  refine wpAny_mkStr (wpAny_pure ⟨_, rfl, hS⟩) ?_
  rw [sizeLine_eq]
  show (ofBytes b).cps.size ≤ _
  simp [ofBytes]; lia  
theorem args_dec2 (a b : Value) : argsOk "bytes.decode" ⟨[a, b], []⟩ := by
  unfold argsOk; rw [signature?_of (id := "bytes.decode") (n := ['e', 'd', 'o', 'c', 'e', 'd']) (o := ['s', 'e', 't', 'y', 'b']) (by kernel_rfl) PySem.W.FB.owner_bytes]; kernel_rfl
theorem decode_ascii {prog : Program} {w : World} {A : Around} {E : Value → Shared → Prop} {s : Shared} {b : Array UInt8} {t u : Tok} {Q : Value → Shared → Prop} (h : ∀ c ∈ b.toList, c.toNat < 128) (h0 : b.size ≠ 0) (hz : b.size ≤ 16777216) (hq : ∀ t' k, Q (.str (ofBytes b) t') { s with toks := k }) :
    wpAny (model prog w) A (call (.builtin "bytes.decode") [.bytes b t, .str (Str.ofString "ascii") u]) Q E s := by
  obtain ⟨l⟩ := b
  cases l with
  | nil => exact absurd rfl h0
  | cons c cs =>
    refine wpAny_call_entry PySem.W.FB.slot_bytes_decode rfl PySem.W.FB.entry_bytes_decode ?_ (args_dec2 _ _)
    rw [dec_entry]
    refine wpAny_bind (wpAny_mkStr ?_ (by decide))
    refine wpAny_bind (wpAny_mkStr ?_ (by decide))
    refine wpAny_bind (wpAny_mkStr ?_ (by decide))
    exact wpAny_bind (call_function_meets PySem.W.KBd.kind_text PySem.W.KBd.plain_text PySem.W.KBd.entry_text (PySem.W.KBd.args_text _ _ _ _) (dec_meets h hz) (wpAny_pure ⟨_, rfl, hq _ _⟩))
end Mine
end P12
section P13
set_option maxRecDepth 100000
set_option Elab.async false
set_option autoImplicit false
set_option linter.unusedSimpArgs false
set_option linter.unusedVariables false
namespace Mine
open PySem
noncomputable def subCode : Array Nat := #[14, 4, 0, 1, 1, 6, 1, 16, 46, 1]
namespace SR
open PySem.Sre PySem.Sre.M
noncomputable def fr (s : Nat) (first : Bool) : PySem.Sre.Frame := { wait := .nextStart, pc := 5, pos := s, outermost := first }
/-- a try at s -/
noncomputable def att (text : Array Nat) (s : Nat) (must first : Bool) (out : Bool) (handed : Nat) (seen : PySem.Sre.Seen) (pc : Nat) (pos : Nat) (ans : Option Bool) : M :=
  { code := subCode, text := text, lim := text.size, start := s, lastStart := text.size, wholeText := false, mustAdvance := must, pc := pc, pos := pos, handed := handed, outermost := out, marks := #[], lastmark := -1, lastindex := -1, loops := #[], inner := none,
    frames := [fr s first], weight := 1, answer := ans, seen := seen, outcome := none }
variable {text : Array Nat} {s handed : Nat} {must first out : Bool} {seen : PySem.Sre.Seen}
noncomputable def isDot (text : Array Nat) (p : Nat) : Bool := text.getD p 0 == 46 && (p == 0 || text.getD (p - 1) 0 == 10)
theorem step_at : step (att text s must first out handed seen 5 s none) = if (s == 0 || text.getD (s - 1) 0 == 10) = true then att text s must first out handed ((seen.add 6).add 44) 7 s none else att text s must first out handed ((seen.add 6).add 44) 5 s (some false) := rfl
theorem step_lit_end (h : s ≥ text.size) : step (att text s must first out handed seen 7 s none) = att text s must first out handed (seen.add 16) 7 s (some false) := by
  show (if s ≥ text.size then _ else _) = _
  rw [if_pos h]; rfl
theorem step_lit (h : ¬ s ≥ text.size) : step (att text s must first out handed seen 7 s none) = if (text.getD s 0 == 46) = true then att text s must first out handed (seen.add 16) 9 (s + 1) none else att text s must first out handed (seen.add 16) 7 s (some false) := by
  show (if s ≥ text.size then _ else _) = _
  rw [if_neg h]
  show (match (Except.ok (text.getD s 0 == 46, seen.add 16) : Except String (Bool × PySem.Sre.Seen)) with | .error why => _ | .ok (false, seen) => _ | .ok (true, seen) => _) = _
  cases (text.getD s 0 == 46) <;> rfl
theorem step_succ : step (att text s must first out handed seen 9 (s + 1) none) = att text s must first out (s + 1) (seen.add 1) 9 (s + 1) (some true) := by
  show (if (out && ((false && (s + 1) != text.size) || (must && (s + 1) == s))) = true then _ else _) = _
  rw [if_neg (by simp)]; rfl
theorem step_yes {pc pos : Nat} : (step (step (att text s must first out handed seen pc pos (some true)))).outcome = some .matched ∧ (step (step (att text s must first out handed seen pc pos (some true)))).start = s ∧ (step (step (att text s must first out handed seen pc pos (some true)))).handed = handed := ⟨rfl, rfl, rfl⟩
theorem step_no_more {pc pos : Nat} (h : s < text.size) : step (att text s must first out handed seen pc pos (some false)) = att text (s + 1) false false false (s + 1) seen 5 (s + 1) none := by
  show (if s < text.size then _ else _) = _
  rw [if_pos h]; rfl
theorem runFor_done {m : M} (h : m.outcome.isSome = true) : ∀ k, runFor k m = m
  | 0 => rfl
  | k + 1 => by unfold runFor; rw [if_pos h]
theorem runFor_step {m : M} (h : m.outcome.isSome = false) (k : Nat) : runFor (k + 1) m = runFor k m.step := by
  rw [runFor]; rw [if_neg (by rw [h]; decide)]
theorem runFor_add (a b : Nat) : ∀ m : M, runFor (a + b) m = runFor b (runFor a m) := by
  induction a with
  | zero => intro m; rw [Nat.zero_add]; rfl
  | succ a ih =>
    intro m
    cases h : m.outcome.isSome with
    | true => rw [runFor_done h, runFor_done h (a + 1), runFor_done h]
    | false => rw [Nat.add_right_comm, runFor_step h, runFor_step h, ih]
/-- the next dot at a line's start -/
noncomputable def next (text : Array Nat) : Nat → Nat → Option Nat
  | 0, _ => none
  | k + 1, p => if isDot text p then some p else next text k (p + 1)
noncomputable def Ends (text : Array Nat) (m : M) (k : Nat) (r : Option Nat) : Prop := ∃ j, j ≤ k ∧ match r with
  | some p => (runFor j m).outcome = some .matched ∧ (runFor j m).start = p ∧ (runFor j m).handed = p + 1
  | none => (runFor j m).outcome = some .failed
theorem Ends.step {m : M} {k : Nat} {r : Option Nat} (h : m.outcome.isSome = false) (e : Ends text m.step k r) : Ends text m (k + 1) r := by
  obtain ⟨j, hj, x⟩ := e
  refine ⟨j + 1, by lia  , ?_⟩
  rw [runFor_step h]; exact x
theorem Ends.le {m : M} {k k' : Nat} {r : Option Nat} (e : Ends text m k r) (h : k ≤ k') : Ends text m k' r := by
  obtain ⟨j, hj, x⟩ := e
  exact ⟨j, by lia  , x⟩
theorem no_end {pc pos : Nat} (h : ¬ s < text.size) : Ends text (att text s must first out handed seen pc pos (some false)) 2 none := by
  refine Ends.step rfl ?_
  have e : step (att text s must first out handed seen pc pos (some false)) = _ := show (if s < text.size then _ else _) = _ from by rw [if_neg h]
  rw [e]
  refine Ends.step rfl ?_
  exact ⟨0, Nat.le_refl _, rfl⟩
theorem runs : ∀ (n s : Nat) (must first out : Bool) (handed : Nat) (seen : PySem.Sre.Seen), s + n = text.size → Ends text (att text s must first out handed seen 5 s none) (3 * n + 5) (next text n s)
  | 0, s, must, first, out, handed, seen, hs => by
    have hn : ¬ s < text.size := by lia  
    unfold next
    refine Ends.le (k := 1 + (1 + 2)) ?_ (by lia  )
    rw [Nat.add_comm 1]
    refine Ends.step rfl ?_
    rw [step_at]
    split
    · rw [Nat.add_comm 1]
      refine Ends.step rfl ?_
      rw [step_lit_end (by lia  )]
      exact no_end hn
    · exact (no_end hn).le (by lia  )
  | n + 1, s, must, first, out, handed, seen, hs => by
    have hn : s < text.size := by lia  
    unfold next
    have no : ∀ (o : Bool) (hd : Nat) (sn : PySem.Sre.Seen) (pc pos : Nat), Ends text (att text s must first o hd sn pc pos (some false)) (3 * n + 5 + 1) (next text n (s + 1)) := fun o hd sn pc pos => by
      refine Ends.step rfl ?_
      rw [step_no_more hn]
      exact runs n (s + 1) _ _ _ _ _ (by lia  )
    have e5 : 3 * (n + 1) + 5 = (3 * n + 5 + 1 + 1) + 1 := by lia  
    rw [e5]
    refine Ends.step rfl ?_
    rw [step_at]
    by_cases h1 : (s == 0 || text.getD (s - 1) 0 == 10) = true
    · rw [if_pos h1]
      refine Ends.step rfl ?_
      rw [step_lit (by lia  )]
      by_cases h2 : (text.getD s 0 == 46) = true
      · rw [if_pos h2, if_pos (by unfold isDot; rw [h1, h2]; rfl)]
        refine Ends.le (k := 2 + 1) ?_ (by lia  )
        refine Ends.step rfl ?_
        rw [step_succ]
        exact ⟨2, Nat.le_refl _, step_yes⟩
      · rw [if_neg h2, if_neg (by unfold isDot; rw [Bool.and_eq_true]; exact fun h => h2 h.1)]
        exact no _ _ _ _ _
    · rw [if_neg h1, if_neg (by unfold isDot; rw [Bool.and_eq_true]; exact fun h => h1 h.2)]
      exact (no _ _ _ _ _).le (by lia  )
theorem search_end {must : Bool} : (runFor 1 (forSearch subCode text 0 text.size text.size must)).outcome = some .failed := by
  have e : forSearch subCode text 0 text.size text.size must = if (decide (text.size > text.size) || decide (text.size - text.size < 1)) = true then (_ : M) else _ := rfl
  rw [e, if_pos (by simp)]
  rfl
theorem search_at {must : Bool} (h : s < text.size) : forSearch subCode text 0 s text.size must = att text s must true true s (({} : PySem.Sre.Seen).add 14) 5 s none := by
  have e : forSearch subCode text 0 s text.size must = if (decide (s > text.size) || decide (text.size - s < 1)) = true then (_ : M) else _ := rfl
  rw [e, if_neg (by simp; lia  )]
  rfl
theorem search {must : Bool} (hs : s ≤ text.size) : Ends text (forSearch subCode text 0 s text.size must) (3 * text.size + 5) (next text (text.size - s) s) := by
  by_cases h0 : s = text.size
  · subst h0
    rw [Nat.sub_self]
    exact ⟨1, by lia  , search_end⟩
  · rw [search_at (by lia  )]
    exact (runs (text.size - s) s _ _ _ _ _ (by lia  )).le (by lia  )
theorem drive {A : Around} {M : Model} {Q : PySem.Sre.M → Shared → Prop} {E : Value → Shared → Prop} : ∀ (n k : Nat) (m : PySem.Sre.M) (s : Shared), (runFor k m).outcome.isSome = true → k ≤ 4 * n → 0 < n → Q (runFor k m) s → wpAny M A (PySem.Builtin.Re.reDrive n m) Q E s
  | 0, _, _, _, _, _, h, _ => absurd h (Nat.lt_irrefl _)
  | n + 1, k, m, s, ho, hk, _, hq => by
    unfold PySem.Builtin.Re.reDrive
    dsimp only
    by_cases h4 : k ≤ 4
    · have e : runFor PySem.Builtin.Re.reTurnSteps m = runFor k m := by
        show runFor 4 m = _
        rw [show 4 = k + (4 - k) by lia  , runFor_add, runFor_done ho]
      rw [e, if_pos ho]
      exact wpAny_pure hq
    · have e : runFor k m = runFor (k - 4) (runFor 4 m) := by rw [← runFor_add]; congr 1; lia  
      show wpAny M A (if (runFor 4 m).outcome.isSome = true then pure (runFor 4 m) else _) Q E s
      by_cases hs : (runFor 4 m).outcome.isSome = true
      · rw [if_pos hs]
        rw [e, runFor_done hs] at hq
        exact wpAny_pure hq
      · rw [if_neg hs]
        refine wpAny_bind (wpAny_rule ?_)
        exact drive n (k - 4) (runFor 4 m) s (e ▸ ho) (by lia  ) (by lia  ) (e ▸ hq)
end SR
end Mine
end P13
section P14
set_option maxRecDepth 100000
set_option Elab.async false
set_option autoImplicit false
set_option linter.unusedSimpArgs false
set_option linter.unusedVariables false
namespace Mine
open PySem PyProof.Rows PySem.Builtin
namespace FF
theorem slot_bjoin : Slot "bytes" "join" "bytes.join" :=
  .of (owner := "bytes") (n := "join") (by rw [typeLookup_type, builtinLookup_eq_fast]; kernel_rfl) (by decide +kernel) (by decide +kernel) (by decide +kernel)
    (by first | exact .inl (by decide +kernel) | exact .inr (by decide +kernel)) (by rw [isSubtype_type]; kernel_rfl)
theorem entry_bjoin : entryFor table "bytes.join" = some Builtin.«bytes.join» := entryFor_of_tree (by kernel_rfl)
theorem args_bjoin (a b : Value) : argsOk "bytes.join" ⟨[a, b], []⟩ := by
  unfold argsOk; rw [signature?_of (id := "bytes.join") (n := ['n', 'i', 'o', 'j']) (o := ['s', 'e', 't', 'y', 'b']) (by kernel_rfl) PySem.W.FB.owner_bytes]; kernel_rfl
theorem take_eq {id : String} {b : Array UInt8} {t : Tok} : Bytes.takeBufferQuiet? id (.bytes b t) 0 = pure (some (b, none)) := by
  have e : Bytes.takeBuffer? id (.bytes b t) 0 = pure (some (b, none)) := by
    unfold Bytes.takeBuffer?
    rw [PySem.W.KBy.special_eq PySem.W.KBy.look_buffer, PySem.W.KBy.own_buffer]
    have : Bytes.buffer? id (.bytes b t) ((0 : Int) == Bytes.fullReadOnly) = pure (some b) := PySem.W.KBy.buffer_eq
    simp only [pure_bind, this]
    rfl
  unfold Bytes.takeBufferQuiet?
  rw [e]; rfl
end FF
section
variable {prog : Program} {w : World} {A : Around} {E : Value → Shared → Prop}
theorem joinGo_wp {s : Shared} {Q : Unit → Shared → Prop} (h : Q () s) : ∀ (l : List (Value × Option Value)) (keep : List Value), (∀ p ∈ l, p.2 = none) → wpAny (model prog w) A (Bytes.joinLetGo l keep) Q E s
  | [], _, _ => wpAny_pure h
  | (x, o) :: r, keep, hl => by
    have ho : o = none := hl (x, o) (List.mem_cons_self ..)
    subst ho
    unfold Bytes.joinLetGo
    dsimp only
    first
      | exact wpAny_bind (wpAny_letGo (joinGo_wp h r keep fun p hp => hl p (List.mem_cons_of_mem _ hp)))
      | exact wpAny_bind (wpAny_pure (wpAny_bind (wpAny_letGo (joinGo_wp h r keep fun p hp => hl p (List.mem_cons_of_mem _ hp)))))
/-- values that are bytes -/
inductive BytesAre : List Value → List (Array UInt8) → Prop
  | nil : BytesAre [] []
  | cons (b : Array UInt8) (t : Tok) {vs bs} : BytesAre vs bs → BytesAre (.bytes b t :: vs) (b :: bs)
theorem BytesAre.length {vs : List Value} {bs : List (Array UInt8)} (h : BytesAre vs bs) : vs.length = bs.length := by
  induction h with
  | nil => rfl
  | cons _ _ _ ih => rw [List.length_cons, List.length_cons, ih]
theorem BytesAre.get {vs : List Value} {bs : List (Array UInt8)} (h : BytesAre vs bs) : ∀ i, i < vs.length → ∃ b t, vs[i]? = some (.bytes b t) ∧ bs[i]? = some b := by
  induction h with
  | nil => exact fun i hi => absurd hi (Nat.not_lt_zero _)
  | cons b t h ih =>
    intro i hi
    cases i with
    | zero => exact ⟨b, t, rfl, rfl⟩
    | succ i => exact ih i (Nat.lt_of_succ_lt_succ hi)
theorem BytesAre.app {vs : List Value} {bs : List (Array UInt8)} (b : Array UInt8) (t : Tok) (h : BytesAre vs bs) : BytesAre (vs ++ [.bytes b t]) (bs ++ [b]) := by
  induction h with
  | nil => exact .cons b t .nil
  | cons b' t' h ih => exact .cons b' t' ih
theorem joined_eq : ∀ (l : List (Array UInt8)) (k : Nat) (acc : Array UInt8), ((l.zipIdx k).foldl (fun out (p, i) => (if i > 0 then out ++ (#[] : Array UInt8) else out) ++ p) acc).toList = acc.toList ++ l.flatMap Array.toList
  | [], _, acc => by simp
  | b :: r, k, acc => by
    rw [List.zipIdx_cons, List.foldl_cons, joined_eq r]
    dsimp only
    split <;> simp
theorem foldl_sizes : ∀ (l : List (Array UInt8)) (a : Nat), l.foldl (fun x y => x + y.size) a = a + (l.map Array.size).sum
  | [], a => by simp
  | b :: r, a => by rw [List.foldl_cons, foldl_sizes r]; simp; lia  
theorem bjoin_wp {s : Shared} {D : Addr} {vs : List Value} {bs : List (Array UInt8)} {n : Nat} {tk : Tok} {Q : Value → Shared → Prop} (hD : s.heap.get? D = some (listObj vs n)) (hb : BytesAre vs bs) (hne : vs ≠ [])
    (hz : (bs.map Array.size).sum ≤ 16777216) (hq : ∀ t' k, Q (.bytes (bs.flatMap Array.toList).toArray t') { s with toks := k }) : wpAny (model prog w) A (call (.builtin "bytes.join") [.bytes #[] tk, .ref D]) Q E s := by
  refine wpAny_call_entry FF.slot_bjoin rfl FF.entry_bjoin ?_ (FF.args_bjoin _ _)
  have hT : s.TypeIs (.ref D) "list" := ⟨_, hD, rfl⟩
  unfold Builtin.«bytes.join» Bytes.joinM
  dsimp only
  refine wpAny_bind (wpAny_of_eq (a := (Value.bytes #[] tk, Value.ref D)) rfl ?_)
  dsimp only
  rw [if_pos (by decide)]
  refine wpAny_bind ?_
  unfold Bytes.joinItems
  refine wpAny_bind (wpAny_typeOf hT ?_)
  rw [if_pos (by decide)]
  refine wpAny_pure ?_
  refine wpAny_bind (wpAny_seqItems hD rfl ?_)
  dsimp only
  rw [if_pos (by decide)]
  by_cases h1 : ∃ x, vs = [x]
  · obtain ⟨x, rfl⟩ := h1
    cases hb with
    | cons b t hb => cases hb with
      | nil =>
        show wpAny (model prog w) A.in1 (typeOf (.bytes b t) >>= _) _ E s
        refine wpAny_bind (wpAny_typeOf (T := "bytes") rfl ?_)
        rw [if_pos (by decide)]
        refine wpAny_bind (wpAny_rule ?_)
        have := hq t s.toks
        simp only [List.flatMap_cons, List.flatMap_nil, List.append_nil] at this
        exact wpAny_pure ⟨_, rfl, this⟩
  · have hmul : ∃ x y r, vs = x :: y :: r := by
      rcases vs with _ | ⟨x, _ | ⟨y, r⟩⟩
      · exact absurd rfl hne
      · exact absurd ⟨x, rfl⟩ h1
      · exact ⟨x, y, r, rfl⟩
    obtain ⟨x, y, r, rfl⟩ := hmul
    show wpAny (model prog w) A.in1 ((forIn [0 : (x :: y :: r).toArray.size] _ _) >>= _) _ E s
    rw [range_forIn]
    generalize x :: y :: r = vs at *
    have hlen : vs.toArray.size = vs.length := by simp
    have hbl := hb.length
    refine wpAny_bind ?_
    refine wpAny_forIn_list _ (fun rest (c : Array (Array UInt8) × List (Value × Option Value)) s' => ∃ i, i ≤ vs.length ∧ rest = List.range' i (vs.length - i) ∧ c.1 = (bs.take i).toArray ∧ c.2 = (vs.take i).map (fun v => (v, none)) ∧ s' = s) _ ?_ ?_ _ _ ⟨0, Nat.zero_le _, by rw [hlen]; rfl, by simp, by simp, rfl⟩
    · rintro j rest ⟨parts, taken⟩ s' ⟨i, hi, hr, hp, ht, rfl⟩
      dsimp only at hp ht
      subst hp ht
      have hi' : i < vs.length := by
        by_cases h : i < vs.length
        · exact h
        · rw [show vs.length - i = 0 by lia  ] at hr; cases hr
      rw [show vs.length - i = (vs.length - (i + 1)) + 1 by lia  , List.range'_succ] at hr
      injection hr with h1 h2
      subst h1 h2
      obtain ⟨b, t, e1, e2⟩ := hb.get j hi'
      refine wpAny_bind (wpAny_seqItems hD rfl ?_)
      dsimp only
      have hg : vs.toArray.getD j Value.none = .bytes b t := by simp [Array.getD, hi']; exact (List.getElem?_eq_some_iff.mp e1).2
      rw [hg]
      have hany : (List.map (fun v => (v, (none : Option Value))) (List.take j vs)).any (fun x => x.1.onHeap) = false := by
        rw [List.any_eq_false]
        intro p hp
        obtain ⟨v, hv, rfl⟩ := List.mem_map.mp hp
        obtain ⟨k, hk, hkv⟩ := List.getElem_of_mem hv
        rw [List.getElem_take] at hkv
        obtain ⟨b', t', e', _⟩ := hb.get k (by rw [List.length_take] at hk; lia  )
        have : vs[k]? = some v := by rw [List.getElem?_eq_some_iff]; exact ⟨by rw [List.length_take] at hk; lia  , hkv⟩
        rw [e'] at this
        cases this
        exact Bool.false_ne_true
      rw [hany, if_neg (by decide)]
      refine wpAny_bind (wpAny_holding (wpAny_of_eq FF.take_eq ?_))
      dsimp only
      refine wpAny_bind (wpAny_seqItems hD rfl ?_)
      dsimp only
      rw [if_neg (by simp)]
      refine wpAny_pure ⟨j + 1, hi', rfl, ?_, ?_, rfl⟩
      · rw [List.take_add_one, e2]; simp
      · rw [List.take_add_one, e1]; simp
    · rintro ⟨parts, taken⟩ s' ⟨i, hi, hr, hp, ht, rfl⟩
      dsimp only at hp ht
      subst hp ht
      have hi' : i = vs.length := by
        cases h : vs.length - i with
        | zero => lia  
        | succ k => rw [h, List.range'_succ] at hr; cases hr
      subst hi'
      dsimp only
      rw [List.take_of_length_le (Nat.le_of_eq hbl.symm), List.take_of_length_le (Nat.le_refl _)]
      refine wpAny_bind (wpAny_of_eq (a := #[]) rfl ?_)
      have hsz : bs.toArray.foldl (fun x y => x + y.size) ((#[] : Array UInt8).size * (bs.toArray.size - 1)) = (bs.map Array.size).sum := by
        rw [← Array.foldl_toList]
        simp only [List.toList_toArray]
        rw [foldl_sizes]; simp
      rw [hsz, if_neg (by rw [PySem.W.KBy.tooLong_not hz]; exact Bool.false_ne_true)]
      have hj : Bytes.joined #[] bs.toArray.toList = (bs.flatMap Array.toList).toArray := by
        apply Array.ext'
        show (Bytes.joined #[] bs).toList = _
        unfold Bytes.joined
        rw [joined_eq]; simp
      rw [hj]
      show wpAny _ _ (mkBytes _ >>= _) _ _ _
      refine wpAny_bind (wpAny_mkBytes ?_ ?_)
      · refine wpAny_bind (wpAny_holding (wpAny_point ?_))
        refine wpAny_bind (joinGo_wp ?_ _ _ fun p hp => by obtain ⟨v, _, rfl⟩ := List.mem_map.mp hp; rfl)
        exact wpAny_pure ⟨_, rfl, hq _ _⟩
      · rw [sizeLine_eq]
        have : ((bs.flatMap Array.toList).toArray).size = (bs.map Array.size).sum := by
          rw [List.size_toArray, List.length_flatMap]
          congr 1
        lia  
end
end Mine
end P14
section P15
set_option maxRecDepth 100000
set_option Elab.async false
set_option autoImplicit false
set_option linter.unusedSimpArgs false
set_option linter.unusedVariables false
namespace Mine
open PySem PyProof.Rows PySem.Builtin PySem.Builtin.Re
/-- what stands at place j, a dot at a line's start twice -/
noncomputable def outAt (b : List UInt8) (j : Nat) : List UInt8 := if (b.getD j 0 == 46 && (j == 0 || b.getD (j - 1) 0 == 10)) = true then [46, 46] else [b.getD j 0]
noncomputable def stuffTo (b : List UInt8) (n : Nat) : List UInt8 := (List.range n).flatMap (outAt b)
noncomputable def stuffB (b : Array UInt8) : Array UInt8 := (stuffTo b.toList b.size).toArray
theorem stuffTo_succ (b : List UInt8) (n : Nat) : stuffTo b (n + 1) = stuffTo b n ++ outAt b n := by
  unfold stuffTo; rw [List.range_succ, List.flatMap_append]; simp
noncomputable def patFields (aC : Addr) (v0 v1 : Value) : Array Value := #[v0, v1, .int 0 0, .none, .none, .ref aC, .int 1 0]
structure PatAt (h : Heap) (aP aC : Addr) : Prop where
  p : ∃ o v0 v1, h.get? aP = some o ∧ o.cls = .type "re.Pattern" ∧ o.data = .fields (patFields aC v0 v1) ∧ o.dict = none
  c : ∃ o n, h.get? aC = some o ∧ o.data = .seq (#[14, 4, 0, 1, 1, 6, 1, 16, 46, 1].map rawInt) n
theorem PatAt.keep {h h' : Heap} {aP aC : Addr} (x : PatAt h aP aC) (k : ∀ b o, h.get? b = some o → h'.get? b = some o) : PatAt h' aP aC := by
  obtain ⟨⟨o, v0, v1, h1, h2⟩, o', n, h3, h4⟩ := x
  exact ⟨⟨o, v0, v1, k _ _ h1, h2⟩, o', n, k _ _ h3, h4⟩
section
variable {prog : Program} {w : World} {A : Around} {E : Value → Shared → Prop}
noncomputable def natsOf (b : Array UInt8) : Array Nat := b.map UInt8.toNat
noncomputable def tgt (aP : Addr) (b : Array UInt8) (tk : Tok) : ReTarget := { pattern := .ref aP, string := .bytes b tk, code := subCode, text := natsOf b, kind := 1, groups := 0, pos := 0, lim := (natsOf b).size }
theorem target_wp {s : Shared} {aP aC : Addr} {b : Array UInt8} {tk : Tok} {Q : ReTarget → Shared → Prop} (hP : PatAt s.heap aP aC) (hq : Q (tgt aP b tk) s) : wpAny (model prog w) A (reWholeTarget (.ref aP) (.bytes b tk)) Q E s := by
  obtain ⟨⟨o, v0, v1, ho, hc, hd, _⟩, o', n, hC, hCd⟩ := hP
  unfold reWholeTarget fieldsOf
  dsimp only
  refine wpAny_bind ?_
  refine wpAny_bind (wpAny_load ho ?_)
  rw [hd]
  refine wpAny_pure ?_
  refine wpAny_bind (wpAny_of_eq (a := (natsOf b, (1 : Nat))) ?_ ?_)
  · unfold reTextOf
    show (Bytes.bufferQuiet? "_sre" (.bytes b tk) >>= _) = _
    rw [PySem.W.KBy.quiet_eq]; rfl
  show wpAny (model prog w) A (reNoCollectionInside (.bytes b tk) 1 >>= fun _ => (reRawItems (.ref aC) >>= fun r => pure { pattern := .ref aP, string := .bytes b tk, code := r.map (·.toNat), text := natsOf b, kind := 1, groups := 0, pos := 0, lim := (natsOf b).size })) Q E s
  refine wpAny_bind ?_
  unfold reNoCollectionInside
  rw [if_pos (by decide), PySem.W.KBy.isInstance_eq]
  refine wpAny_bind (wpAny_pure ?_)
  rw [if_neg (by decide)]
  refine wpAny_pure ?_
  unfold reRawItems
  show wpAny _ _ ((seqItems? (.ref aC) >>= _) >>= _) _ _ _
  refine wpAny_bind (wpAny_bind (wpAny_seqItems hC hCd (wpAny_pure ?_)))
  have e : (Array.map (fun x => x.toNat) (Array.map reRawOf ((some (Array.map rawInt #[14, 4, 0, 1, 1, 6, 1, 16, 46, 1])).getD #[]))) = subCode := by decide +kernel
  rw [e]
  exact wpAny_pure hq
theorem p64 {k : Nat} (h : k ≤ 18446744073709551616) : k ≤ 4 * 2 ^ 64 := Nat.le_trans h (by decide)
theorem found_wp {s : Shared} {t : ReTarget} {st : Nat} {must : Bool} {Q : Option Sre.M → Shared → Prop} (hc : t.code = subCode) (hg : t.groups = 0) (hl : t.lim = t.text.size) (hz : t.text.size ≤ 16777216) (hs : st ≤ t.text.size)
    (hq : match SR.next t.text (t.text.size - st) st with | some p => ∀ m : Sre.M, m.start = p → m.handed = p + 1 → Q (some m) s | none => Q none s) : wpAny (model prog w) A (reNextFound t st must) Q E s := by
  unfold reNextFound reRunToEnd
  rw [hc, hg, hl]
  obtain ⟨k, hk, he⟩ := SR.search (text := t.text) (must := must) hs
  have rules : ∀ (l : List Nat) (m : Sre.M) (K : Unit → Shared → Prop), K () s → wpAny (model prog w) A (forIn l () fun i _ => (if m.seen.has i = true then (do rule (Sre.names.getD i ""); pure (ForInStep.yield PUnit.unit)) else pure (ForInStep.yield PUnit.unit))) K E s := by
    intro l m K hK
    induction l with
    | nil => rw [List.forIn_nil]; exact wpAny_pure hK
    | cons i l ih =>
      rw [List.forIn_cons]
      refine wpAny_bind ?_
      by_cases h : m.seen.has i = true
      · rw [if_pos h]
        exact wpAny_bind (wpAny_rule (wpAny_pure ih))
      · rw [if_neg h]
        exact wpAny_pure ih
  cases hn : SR.next t.text (t.text.size - st) st with
  | some p =>
    rw [hn] at hq he
    obtain ⟨e1, e2, e3⟩ := he
    refine wpAny_bind (SR.drive (2 ^ 64) k _ s (by rw [e1]; rfl) (p64 (by lia  )) (by decide) ?_)
    refine wpAny_bind (rules _ _ _ ?_)
    rw [e1]
    exact wpAny_pure (hq _ e2 e3)
  | none =>
    rw [hn] at hq he
    refine wpAny_bind (SR.drive (2 ^ 64) k _ s (by rw [he]; rfl) (p64 (by lia  )) (by decide) ?_)
    refine wpAny_bind (rules _ _ _ ?_)
    rw [he]
    exact wpAny_pure hq
theorem nats_getD (b : Array UInt8) (p : Nat) : (natsOf b).getD p 0 = (b.toList.getD p 0).toNat := by
  unfold natsOf
  by_cases h : p < b.size
  · simp [Array.getD, h, List.getD_eq_getElem?_getD]
  · simp [Array.getD, h, List.getD_eq_getElem?_getD]
theorem isDot_out (b : Array UInt8) (p : Nat) : outAt b.toList p = if SR.isDot (natsOf b) p = true then [46, 46] else [b.toList.getD p 0] := by
  have key : ∀ (x y : UInt8), (x == y) = (x.toNat == y.toNat) := fun x y => by
    rw [Bool.eq_iff_iff, beq_iff_eq, beq_iff_eq]
    exact ⟨fun h => by rw [h], fun h => UInt8.toNat_inj.mp h⟩
  unfold outAt SR.isDot
  rw [nats_getD, nats_getD, key, key]
  rfl
theorem next_some {text : Array Nat} : ∀ (k st p : Nat), SR.next text k st = some p → st ≤ p ∧ p < st + k ∧ SR.isDot text p = true ∧ ∀ j, st ≤ j → j < p → SR.isDot text j = false
  | k + 1, st, p, h => by
    unfold SR.next at h
    by_cases hd : SR.isDot text st = true
    · rw [if_pos hd] at h
      cases h
      exact ⟨Nat.le_refl _, by lia  , hd, fun j h1 h2 => absurd h1 (by lia  )⟩
    · rw [if_neg hd] at h
      obtain ⟨h1, h2, h3, h4⟩ := next_some k (st + 1) p h
      refine ⟨by lia  , by lia  , h3, fun j g1 g2 => ?_⟩
      by_cases hj : j = st
      · subst hj; simpa using hd
      · exact h4 j (by lia  ) g2
theorem next_none {text : Array Nat} : ∀ (k st : Nat), SR.next text k st = none → ∀ j, st ≤ j → j < st + k → SR.isDot text j = false
  | 0, st, _, j, h1, h2 => absurd h1 (by lia  )
  | k + 1, st, h, j, h1, h2 => by
    unfold SR.next at h
    by_cases hd : SR.isDot text st = true
    · rw [if_pos hd] at h; cases h
    · rw [if_neg hd] at h
      by_cases hj : j = st
      · subst hj; simpa using hd
      · exact next_none k (st + 1) h j (by lia  ) (by lia  )
theorem stuff_plain (b : Array UInt8) (d : Nat) : ∀ k, d + k ≤ b.size → (∀ j, d ≤ j → j < d + k → SR.isDot (natsOf b) j = false) → stuffTo b.toList (d + k) = stuffTo b.toList d ++ (b.toList.drop d).take k
  | 0, _, _ => by simp
  | k + 1, hk, h => by
    rw [← Nat.add_assoc, stuffTo_succ, stuff_plain b d k (by lia  ) (fun j h1 h2 => h j h1 (by lia  )), isDot_out, h (d + k) (by lia  ) (by lia  )]
    rw [if_neg (by decide), List.append_assoc, List.take_add_one]
    congr 1
    congr 1
    have hlt : d + k < b.toList.length := by simp; lia  
    rw [List.getElem?_drop, List.getElem?_eq_getElem hlt, List.getD_eq_getElem?_getD, List.getElem?_eq_getElem hlt]
    rfl
theorem slice_eq (b : Array UInt8) (d p : Nat) (h : p ≤ b.size) : ((natsOf b).extract d p).map (fun x => x.toUInt8) = ((b.toList.drop d).take (p - d)).toArray := by
  apply Array.ext'
  unfold natsOf
  simp only [Array.toList_map, Array.toList_extract, List.extract_eq_take_drop, List.map_take, List.map_drop, List.map_map]
  have : (fun x => Nat.toUInt8 x) ∘ UInt8.toNat = fun x => x := by
    funext x; simp
  rw [this, List.map_id']
theorem stuffTo_len (b : List UInt8) : ∀ n, (stuffTo b n).length ≤ 2 * n
  | 0 => by simp [stuffTo]
  | n + 1 => by
    rw [stuffTo_succ, List.length_append]
    have := stuffTo_len b n
    have h2 : (outAt b n).length ≤ 2 := by unfold outAt; split <;> simp
    lia  
theorem sizes_flat : ∀ (bs : List (Array UInt8)), (bs.map Array.size).sum = (bs.flatMap Array.toList).length
  | [] => rfl
  | b :: r => by
    rw [List.map_cons, List.sum_cons, List.flatMap_cons, List.length_append, sizes_flat r]
    simp
theorem lit_eq {c : Array UInt8} {t : Tok} : reLiteralCannotBeTurned (.bytes c t) = pure () := by
  unfold reLiteralCannotBeTurned
  rw [show asStr? (.bytes c t) = pure none from rfl, PySem.W.KBy.isInstance_eq]
  rfl
theorem entry_loop : entryFor table "re.Pattern.sub.loop" = some Builtin.«re.Pattern.sub.loop» := entryFor_of_tree (by kernel_rfl)
theorem plain_loop : plainId "re.Pattern.sub.loop" = true := by decide +kernel
noncomputable def loopArgs (aP : Addr) (b : Array UInt8) (tk tr : Tok) (n d : Int) (must : Bool) (D : Addr) : Args := ⟨[.ref aP, .bytes b tk, .bytes #[46, 46] tr, rawInt 0, rawInt 0, rawInt n, rawInt d, rawInt d, .bool must, .ref D, .bool false], []⟩
theorem push_list {h : Heap} {D : Addr} {vs : List Value} {k : Nat} {v : Value} (hD : h.get? D = some (listObj vs k)) : (h.update D (Obj.mapSeq (·.push v))).get? D = some (listObj (vs ++ [v]) (k + 1)) := by
  rw [Heap.get?_update_self _ hD (by rw [listObj, Obj.mapSeq_push_plain]; rfl), listObj, Obj.mapSeq_push_plain]
  simp [listObj]
theorem loop_wp {aP aC D : Addr} {b : Array UInt8} {tk tr : Tok} {s0 : Shared} {R : Result → Shared → Prop} (hP : PatAt s0.heap aP aC) (hDn : s0.heap.get? D = none) (hz : b.size ≤ 4000000)
    (hq : ∀ h' t' k, (∀ a o, s0.heap.get? a = some o → h'.get? a = some o) → R (.ok (.ret (.bytes (stuffB b) t'))) { s0 with heap := h', toks := k }) :
    ∀ (fuel d : Nat) (n : Int) (must : Bool) (vs : List Value) (bs : List (Array UInt8)) (k : Nat) (h : Heap) (tt : Nat), fuel + d = b.size → (∀ a o, s0.heap.get? a = some o → h.get? a = some o) → h.get? D = some (listObj vs k) → BytesAre vs bs → bs.flatMap Array.toList = stuffTo b.toList d → vs.length ≤ 2 * d →
      codeAny (model prog w) A (.builtin "re.Pattern.sub.loop" (loopArgs aP b tk tr n d must D)) R { s0 with heap := h, toks := tt } := by
  intro fuel
  induction fuel using Nat.strongRecOn with
  | _ fuel ih =>
    intro d n must vs bs k h tt hf hk hD hb hs hv
    have hsz : (natsOf b).size = b.size := by simp [natsOf]
    have hPh := hP.keep hk
    refine codeAny_builtin entry_loop ?_
    rw [Around.under_plainId plain_loop _]
    unfold Builtin.«re.Pattern.sub.loop»
    dsimp only [loopArgs, rawInt]
    refine wpAny_bind (target_wp (s := { s0 with heap := h, toks := tt }) hPh ?_)
    rw [if_pos (show ((0 : Int) == 0) = true from rfl)]
    refine wpAny_bind (wpAny_of_eq lit_eq ?_)
    rw [if_neg (show ¬ (((0 : Int) != 0 && decide (n ≥ 0)) = true) by simp)]
    simp only [Int.toNat_natCast]
    have hd : d ≤ (natsOf b).size := by lia  
    refine wpAny_bind (found_wp rfl rfl rfl (by show (natsOf b).size ≤ _; lia  ) (by exact hd) ?_)
    show match SR.next (natsOf b) ((natsOf b).size - d) d with | some p => _ | none => _
    have upd : ∀ (h1 : Heap) (f : Array Value → Array Value), (∀ a o, s0.heap.get? a = some o → h1.get? a = some o) → ∀ a o, s0.heap.get? a = some o → (h1.update D (Obj.mapSeq f)).get? a = some o := fun h1 f hk1 a o e => by
      have hne : a ≠ D := fun q => by rw [q, hDn] at e; cases e
      exact ((Heap.SameBut.update ..).2 a hne).trans (hk1 a o e)
    have hbl := hb.length
    cases hn : SR.next (natsOf b) ((natsOf b).size - d) d with
    | some p =>
      obtain ⟨p1, p2, p3, p4⟩ := next_some _ _ _ hn
      intro m hm1 hm2
      dsimp only
      rw [hm1, hm2]
      have hpb : p < b.size := by lia  
      have hdot : outAt b.toList p = [46, 46] := by rw [isDot_out, if_pos p3]
      -- the dots laid
      have more : ∀ (vs1 : List Value) (bs1 : List (Array UInt8)) (k1 : Nat) (h1 : Heap) (t1 : Nat), (∀ a o, s0.heap.get? a = some o → h1.get? a = some o) → h1.get? D = some (listObj vs1 k1) → BytesAre vs1 bs1 → bs1.flatMap Array.toList = stuffTo b.toList p → vs1.length ≤ 2 * p + 1 →
          wpAny (model prog w) A.in1 (if ((0 : Int) == 0) = true then (do
              let item ← pure (Value.bytes #[46, 46] tr)
              if (item != Value.none) = true then do
                  updateSeq D fun x => x.push item
                  again (Code.builtin "re.Pattern.sub.loop" (loopArgs aP b tk tr (n + 1) (↑(p + 1) : Int) (p + 1 == p) D))
                else again (Code.builtin "re.Pattern.sub.loop" (loopArgs aP b tk tr (n + 1) (↑(p + 1) : Int) (p + 1 == p) D))) else Sem.unsupported "")
            (fun fin s' => match fin with | .done f => R (.ok f) s' | .again c' => c'.quiet = true ∧ codeAny (model prog w) A c' R s') (fun e s' => R (.error e) s') { s0 with heap := h1, toks := t1 } := by
        intro vs1 bs1 k1 h1 t1 hk1 hD1 hb1 hs1 hv1
        rw [if_pos (show ((0 : Int) == 0) = true from rfl)]
        refine wpAny_bind (wpAny_pure ?_)
        rw [if_pos (show (Value.bytes #[46, 46] tr != Value.none) = true from rfl)]
        refine wpAny_bind (wpAny_updateSeq hD1 rfl ?_ (by rw [sizeLine_eq]; simp; lia  ) (by rw [sizeLine_eq]; simp; lia  ))
        refine wpAny_pure ⟨plainId_quiet plain_loop _, ?_⟩
        refine ih (fuel - (p + 1 - d)) (by lia  ) (p + 1) (n + 1) _ (vs1 ++ [.bytes #[46, 46] tr]) (bs1 ++ [#[46, 46]]) _ _ _ (by lia  ) (upd _ _ hk1) (push_list hD1) (hb1.app _ _) ?_ ?_
        · rw [List.flatMap_append, hs1, stuffTo_succ, hdot]; rfl
        · rw [List.length_append]; simp; lia  
      by_cases hlt : d < p
      · rw [if_pos hlt]
        refine wpAny_bind ?_
        show wpAny _ _ (mkBytes (((natsOf b).extract d p).map (fun x => x.toUInt8))) _ _ _
        rw [slice_eq b d p (by lia  )]
        refine wpAny_mkBytes ?_ (by rw [sizeLine_eq]; simp; lia  )
        refine wpAny_bind (wpAny_updateSeq hD rfl ?_ (by rw [sizeLine_eq]; simp; lia  ) (by rw [sizeLine_eq]; simp; lia  ))
        refine more _ (bs ++ [((b.toList.drop d).take (p - d)).toArray]) _ _ _ (upd _ _ hk) (push_list hD) (hb.app _ _) ?_ ?_
        · rw [List.flatMap_append, hs]
          have := stuff_plain b d (p - d) (by lia  ) (fun j h1 h2 => p4 j h1 (by lia  ))
          rw [show d + (p - d) = p by lia  ] at this
          rw [this]; simp
        · rw [List.length_append]; simp; lia  
      · rw [if_neg hlt]
        have : p = d := by lia  
        subst this
        exact more vs bs k h tt hk hD hb hs (by lia  )
    | none =>
      dsimp only
      have hfin : ∀ (vs1 : List Value) (bs1 : List (Array UInt8)) (k1 : Nat) (h1 : Heap) (t1 : Nat), (∀ a o, s0.heap.get? a = some o → h1.get? a = some o) → h1.get? D = some (listObj vs1 k1) → BytesAre vs1 bs1 → bs1.flatMap Array.toList = stuffTo b.toList b.size →
          wpAny (model prog w) A.in1 (do
            let joiner ← reSlice (tgt aP b tk).text (tgt aP b tk).kind 0 0
            let xs ← seqItems? (Value.ref D)
            let text ← if (xs.getD #[]).isEmpty = true then pure joiner else call (.builtin (if ((tgt aP b tk).kind == 0) = true then "str.join" else "bytes.join")) [joiner, Value.ref D]
            if false = true then Sem.unsupported "" else ret text)
            (fun fin s' => match fin with | .done f => R (.ok f) s' | .again c' => c'.quiet = true ∧ codeAny (model prog w) A c' R s') (fun e s' => R (.error e) s') { s0 with heap := h1, toks := t1 } := by
        intro vs1 bs1 k1 h1 t1 hk1 hD1 hb1 hs1
        refine wpAny_bind ?_
        show wpAny _ _ (mkBytes (((natsOf b).extract 0 0).map (fun x => x.toUInt8))) _ _ _
        have e0 : ((natsOf b).extract 0 0).map (fun x => x.toUInt8) = #[] := by simp
        rw [e0]
        refine wpAny_mkBytes ?_ (by decide)
        refine wpAny_bind (wpAny_seqItems hD1 rfl ?_)
        simp only [Option.getD_some]
        cases vs1 with
        | nil =>
          cases hb1
          rw [if_pos (by rfl)]
          refine wpAny_bind (wpAny_pure ?_)
          rw [if_neg (by decide)]
          have e1 : stuffB b = #[] := by unfold stuffB; rw [← hs1]; rfl
          refine wpAny_pure ?_
          have := hq h1 t1 (t1 + 1) hk1
          rw [e1] at this
          exact this
        | cons v vs1 =>
          rw [if_neg (by simp)]
          refine wpAny_bind ?_
          rw [if_neg (show ¬ (((tgt aP b tk).kind == 0) = true) by show ¬ (((1 : Nat) == 0) = true); decide)]
          refine bjoin_wp hD1 hb1 (by simp) ?_ fun t' k' => ?_
          · rw [sizes_flat, hs1]
            have := stuffTo_len b.toList b.size
            lia  
          · rw [if_neg (by decide)]
            refine wpAny_pure ?_
            have := hq h1 t' k' hk1
            rw [hs1]
            exact this
      have hnd := next_none _ _ hn
      by_cases hlt : d < (tgt aP b tk).lim
      · rw [if_pos hlt]
        have hlt' : d < b.size := by have : (tgt aP b tk).lim = (natsOf b).size := rfl
                                     lia  
        refine wpAny_bind ?_
        show wpAny _ _ (mkBytes (((natsOf b).extract d (natsOf b).size).map (fun x => x.toUInt8))) _ _ _
        rw [hsz, slice_eq b d b.size (by lia  )]
        refine wpAny_mkBytes ?_ (by rw [sizeLine_eq]; simp; lia  )
        refine wpAny_bind (wpAny_updateSeq hD rfl ?_ (by rw [sizeLine_eq]; simp; lia  ) (by rw [sizeLine_eq]; simp; lia  ))
        refine hfin _ (bs ++ [((b.toList.drop d).take (b.size - d)).toArray]) _ _ _ (upd _ _ hk) (push_list hD) (hb.app _ _) ?_
        rw [List.flatMap_append, hs]
        have := stuff_plain b d (b.size - d) (by lia  ) (fun j h1 h2 => hnd j h1 (by lia  ))
        rw [show d + (b.size - d) = b.size by lia  ] at this
        rw [this]; simp
      · rw [if_neg hlt]
        have hde : d = b.size := by have : (tgt aP b tk).lim = (natsOf b).size := rfl
                                    lia  
        exact hfin vs bs k h tt hk hD hb (by rw [hs, hde])
end
end Mine
end P15
section P16
set_option maxRecDepth 100000
set_option Elab.async false
set_option autoImplicit false
set_option linter.unusedSimpArgs false
set_option linter.unusedVariables false
namespace Mine
open PySem PyProof.Rows PySem.Builtin PySem.Builtin.Re
namespace FF
theorem plainAttrs_pat : PlainAttrs "re.Pattern" where
  ga := ⟨"object.__getattribute__", by rw [typeLookup_type, builtinLookup_eq_fast]; kernel_rfl, by decide +kernel⟩
  noGetattr := by rw [typeLookup_type, builtinLookup_eq_fast]; kernel_rfl
theorem slot_sub : Slot "re.Pattern" "sub" "re.Pattern.sub" :=
  .of (owner := "re.Pattern") (n := "sub") (by rw [typeLookup_type, builtinLookup_eq_fast]; kernel_rfl) (by decide +kernel) (by decide +kernel) (by decide +kernel)
    (by first | exact .inl (by decide +kernel) | exact .inr (by decide +kernel)) (by rw [isSubtype_type]; kernel_rfl)
theorem type_sub : typeOf (.builtin "re.Pattern.sub") = pure (.type "method_descriptor") := by show builtinType _ = _; rw [builtinType_eq_fast]; kernel_rfl
theorem entry_sub : entryFor table "re.Pattern.sub" = some Builtin.«re.Pattern.sub» := entryFor_of_tree (by kernel_rfl)
theorem args_sub (a b c : Value) : argsOk "re.Pattern.sub" ⟨[a, b, c], []⟩ := by unfold argsOk; kernel_rfl
theorem no_call : typeLookup (.type "bytes") "__call__" = pure none := by rw [typeLookup_type, builtinLookup_eq_fast]; kernel_rfl
end FF
section
variable {prog : Program} {w : World} {A : Around} {E : Value → Shared → Prop}
theorem named_eq (a b : Value) : reNamed "re.Pattern.sub" "sub" ["repl", "string", "count"] 2 [a, b] [] = pure [some a, some b, none] := by kernel_rfl
theorem sub_wp {s : Shared} {aP aC : Addr} {b : Array UInt8} {tk tr : Tok} {Q : Value → Shared → Prop} (hP : PatAt s.heap aP aC) (hz : b.size ≤ 4000000)
    (hq : ∀ h' t' k, (∀ a o, s.heap.get? a = some o → h'.get? a = some o) → Q (.bytes (stuffB b) t') { s with heap := h', toks := k }) :
    wpAny (model prog w) A (call (.builtin "re.Pattern.sub") [.ref aP, .bytes #[46, 46] tr, .bytes b tk]) Q E s := by
  have hT : s.TypeIs (.ref aP) "re.Pattern" := by obtain ⟨⟨o, _, _, h1, h2, _⟩, _⟩ := hP; exact ⟨o, h1, h2⟩
  refine wpAny_call (codeAny_call_builtin FF.slot_sub.plain FF.entry_sub (FF.slot_sub.check _ _ _ _ _ _ _ _ hT (FF.args_sub _ _ _) ?_))
  unfold Builtin.«re.Pattern.sub» reSubstitute
  dsimp only
  rw [named_eq]
  refine wpAny_bind (wpAny_pure ?_)
  dsimp only
  refine wpAny_bind (wpAny_pure ?_)
  refine wpAny_bind (wpAny_of_eq (PySem.W.KBy.special_eq FF.no_call) ?_)
  rw [if_neg (by decide)]
  refine wpAny_bind (wpAny_of_eq (a := (none : Option Str)) rfl ?_)
  dsimp only
  refine wpAny_bind (wpAny_of_eq PySem.W.KBy.quiet_eq ?_)
  dsimp only
  refine wpAny_bind (wpAny_pure ?_)
  rw [if_neg (by decide), if_pos (by decide +kernel)]
  refine wpAny_bind (wpAny_pure ?_)
  dsimp only
  refine wpAny_bind (wpAny_holding (target_wp hP ?_))
  rw [if_neg (by decide)]
  refine wpAny_bind (wpAny_newObj_type ?_)
  refine wpAny_pure ⟨plainId_quiet plain_loop _, ?_⟩
  have hnew : s.heap.get? s.heap.objs.size = none := by
    cases e : s.heap.get? s.heap.objs.size with
    | none => rfl
    | some o => exact absurd (Heap.lt_size e) (Nat.lt_irrefl _)
  refine loop_wp (D := s.heap.objs.size) (tr := tr) (s0 := s) hP hnew hz (fun h' t' k hk => hq h' t' k hk) b.size 0 0 false [] [] 0 (s.heap.push (listObj [] 0)) s.toks (by lia  ) (fun a o e => Heap.get?_push_of_some _ e) (Heap.get?_push_size _ rfl) .nil rfl (by simp)
end
end Mine
end P16
section P17
set_option maxRecDepth 100000
set_option Elab.async false
set_option autoImplicit false
set_option linter.unusedSimpArgs false
set_option linter.unusedVariables false
namespace Mine
open PySem PyProof.Rows PySem.Builtin
namespace FF
theorem mro_map : mroOf (.type "map") = pure [.type "map", .type "object"] := by rw [mroOf_type]; kernel_rfl
theorem slot_map_next : Slot "map" "__next__" "map.__next__" :=
  .of (owner := "map") (n := "__next__") (by rw [typeLookup_type, builtinLookup_eq_fast]; kernel_rfl) (by decide +kernel) (by decide +kernel) (by decide +kernel)
    (by first | exact .inl (by decide +kernel) | exact .inr (by decide +kernel)) (by rw [isSubtype_type]; kernel_rfl)
theorem entry_map_next : entryFor table "map.__next__" = some Builtin.«map.__next__» := entryFor_of_tree (by kernel_rfl)
theorem args_map_next (a : Value) : argsOk "map.__next__" ⟨[a], []⟩ := by unfold argsOk; kernel_rfl
theorem slot_map_iter : Slot "map" "__iter__" "map.__iter__" :=
  .of (owner := "map") (n := "__iter__") (by rw [typeLookup_type, builtinLookup_eq_fast]; kernel_rfl) (by decide +kernel) (by decide +kernel) (by decide +kernel)
    (by first | exact .inl (by decide +kernel) | exact .inr (by decide +kernel)) (by rw [isSubtype_type]; kernel_rfl)
theorem entry_map_iter : entryFor table "map.__iter__" = some Builtin.«dict_keyiterator.__iter__» :=
  entryFor_alias (id' := "dict_keyiterator.__iter__") (by kernel_rfl) (by first | rfl | decide +kernel) (by decide +kernel) (by kernel_rfl)
theorem args_map_iter (a : Value) : argsOk "map.__iter__" ⟨[a], []⟩ := by unfold argsOk; kernel_rfl
theorem init_map : Slot "map" "__init__" "object.__init__" :=
  .of (owner := "object") (n := "__init__") (by rw [typeLookup_type, builtinLookup_eq_fast]; kernel_rfl) (by decide +kernel) (by decide +kernel) (by decide +kernel)
    (by first | exact .inl (by decide +kernel) | exact .inr (by decide +kernel)) (by rw [isSubtype_type]; kernel_rfl)
theorem sub_map : isSubtype (.type "map") (.type "map") = pure true := by rw [isSubtype_type]; kernel_rfl
theorem called_map : TypeCalled "map" "map.__new__" "object.__init__" where
  notType := by decide
  canCreate := by decide +kernel
  mro := ⟨_, _, mro_map⟩
  made := madeBy_type mro_map (by rw [typeLookup_type, builtinLookup_eq_fast]; kernel_rfl) (by decide +kernel)
  plain := by decide +kernel
  sub := sub_map
  init := init_map
theorem typeCall_map (a b : Value) : checkTypeCall "map" ⟨[a, b], []⟩ = pure () := by kernel_rfl
theorem newCall_map (a b : Value) : checkBuiltinCall "map.__new__" ⟨[.type "map", a, b], []⟩ = pure () := by kernel_rfl
theorem entry_map_new : entryFor table "map.__new__" = some Builtin.«map.__new__» := entryFor_of_tree (by kernel_rfl)
theorem map_no_len : typeLookup (.type "map") "__len__" = pure none := by rw [typeLookup_type, builtinLookup_eq_fast]; kernel_rfl
theorem map_no_hint : typeLookup (.type "map") "__length_hint__" = pure none := by rw [typeLookup_type, builtinLookup_eq_fast]; kernel_rfl
end FF
end Mine
end P17
section P18
set_option maxRecDepth 100000
set_option Elab.async false
set_option autoImplicit false
set_option linter.unusedSimpArgs false
set_option linter.unusedVariables false
namespace Mine
open PySem PyProof.Rows PySem.Builtin PySem.Builtin.Str PySem.Builtin.Int
noncomputable def mapObj (T : Addr) : Obj := { cls := .type "map", data := .fields #[.ref T, .builtin "str.capitalize"] }
noncomputable def capS (ys : List Str) (i : Nat) : Str := Txt.capitalize (ys.getD i Str.empty)
/-- map(str.capitalize, list), i of its items taken -/
structure MapAt (h : Heap) (I T it l : Addr) (us : List Value) (i : Nat) : Prop where
  fm : h.get? I = some (mapObj T)
  ft : h.get? T = some (tupObj [.ref it])
  fi : h.IsListIter it l i
  fl : h.IsList l us.toArray
  ne1 : I ≠ it
  ne2 : T ≠ it
  ne3 : l ≠ it
theorem push_list' {h : Heap} {D : Addr} {vs : List Value} {k : Nat} {v : Value} (hD : h.get? D = some (listObj vs k)) : (h.update D (Obj.mapSeq (·.push v))).get? D = some (listObj (vs ++ [v]) (k + 1)) := by
  rw [Heap.get?_update_self _ hD (by rw [listObj, Obj.mapSeq_push_plain]; rfl), listObj, Obj.mapSeq_push_plain]
  simp [listObj]
theorem pop_list' {h : Heap} {D : Addr} {k : Nat} {v : Value} (hD : h.get? D = some (listObj ([] ++ [v]) k)) : ∃ c, (h.update D (Obj.mapSeq (·.pop))).get? D = some (listObj [] c) := ⟨_, PySem.IsL.update hD (·.pop)⟩
section
variable {prog : Program} {w : World} {A : Around} {E : Value → Shared → Prop}
theorem MapAt.next {s : Shared} {I T it l : Addr} {us : List Value} {ys : List Str} {i : Nat} {Q : Option Value → Shared → Prop} (M : MapAt s.heap I T it l us i) (hy : StrsAre us ys) (hi : i < us.length) (hz : (ys.getD i Str.empty).length ≤ 5592405)
    (hQ : ∀ h' t' k, MapAt h' I T it l us (i + 1) → Heap.SameBut it s.heap h' → Q (some (.str (capS ys i) t')) { s with heap := h', toks := k }) : wpAny (model prog w) A (pyNext (.ref I)) Q E s := by
  have hT : s.TypeIs (.ref I) "map" := ⟨_, M.fm, rfl⟩
  obtain ⟨y, hyi⟩ : ∃ y, ys[i]? = some y := by
    have := hy.length
    exact ⟨ys[i], List.getElem?_eq_getElem (by lia  )⟩
  obtain ⟨t, hu⟩ := hy.get i y hyi
  have hyd : ys.getD i Str.empty = y := by rw [List.getD_eq_getElem?_getD, hyi]; rfl
  unfold pyNext
  refine wpAny_bind (wpAny_attempt (wpAny_callSpecial?_slot (name := Str.ofString "__next__") hT FF.slot_map_next
    (wpAny_call_entry FF.slot_map_next hT FF.entry_map_next ?_ (FF.args_map_next _))))
  unfold Builtin.«map.__next__»
  refine wpAny_bind (wpAny_of_eq (a := (Value.ref I, ([] : List Value))) rfl ?_)
  dsimp only
  refine wpAny_bind ?_
  refine wpAny_field M.fm rfl (x := .ref T) rfl ?_
  refine wpAny_bind (wpAny_seqItems M.ft rfl ?_)
  dsimp only
  have hl := M.fl
  rw [← Array.forIn_toList]
  show wpAny _ _ (forIn [Value.ref it] _ _ >>= _) _ _ _
  rw [List.forIn_cons]
  refine wpAny_bind (wpAny_bind (wpAny_bind (wpAny_holding (wpAny_nextOf_list_item M.fi M.fl (x := .str y t) (by simpa using hu) fun h' hi' hs' => ?_))))
  have M' : MapAt h' I T it l us (i + 1) := ⟨(hs'.2 I M.ne1).trans M.fm, (hs'.2 T M.ne2).trans M.ft, hi', by obtain ⟨o, ho, r⟩ := M.fl; exact ⟨o, (hs'.2 l M.ne3).trans ho, r⟩, M.ne1, M.ne2, M.ne3⟩
  refine wpAny_pure ?_
  dsimp only
  rw [List.forIn_nil]
  refine wpAny_pure ?_
  refine wpAny_bind (wpAny_field M'.fm rfl (x := .builtin "str.capitalize") rfl ?_)
  refine wpAny_bind (wpAny_holding ?_)
  show wpAny _ _ (call (.builtin "str.capitalize") [.str y t]) _ _ _
  refine SCL.capitalize (by rw [hyd] at hz; exact hz) fun t' k _ => ?_
  refine wpAny_bind (wpAny_letGo ?_)
  refine wpAny_pure ⟨_, rfl, wpAny_pure ?_⟩
  have := hQ h' t' k M' hs'
  unfold capS at this
  rw [hyd] at this
  exact this
theorem MapAt.done {s : Shared} {I T it l : Addr} {us : List Value} {Q : Option Value → Shared → Prop} (hh : A.handled = none) (M : MapAt s.heap I T it l us us.length)
    (hQ : ∀ h', Heap.ExtBut it s.heap h' → Q none { s with heap := h' }) : wpAny (model prog w) A (pyNext (.ref I)) Q E s := by
  have hT : s.TypeIs (.ref I) "map" := ⟨_, M.fm, rfl⟩
  unfold pyNext
  refine wpAny_bind (wpAny_attempt (wpAny_callSpecial?_slot (name := Str.ofString "__next__") hT FF.slot_map_next
    (wpAny_call_entry FF.slot_map_next hT FF.entry_map_next ?_ (FF.args_map_next _))))
  unfold Builtin.«map.__next__»
  refine wpAny_bind (wpAny_of_eq (a := (Value.ref I, ([] : List Value))) rfl ?_)
  dsimp only
  refine wpAny_bind ?_
  refine wpAny_field M.fm rfl (x := .ref T) rfl ?_
  refine wpAny_bind (wpAny_seqItems M.ft rfl ?_)
  dsimp only
  rw [← Array.forIn_toList]
  show wpAny _ _ (forIn [Value.ref it] _ _ >>= _) _ _ _
  rw [List.forIn_cons]
  refine wpAny_bind (wpAny_bind (wpAny_bind (wpAny_holding (wpAny_nextOf_list_end hh M.fi M.fl (by simp) fun h' x he' hx' => ?_))))
  obtain ⟨o, ho, hc⟩ := hx'
  refine wpAny_bind (wpAny_isInstance (T := "StopIteration") (b := true) ⟨o, ho, hc⟩ isSubtype_stop ?_)
  exact wpAny_pure (hQ _ he')
theorem MapAt.self {s : Shared} {I T it l : Addr} {us : List Value} {i : Nat} {Q : Value → Shared → Prop} (M : MapAt s.heap I T it l us i) (h : Q (.ref I) s) : wpAny (model prog w) A (pyIter (.ref I)) Q E s := by
  have hT : s.TypeIs (.ref I) "map" := ⟨_, M.fm, rfl⟩
  refine wpAny_pyIter_slot hT FF.slot_map_iter (wpAny_call_entry FF.slot_map_iter hT FF.entry_map_iter ?_ (FF.args_map_iter _))
  show wpAny _ _ (ret (.ref I)) _ _ s
  exact wpAny_pure ⟨_, rfl, "map", _, hT, FF.slot_map_next.lookup, h⟩
theorem map_walks {I T it l : Addr} {us : List Value} {ys : List Str} (hh : A.handled = none) (hy : StrsAre us ys) (hz : ∀ y ∈ ys, y.length ≤ 5592405) :
    WalksS prog w A I [I, T, it, l] [it] (fun a b => b = a) us.length (fun i v => ∃ t, v = .str (capS ys i) t) (fun i s => MapAt s.heap I T it l us i) where
  sub := fun b hb => by rw [List.mem_singleton.mp hb]; simp
  grefl := fun _ => rfl
  gtrans := fun _ _ _ h1 h2 => h2.trans h1
  frame := fun i s h' tk M _ hk => ⟨hk I (by simp) _ M.fm, hk T (by simp) _ M.ft, by obtain ⟨o, ho, r⟩ := M.fi; exact ⟨o, hk it (by simp) _ ho, r⟩, by obtain ⟨o, ho, r⟩ := M.fl; exact ⟨o, hk l (by simp) _ ho, r⟩, M.ne1, M.ne2, M.ne3⟩
  item := fun i s Q E hi M hQ => wpAny_with_toks (Nat.le_refl s.toks) (M.next hy hi (by
      have hlen := hy.length
      have : ys.getD i Str.empty ∈ ys := by rw [List.getD_eq_getElem?_getD, List.getElem?_eq_getElem (by lia  )]; exact List.getElem_mem _
      exact hz _ this) fun h' t' k M' hs' htk => hQ _ _ ⟨t', rfl⟩ M' ⟨fun b o hb e => (hs'.2 b (fun q => hb (by simp [q]))).trans e, rfl, rfl, rfl, htk⟩)
  done := fun s Q E M hQ => wpAny_with_toks (Nat.le_refl s.toks) (M.done hh fun h' he htk => hQ _ ⟨fun b o hb e => he b o (fun q => hb (by simp [q])) e, rfl, rfl, rfl, htk⟩)
  self := fun i s Q E M h => M.self h
theorem map_new (l : Addr) (items : Array Value) (n : Nat) (dct : Option Addr) (sl : Array (Option Value)) :
    Meets (Builtin.«map.__new__» ⟨[.type "map", .builtin "str.capitalize", .ref l], []⟩) (fun _ R s => s.heap.get? l = some { cls := .type "list", dict := dct, data := .seq items n, slots := sl } ∧
      R (.ok (.ret (.ref (s.heap.objs.size + 2)))) { s with heap := ((s.heap.push { cls := .type "list_iterator", data := .fields #[.ref l, .int 0 0] }).push (tupObj [.ref s.heap.objs.size])).push (mapObj (s.heap.objs.size + 1)) }) :=
  .of_wp fun prog w A R s h => by
    obtain ⟨hl, h⟩ := h
    have hL : s.heap.IsList l items := ⟨_, hl, rfl, n, rfl⟩
    have z1 : (s.heap.push { cls := .type "list_iterator", data := .fields #[.ref l, .int 0 0] }).objs.size = s.heap.objs.size + 1 := Heap.size_push ..
    have z2 : ((s.heap.push { cls := .type "list_iterator", data := .fields #[.ref l, .int 0 0] }).push (tupObj [.ref s.heap.objs.size])).objs.size = s.heap.objs.size + 2 := by rw [Heap.size_push, z1]
    unfold Builtin.«map.__new__» SmallTypes.newClass SmallTypes.refuseKeywords SmallTypes.newRecord SmallTypes.iterAll
    dsimp only
    refine wpAny_bind ?_
    refine wpAny_bind (wpAny_of_eq (a := true) rfl ?_)
    rw [if_neg (by decide)]
    refine wpAny_bind (wpAny_of_eq FF.sub_map ?_)
    rw [if_neg (by decide)]
    refine wpAny_pure ?_
    dsimp only
    refine wpAny_bind ?_
    rw [if_pos (by rfl)]
    refine wpAny_pure ?_
    rw [if_neg (show ¬ [Value.builtin "str.capitalize", Value.ref l].length < 2 from Nat.lt_irrefl 2)]
    show wpAny _ _ (((forIn [Value.ref l] _ _ >>= _) >>= _)) _ _ _
    rw [List.forIn_cons]
    refine wpAny_bind (wpAny_bind (wpAny_bind (wpAny_bind (wpAny_holding (wpAny_pyIter_list hL ?_)))))
    refine wpAny_pure ?_
    dsimp only
    rw [List.forIn_nil]
    refine wpAny_pure (wpAny_pure ?_)
    show wpAny _ _ (newTuple [Value.ref s.heap.objs.size] >>= _) _ _ _
    refine wpAny_bind (wpAny_newTuple ?_)
    refine wpAny_bind (wpAny_newObj_type ?_)
    refine wpAny_pure ⟨_, rfl, ?_⟩
    have h' := h
    rw [← z2] at h'
    simp only [tupObj, mapObj, ← z1] at h' ⊢
    exact h'
theorem call_map {s : Shared} {l : Addr} {us : List Value} {Q : Value → Shared → Prop} (hL : s.heap.IsList l us.toArray)
    (h : ∀ h', MapAt h' (s.heap.objs.size + 2) (s.heap.objs.size + 1) s.heap.objs.size l us 0 → (∀ b o, s.heap.get? b = some o → h'.get? b = some o) → h'.objs.size = s.heap.objs.size + 3 → Q (.ref (s.heap.objs.size + 2)) { s with heap := h' }) :
    wpAny (model prog w) A (call (.type "map") [.builtin "str.capitalize", .ref l]) Q E s := by
  obtain ⟨⟨c, dct, dt, sl⟩, hl, hc, n, hd⟩ := hL
  replace hc : c = .type "list" := hc
  replace hd : dt = .seq us.toArray n := hd
  subst hc hd
  refine callType_new FF.called_map (by decide) (FF.typeCall_map _ _) (FF.newCall_map _ _) (fun obj => F.args_object_init_3 obj _ _) FF.entry_map_new
    (map_new l us.toArray n dct sl) ⟨hl, ?_⟩
  have z1 : (s.heap.push { cls := .type "list_iterator", data := .fields #[.ref l, .int 0 0] }).objs.size = s.heap.objs.size + 1 := Heap.size_push ..
  have z2 : ((s.heap.push { cls := .type "list_iterator", data := .fields #[.ref l, .int 0 0] }).push (tupObj [.ref s.heap.objs.size])).objs.size = s.heap.objs.size + 2 := by rw [Heap.size_push, z1]
  have g3 := Heap.get?_push_size ((s.heap.push { cls := .type "list_iterator", data := .fields #[.ref l, .int 0 0] }).push (tupObj [.ref s.heap.objs.size])) (o := mapObj (s.heap.objs.size + 1)) rfl
  have g2 := Heap.get?_push_size (s.heap.push { cls := .type "list_iterator", data := .fields #[.ref l, .int 0 0] }) (o := tupObj [.ref s.heap.objs.size]) rfl
  have g1 := Heap.get?_push_size s.heap (o := { cls := .type "list_iterator", data := .fields #[.ref l, .int 0 0] }) rfl
  rw [z2] at g3
  rw [z1] at g2
  have hll : l < s.heap.objs.size := Heap.lt_size hl
  refine ⟨⟨_, g3, rfl⟩, h _ ⟨g3, Heap.get?_push_of_some _ g2, ⟨_, Heap.get?_push_of_some _ (Heap.get?_push_of_some _ g1), rfl, rfl⟩, ⟨_, Heap.get?_push_of_some _ (Heap.get?_push_of_some _ (Heap.get?_push_of_some _ hl)), rfl, n, rfl⟩, Nat.ne_of_gt (Nat.lt_add_of_pos_right (by decide)), Nat.ne_of_gt (Nat.lt_succ_self _), Nat.ne_of_lt hll⟩
    (fun b o e => Heap.get?_push_of_some _ (Heap.get?_push_of_some _ (Heap.get?_push_of_some _ e))) (by rw [Heap.size_push, z2])⟩
theorem collect_map {s : Shared} {I : Addr} {fp wr : List Addr} {G : Array GenState → Array GenState → Prop} {n : Nat} {Pv : Nat → Value → Prop} {St : Nat → Shared → Prop} {Q : List Value → Shared → Prop}
    (W : WalksS prog w A.in1 I fp wr G n Pv St) (hT : ∀ i s, St i s → s.TypeIs (.ref I) "map") (hst : St 0 s) (hfp : ∀ b ∈ fp, b < s.heap.objs.size) (hI : I ∈ fp)
    (hQ : ∀ s' acc, Moved wr G s s' → ItemsOf Pv acc n → Q acc.toList s') (hn : n ≤ sizeLine) : wpAny (model prog w) A (collect (.ref I)) Q E s := by
  generalize hS : s.heap.objs.size = S
  have hSf : S ∉ fp := fun hm => Nat.lt_irrefl _ (hS ▸ hfp _ hm)
  have hSI : S ≠ I := fun e => hSf (e ▸ hI)
  generalize hh1 : s.heap.push (listObj [] 0) = h1
  have hS1 : h1.get? S = some (listObj [] 0) := by rw [← hh1, ← hS]; exact Heap.get?_push_size _ rfl
  have k1 : ∀ b o, s.heap.get? b = some o → h1.get? b = some o := fun b o e => by rw [← hh1]; exact Heap.get?_push_of_some _ e
  have hst1 : St 0 { s with heap := h1 } := W.frame 0 s h1 s.toks hst (Nat.le_refl _) fun b _ o e => k1 b o e
  unfold collect
  refine wpAny_bind (wpAny_runValue (codeAny_builtin F.entry_proto_collect ?_))
  rw [Around.under_plainId F.plain_proto_collect _]
  show wpAny _ A.in1 (newList [] >>= fun l => again (.builtin "list.__iadd__" ⟨[l, .ref I], []⟩)) _ _ s
  refine wpAny_bind (wpAny_newObj_type ?_)
  refine wpAny_pure ⟨plainId_quiet F.plain_list_iadd _, codeAny_builtin F.entry_list_iadd ?_⟩
  rw [Around.under_plainId F.plain_list_iadd _, hS]
  show wpAny _ A.in1 (Builtin.List.listExtendWith (.ref S) (.ref I) (.ref S)) _ _ { s with heap := s.heap.push (listObj [] 0) }
  rw [hh1]
  unfold Builtin.List.listExtendWith
  refine wpAny_bind (wpAny_typeOf (hT 0 _ hst1) ?_)
  have e1 : Builtin.List.listSameRef (.ref S) (.ref I) = false := by simp [Builtin.List.listSameRef, hSI]
  have e2 : (Value.type "map" == Value.type "list") = false := by decide
  have e3 : (Value.type "map" == Value.type "tuple") = false := by decide
  simp only [e1, e2, e3, Bool.or_false, Bool.false_eq_true, if_false]
  refine wpAny_bind (W.self 0 _ _ _ hst1 ?_)
  refine wpAny_bind (wpAny_holding ?_)
  unfold Builtin.List.listLengthHint
  refine wpAny_bind (wpAny_specialOf (hT 0 _ hst1) FF.map_no_len ?_)
  show wpAny _ A.in1 (specialOf (Value.ref I) (Str.ofString "__length_hint__") >>= _) _ _ _
  refine wpAny_bind (wpAny_specialOf (hT 0 _ hst1) FF.map_no_hint ?_)
  refine wpAny_pure ?_
  show wpAny _ A.in1 (rule "list.extend.makes-room" >>= fun _ => Builtin.List.listTouch (.ref S) >>= fun _ => again (.builtin "list.extend.loop" ⟨[.ref S, .ref I, .ref S], []⟩)) _ _ _
  refine wpAny_bind (wpAny_rule ?_)
  refine wpAny_bind ?_
  show wpAny _ A.in1 (updateSeq S (·.push .none) >>= fun _ => updateSeq S (·.pop)) _ _ _
  refine wpAny_bind (wpAny_updateSeq hS1 rfl ?_)
  have hS2 := push_list' (v := Value.none) hS1
  refine wpAny_updateSeq hS2 rfl ?_
  generalize hh2 : (h1.update S (Obj.mapSeq (·.push Value.none))) = h2 at hS2 ⊢
  have k2 : ∀ b o, b ≠ S → h1.get? b = some o → h2.get? b = some o := fun b o hb e => by rw [← hh2]; exact ((Heap.SameBut.update ..).2 b hb).trans e
  obtain ⟨c3, hS3⟩ := pop_list' hS2
  generalize hh3 : (h2.update S (Obj.mapSeq (·.pop))) = h3 at hS3 ⊢
  have k3 : ∀ b o, b ≠ S → h2.get? b = some o → h3.get? b = some o := fun b o hb e => by rw [← hh3]; exact ((Heap.SameBut.update ..).2 b hb).trans e
  have hst3 : St 0 { s with heap := h3 } := W.frame 0 { s with heap := h1 } h3 s.toks hst1 (Nat.le_refl _) fun b hb o e => k3 b o (fun q => hSf (q ▸ hb)) (k2 b o (fun q => hSf (q ▸ hb)) e)
  refine wpAny_pure ⟨plainId_quiet F.plain_extend_loop _, codeAny_extend_loopS W hn S hSf (.ref S) n 0 _ _ _ rfl (Nat.zero_le _) hst3 hS3 (ItemsOf.nil _) fun s' acc' c' hm hS' hacc => ?_⟩
  show wpAny _ A (load S >>= _) _ _ s'
  refine wpAny_bind (wpAny_load hS' ?_)
  refine wpAny_pure (hQ s' acc' ⟨fun b o hb e => ?_, hm.gens, hm.drawn, hm.os, hm.toks⟩ hacc)
  have hbS : b ≠ S := fun q => Nat.lt_irrefl b (Nat.lt_of_lt_of_le (Heap.lt_size e) (Nat.le_of_eq (hS.trans q.symm)))
  exact hm.heap b o (fun hm' => by rcases List.mem_cons.mp hm' with q | q; exact hbS q; exact hb q) (k3 b o hbS (k2 b o hbS (k1 b o e)))
theorem join_map {s : Shared} {I T it l : Addr} {us : List Value} {ys : List Str} {x : Str} {t : Tok} {Q : Value → Shared → Prop} (hh : A.handled = none) (M : MapAt s.heap I T it l us 0) (hy : StrsAre us ys) (hz : ∀ y ∈ ys, y.length ≤ 5592405) (hn : us.length ≤ 16777216)
    (hok : JoinOk x (ys.map Txt.capitalize) = true)
    (hq : ∀ h' t' k, (∀ b o, b ≠ it → s.heap.get? b = some o → h'.get? b = some o) → Q (.str (Txt.join x (ys.map Txt.capitalize)) t') { s with heap := h', toks := k }) : wpAny (model prog w) A (call (.builtin "str.join") [.str x t, .ref I]) Q E s := by
  have hT : ∀ (i : Nat) (s : Shared), MapAt s.heap I T it l us i → s.TypeIs (.ref I) "map" := fun i s M => ⟨_, M.fm, rfl⟩
  have W := map_walks (prog := prog) (w := w) (A := A.in1.in1) (I := I) (T := T) (it := it) (l := l) (us := us) (ys := ys) hh hy hz
  refine wpAny_call (codeAny_call_builtin F.slot_str_join.plain F.entry_str_join (F.slot_str_join.check _ _ _ _ _ _ _ _ (typeIs_str _ _ _) (F.args_str_join_2 _ _) ?_))
  rw [join_tree_other]
  refine wpAny_bind (wpAny_typeOf (hT 0 s M) ?_)
  show wpAny _ A.in1 ((pyIter (.ref I)).tryCatch _ >>= fun it => collect it >>= fun items => joinTail x items) _ _ s
  refine wpAny_bind (wpAny_tryCatch (M.self ?_))
  refine wpAny_bind (collect_map W hT M (fun b hb => ?_) (by simp) (fun s' acc hm hacc => ?_) (by rw [sizeLine_eq]; exact hn))
  · simp only [List.mem_cons, List.not_mem_nil, or_false] at hb
    rcases hb with rfl | rfl | rfl | rfl
    · exact Heap.lt_size M.fm
    · exact Heap.lt_size M.ft
    · obtain ⟨o, ho, _⟩ := M.fi; exact Heap.lt_size ho
    · obtain ⟨o, ho, _⟩ := M.fl; exact Heap.lt_size ho
  · obtain ⟨L, hL⟩ := exists_strValues acc.toList fun v hv => by
      obtain ⟨j, hj, rfl⟩ := Array.mem_iff_getElem.mp (Array.mem_toList_iff.mp hv)
      obtain ⟨t', e⟩ := hacc.2 j _ (Array.getElem?_eq_getElem hj)
      exact ⟨_, _, e⟩
    have hlen : us.length = ys.length := hy.length
    have hLl : L.length = us.length := by
      have h1 : (strValues L).length = acc.size := by rw [hL]; simp
      have h2 : (strValues L).length = L.length := by simp [strValues]
      have h3 := hacc.1
      lia  
    have hLy : L.map (·.1) = ys.map Txt.capitalize := by
      apply List.ext_getElem
      · simp; lia  
      · intro j h1 h2
        simp only [List.length_map] at h1 h2
        have hj : acc[j]? = some (.str L[j].1 L[j].2) := by
          have e1 : acc.toList[j]? = some (.str L[j].1 L[j].2) := by rw [← hL]; simp [strValues, h1]
          simpa using e1
        obtain ⟨t', e⟩ := hacc.2 j _ hj
        injection e with e1 e2
        simp only [List.getElem_map]
        rw [e1]
        unfold capS
        rw [List.getD_eq_getElem?_getD, List.getElem?_eq_getElem h2]
        rfl
    rw [← hL]
    rw [← hLy] at hok
    unfold JoinOk at hok
    rw [Bool.not_eq_true'] at hok
    have g : Gives (joinTail x (strValues L)) (joinMade x L) := by
      have g0 := gives_joinTail x L hok
      cases L with
      | nil => exact g0
      | cons p r => cases r with
        | nil => exact g0
        | cons q r' => exact g0
    have hs' : s' = { s with heap := s'.heap, toks := s'.toks } := by
      obtain ⟨a, b, c, d, e⟩ := s'
      have h1 := hm.gens; have h2 := hm.drawn; have h3 := hm.os
      dsimp only at h1 h2 h3 ⊢
      subst h1 h2 h3
      rfl
    refine g prog w A (wants Q E) s' (post_join L ⟨joinFit_length hok, fun t' k => ?_⟩)
    rw [hLy]
    have := hq s'.heap t' k fun b o hb e => hm.heap b o (by simpa using hb) e
    rw [hs']
    exact this
end
end Mine
end P18
section P19
set_option maxRecDepth 100000
set_option Elab.async false
set_option autoImplicit false
set_option linter.unusedSimpArgs false
set_option linter.unusedVariables false
namespace Mine
open PySem PyProof.Rows
namespace FF
theorem tga_lookup : typeLookup (.type "type") "__getattribute__" = pure (some (.builtin "type.__getattribute__")) := by rw [typeLookup_type, builtinLookup_eq_fast]; kernel_rfl
theorem slot_tga : Slot "type" "__getattribute__" "type.__getattribute__" :=
  .of (owner := "type") (n := "__getattribute__") (by rw [typeLookup_type, builtinLookup_eq_fast]; kernel_rfl) (by decide +kernel) (by decide +kernel) (by decide +kernel)
    (by first | exact .inl (by decide +kernel) | exact .inr (by decide +kernel)) (by rw [isSubtype_type]; kernel_rfl)
theorem entry_tga : entryFor table "type.__getattribute__" = some Builtin.«type.__getattribute__» := entryFor_of_tree (by kernel_rfl)
theorem args_tga (a b : Value) : argsOk "type.__getattribute__" ⟨[a, b], []⟩ := by unfold argsOk; kernel_rfl
theorem str_type : typeOf (.type "str") = pure (.type "type") := by kernel_rfl
theorem lk_cap : typeLookup (.type "str") "capitalize" = pure (some (.builtin "str.capitalize")) := by rw [typeLookup_type, builtinLookup_eq_fast]; kernel_rfl
theorem type_no_cap : typeLookup (.type "type") "capitalize" = pure none := by rw [typeLookup_type, builtinLookup_eq_fast]; kernel_rfl
theorem ty_cap : typeOf (.builtin "str.capitalize") = pure (.type "method_descriptor") := by show builtinType _ = _; rw [builtinType_eq_fast]; kernel_rfl
end FF
section
variable {prog : Program} {w : World} {A : Around} {E : Value → Shared → Prop} {h : Heap} {g : Array GenState} {d : Drawn} {t : Nat} {os : OsState}
theorem cap_entry {tk : Tok} {Q : Fin → Shared → Prop} (hq : Q (.done (.ret (.builtin "str.capitalize"))) ⟨h, g, d, t, os⟩) :
    wpAny (model prog w) A (Builtin.«type.__getattribute__» ⟨[.type "str", .str "capitalize" tk], []⟩) Q E ⟨h, g, d, t, os⟩ := by
  have f1 := FF.str_type
  have f2 := FF.lk_cap
  have f3 := FF.type_no_cap
  have f4 := FF.ty_cap
  repeat (any_goals (first | assumption | wp_step))
theorem cap_call {tk : Tok} {R : Result → Shared → Prop} (hq : R (.ok (.ret (.builtin "str.capitalize"))) ⟨h, g, d, t, os⟩) :
    codeAny (model prog w) A (.call (.builtin "type.__getattribute__") ⟨[.type "str", .str "capitalize" tk], []⟩) R ⟨h, g, d, t, os⟩ :=
  codeAny_call_builtin FF.slot_tga.plain FF.entry_tga (FF.slot_tga.check _ _ _ _ _ _ _ _ (show (⟨h, g, d, t, os⟩ : Shared).TypeIs (.type "str") "type" from FF.str_type) (FF.args_tga _ _) (cap_entry hq))
theorem getAttr_cap {s : Shared} {Q : Value → Shared → Prop} (hq : ∀ k, Q (.builtin "str.capitalize") { s with toks := k }) : wpAny (model prog w) A (getAttr (.type "str") "capitalize" true) Q E s := by
  obtain ⟨h, g, d, t, os⟩ := s
  have f1 := FF.str_type
  have f2 := FF.tga_lookup
  have f3 := FF.slot_tga.bind (.type "str")
  unfold getAttr getAttrBy
  repeat (any_goals (first | assumption | wp_step))
  refine cap_call ?_
  repeat (any_goals (first | assumption | wp_step))
  all_goals exact hq _
end
end Mine
end P19
section P20
set_option maxRecDepth 100000
set_option Elab.async false
set_option autoImplicit false
set_option linter.unusedSimpArgs false
set_option linter.unusedVariables false
namespace Mine
open PySem PyProof.Rows
noncomputable def hexL : List (Nat × Nat) := [(48, 0), (49, 1), (50, 2), (51, 3), (52, 4), (53, 5), (54, 6), (55, 7), (56, 8), (57, 9), (65, 10), (66, 11), (67, 12), (68, 13), (69, 14), (70, 15), (97, 10), (98, 11), (99, 12), (100, 13), (101, 14), (102, 15)]
noncomputable def hexP : List ((Nat × Nat) × (Nat × Nat)) := hexL.flatMap fun a => hexL.map fun b => (a, b)
theorem read16_all : hexP.map (fun p => (int_private% "readNumeral") 0 16 [p.1.1, p.2.1]) = hexP.map (fun p => (int_private% "Numeral.value") ((16 * p.1.2 + p.2.2 : Nat) : Int)) := by kernel_rfl
theorem read16 {a b : Nat × Nat} (ha : a ∈ hexL) (hb : b ∈ hexL) : (int_private% "readNumeral") 0 16 [a.1, b.1] = (int_private% "Numeral.value") ((16 * a.2 + b.2 : Nat) : Int) := by
  have hm : (a, b) ∈ hexP := List.mem_flatMap.mpr ⟨a, ha, List.mem_map.mpr ⟨b, hb, rfl⟩⟩
  exact List.map_inj_left.mp read16_all (a, b) hm
theorem hex_small : ∀ a ∈ hexL, a.1 < 128 ∧ a.1 ≠ 0 := by decide
theorem wp_text16 {M : Model} {A : Around} {E : Value → Shared → Prop} {s : Shared} {Q : Value → Shared → Prop} {v : Value} {a b : Nat × Nat} (ha : a ∈ hexL) (hb : b ∈ hexL) (h : Q (.int ((16 * a.2 + b.2 : Nat) : Int) s.toks) { s with toks := s.toks + 1 }) :
    wpAny M A ((int_private% "intFromText") v [a.1, b.1] 16) Q E s := by
  obtain ⟨hp, g, d, tk, os⟩ := s
  have h1 := (hex_small a ha).2
  have h2 := (hex_small b hb).2
  have hs : [a.1, b.1].takeWhile (· != 0) = [a.1, b.1] := by rw [List.takeWhile_cons_of_pos (by simpa using h1), List.takeWhile_cons_of_pos (by simpa using h2), List.takeWhile_nil]
  have hr := read16 ha hb
  have hl : ([a.1, b.1].takeWhile (· != 0)).length ≤ 640 := by rw [hs]; exact (by decide : 2 ≤ 640)
  have he : (([a.1, b.1].takeWhile (· != 0)).length == [a.1, b.1].length) = true := by rw [hs]; rfl
  rw [← hs] at hr
  repeat (any_goals (first
    | assumption
    | (with_reducible refine wpAny_ite_true (decide_eq_true hl) ?_)
    | (with_reducible refine wpAny_ite_true (decide_eq_true he) ?_)
    | wp_step))
  all_goals (try rw [hr])
  all_goals (try dsimp only)
  repeat (any_goals (first
    | assumption
    | (with_reducible refine wpAny_ite_true (decide_eq_true hl) ?_)
    | (with_reducible refine wpAny_ite_true (decide_eq_true he) ?_)
    | wp_step))
theorem wp_text16' {M : Model} {A : Around} {E : Value → Shared → Prop} {s : Shared} {Q : Value → Shared → Prop} {v : Value} {a b : Nat × Nat} {text : List Nat} {base : Nat} (ha : a ∈ hexL) (hb : b ∈ hexL) (ht : text = [a.1, b.1]) (hbs : base = 16) (h : Q (.int ((16 * a.2 + b.2 : Nat) : Int) s.toks) { s with toks := s.toks + 1 }) :
    wpAny M A ((int_private% "intFromText") v text base) Q E s := by
  subst ht hbs
  exact wp_text16 ha hb h
theorem typeCall2 (a b : Value) : checkTypeCall "int" ⟨[a, b], []⟩ = pure () := by kernel_rfl
theorem newCall2 (a b : Value) : checkBuiltinCall "int.__new__" ⟨[.type "int", a, b], []⟩ = pure () := by kernel_rfl
set_option maxHeartbeats 4000000 in
theorem gives_hex {a b : Nat × Nat} {u t : Tok} (ha : a ∈ hexL) (hb : b ∈ hexL) : Gives (Builtin.«int.__new__» ⟨[.type "int", .str ⟨#[a.1, b.1]⟩ u, .int 16 t], []⟩) (.int ((16 * a.2 + b.2 : Nat) : Int)) :=
  .of_wp fun M A E s Q h => by
    obtain ⟨hp, g, d, tk, os⟩ := s
    have f1 := F.conv_sub_int
    have f2 := F.madeHere_int
    have f6 : typeOf (.str (⟨#[a.1, b.1]⟩ : Str) u) = pure (.type "str") := rfl
    have h1 := (hex_small a ha).1
    have h2 := (hex_small b hb).1
    have hall : (⟨#[a.1, b.1]⟩ : Str).cps.all (· < 128) = true := by simp [h1, h2]
    repeat (any_goals (first
      | assumption
      | ((with_reducible show wpAny _ _ ((int_private% "intFromText") _ _ _) _ _ _); refine wp_text16' ha hb (by rw [if_pos hall]) rfl ?_)
      | (with_reducible refine wpAny_ite_true (decide_eq_true hall) ?_)
      | wp_step))
    all_goals first | exact ⟨_, rfl, h⟩ | skip
theorem int_hex {prog : Program} {w : World} {A : Around} {E : Value → Shared → Prop} {s : Shared} {Q : Value → Shared → Prop} {a b : Nat × Nat} {u t : Tok} (ha : a ∈ hexL) (hb : b ∈ hexL) (h : Q (.int ((16 * a.2 + b.2 : Nat) : Int) s.toks) { s with toks := s.toks + 1 }) :
    wpAny (model prog w) A (call (.type "int") [.str ⟨#[a.1, b.1]⟩ u, .int 16 t]) Q E s :=
  callType_new F.called_int F.newNe_int (typeCall2 _ _) (newCall2 _ _) (fun obj => F.args_object_init_3 obj _ _) F.entry_int_new (gives_hex ha hb).meets (show (Made.int _).post _ s from ⟨rfl, h⟩)
end Mine
end P20
section P21
set_option maxRecDepth 100000
set_option Elab.async false
set_option autoImplicit false
set_option linter.unusedSimpArgs false
set_option linter.unusedVariables false
namespace Mine
open PySem PyProof.Rows
section
variable {P : Par} {n : Nat} {sc : Scope}
noncomputable def asciiS : Str := Str.ofString "ascii"
noncomputable def isAsc (x : Str) : Prop := ∀ c ∈ x.cps.toList, c < 128
noncomputable def wEncode : List AV → List AO → VP → Prop
  | [.str x, .str y], os, Q => y = asciiS ∧ isAsc x ∧ x.length ≤ 1000000 ∧ Q (.bytes (asBytes x)) os
  | _, _, _ => False
theorem op_encode : OpOk P n (fun vs => call (.builtin "str.encode") vs) wEncode := by
  intro c A s m ad vars os avs vs Q Q' E hc hA R rs hp hQ
  unfold wEncode at hp
  split at hp
  · obtain ⟨rfl, ha, hz, q⟩ := hp
    cases rs with | cons r1 rs => cases rs with | cons r2 rs => cases rs with | nil => cases r1; cases r2; exact encode_ascii ha (by lia  ) fun t' k => hQ.now R (.bytes _ _) q _
  · exact hp.elim
noncomputable def isAscB (b : Array UInt8) : Prop := ∀ c ∈ b.toList, c.toNat < 128
noncomputable def wDecode : List AV → List AO → VP → Prop
  | [.bytes b, .str y], os, Q => y = asciiS ∧ isAscB b ∧ b.size ≠ 0 ∧ b.size ≤ 4000000 ∧ Q (.str (ofBytes b)) os
  | _, _, _ => False
theorem op_decode : OpOk P n (fun vs => call (.builtin "bytes.decode") vs) wDecode := by
  intro c A s m ad vars os avs vs Q Q' E hc hA R rs hp hQ
  unfold wDecode at hp
  split at hp
  · obtain ⟨rfl, ha, h0, hz, q⟩ := hp
    cases rs with | cons r1 rs => cases rs with | cons r2 rs => cases rs with | nil => cases r1; cases r2; exact decode_ascii ha h0 (by lia  ) fun t' k => hQ.now R (.str _ _) q _
  · exact hp.elim
noncomputable def isB (a : AV) (_ : List AO) : Prop := ∃ x, a = .bytes x
theorem ev_bmeth {o : Expr} {name : String} {apos pos : Pos} {es : List Expr} {id : String} {p : WE} {q : WL} {w : List AV → List AO → VP → Prop}
    (slot : Slot "bytes" (Str.ofString name) id) (hty : typeOf (.builtin id) = pure (.type "method_descriptor"))
    (hp : EvE P n sc o p) (ha : EvL P n sc es q) (ho : OpOk P n (fun vs => call (.builtin id) vs) w)
    (hbase : ∀ env, attributeBase o (Str.ofString name) env (eval o env) = eval o env := by intro _; rfl)
    (hfew : ∀ env, ((backTo pos (starEach es env)).all (fun x => !x.1) && (backToKw pos (keywordEach [] env)).all (fun x => x.1.isSome) && decide (es.length + ([] : List Keyword).length + (if ([] : List Keyword).isEmpty then 0 else 1) < 30)) = true := by intro _; rfl)
    (hline : (apos.endLine == pos.line) = true := by rfl)
    (hst : ∀ env pos, (backTo pos (starEach es env)).any (·.1) = false := by intro _ _; rfl) : EvE P n sc (.Call (.Attribute o (Str.ofString name) apos) es [] pos) (wMeth isB p q w) :=
  ev_meth (T := "bytes") (fun c m ad vars os s a v R rv ⟨x, hx⟩ => by subst hx; cases rv; exact ⟨rfl, fun b e => nomatch e⟩) PySem.W.FB.plainAttrs_bytes slot hty hp ha ho hbase hfew hline hst
noncomputable def wLines : List AV → List AO → VP → Prop
  | [.str x], os, Q => x.length ≤ 1000000 ∧ (lineCuts x).length ≤ 1000000 ∧ Q (.ref os.length) (os ++ [.list ((Txt.lines x).map .str)])
  | _, _, _ => False
theorem op_lines : OpOk P n (fun vs => call (.builtin "str.splitlines") vs) wLines := by
  intro c A s m ad vars os avs vs Q Q' E hc hA R rs hp hQ
  unfold wLines at hp
  split at hp
  · obtain ⟨h1, h2, q⟩ := hp
    cases rs with | cons r1 rs => cases rs with | nil =>
      cases r1
      refine splitlinesN R.fr R.news (fun l h' k hl F N => ?_) (by rw [sizeLine_eq]; lia  ) (by rw [sizeLine_eq]; lia  )
      have rl := rvs_values (ad := ad) l
      rw [hl] at rl
      exact post_new (k := 0) R rl F N (fun p hp => Heap.lt_size ((allNews_news s.heap c.env.locals) p hp).1) q hQ
  · exact hp.elim
/-- a list of texts that stands at the top -/
noncomputable def TabAt (P : Par) (a : Addr) (tb : List Str) : Prop := ∀ h, P.GF h → ∃ us : List Value, h.IsList a us.toArray ∧ StrsAre us tb
noncomputable def wTrans (a : Addr) (tb : List Str) : List AV → List AO → VP → Prop
  | [.str x, .lit v], os, Q => v = .ref a ∧ (∀ c ∈ x.cps.toList, c < tb.length) ∧ trLen (fun c => tb.getD c Str.empty) x.cps.toList ≤ 1000000 ∧ Q (.str (trText (fun c => tb.getD c Str.empty) x.cps.toList)) os
  | _, _, _ => False
theorem op_trans {a : Addr} {tb : List Str} (hT : TabAt P a tb) (hn : tb.length ≤ 1000) : OpOk P n (fun vs => call (.builtin "str.translate") vs) (wTrans a tb) := by
  intro c A s m ad vars os avs vs Q Q' E hc hA R rs hp hQ
  unfold wTrans at hp
  split at hp
  · obtain ⟨rfl, h1, h2, q⟩ := hp
    cases rs with | cons r1 rs => cases rs with | cons r2 rs => cases rs with | nil =>
      cases r1; cases r2
      obtain ⟨us, hl, hs⟩ := hT _ (hc.gf _ R.keep)
      refine translate_wp hl (fun ch hch => ⟨by have := h1 ch hch; lia  , ?_⟩) (by lia  ) fun t' k => hQ.now R (.str _ _) q _
      have := h1 ch hch
      obtain ⟨t, e⟩ := hs.get ch (tb[ch]) (List.getElem?_eq_getElem this)
      refine ⟨t, ?_⟩
      rw [List.getD_eq_getElem?_getD, List.getElem?_eq_getElem this]
      exact e
  · exact hp.elim
/-- a text of such a list by its place -/
noncomputable def wTab (tb : List Str) (q : WE) : WE := fun σ Q => q σ fun i o => ∃ k : Nat, i = .int (k : Int) ∧ k < tb.length ∧ Q (.str (tb.getD k Str.empty)) o
theorem ev_tab {value slice : Expr} {pos : Pos} {a : Addr} {tb : List Str} {q : WE} (hT : TabAt P a tb) (hn : tb.length ≤ 1000) (hv : EvE P n sc value (wLit (.lit (.ref a)))) (hi : EvE P n sc slice q) (hs' : ∀ o i : Value, subscripted slice false o i = operate [o, i] (getItem o i) := by intro _ _; with_unfolding_all rfl) :
    EvE P n sc (.Subscript value slice pos) (wTab tb q) := fun c A s m ad σ Q Q' E hc hs hA R hp hQ => by
  refine Subscript_ (hv c A s m ad σ (fun b o => b = .lit (.ref a) ∧ o = σ.objs) _ _ hc hs hA R ⟨rfl, rfl⟩ fun h1 tk1 v1 ad1 os1 a1 R1 p1 r1 q1 => ?_)
  obtain ⟨rfl, rfl⟩ := q1
  cases r1
  refine hi c A _ m ad1 ⟨σ.vars, σ.objs⟩ _ _ _ hc hs hA R1 hp fun h2 tk2 v2 ad2 os2 a2 R2 p2 r2 q2 => ?_
  obtain ⟨k, rfl, hk, q⟩ := q2
  cases r2 with | int _ t =>
    obtain ⟨us, hl, hstr⟩ := hT _ (hc.gf _ R2.keep)
    obtain ⟨t', e⟩ := hstr.get k (tb[k]) (List.getElem?_eq_getElem hk)
    have e63 : (2 : Int) ^ 63 = 9223372036854775808 := by decide
    refine tail_any hl.typeIs PySem.slot_list_getitem.lookup ?_ (hs' _ _)
    refine wpAny_getItem_list (s := { s with heap := h2, toks := tk2 }) hl (Int.natCast_nonneg k) (by rw [e63]; lia  ) (x := .str tb[k] t') (by simpa using e) ?_
    have e2 : tb.getD k Str.empty = tb[k] := by rw [List.getD_eq_getElem?_getD, List.getElem?_eq_getElem hk]; rfl
    rw [e2] at q
    exact hQ h2 tk2 _ ad2 os2 _ R2 (p1.trans p2) (.str _ _) q
/-- a method of an object that stands at the top -/
theorem ev_methC {o : Expr} {name : String} {apos pos : Pos} {es : List Expr} {T id : String} {v : Value} {q : WL} {w : List AV → List AO → VP → Prop}
    (hT : ∀ s : Shared, P.GF s.heap → s.TypeIs v T ∧ ∀ b, v = .ref b → ∃ ob, s.heap.get? b = some ob ∧ ob.dict = none)
    (pa : PlainAttrs T) (slot : Slot T (Str.ofString name) id) (hty : typeOf (.builtin id) = pure (.type "method_descriptor"))
    (hp : EvE P n sc o (wLit (.lit v))) (ha : EvL P n sc es q) (ho : OpOk P n (fun vs => call (.builtin id) vs) w)
    (hbase : ∀ env, attributeBase o (Str.ofString name) env (eval o env) = eval o env := by intro _; rfl)
    (hfew : ∀ env, ((backTo pos (starEach es env)).all (fun x => !x.1) && (backToKw pos (keywordEach [] env)).all (fun x => x.1.isSome) && decide (es.length + ([] : List Keyword).length + (if ([] : List Keyword).isEmpty then 0 else 1) < 30)) = true := by intro _; rfl)
    (hline : (apos.endLine == pos.line) = true := by rfl)
    (hst : ∀ env pos, (backTo pos (starEach es env)).any (·.1) = false := by intro _ _; rfl) : EvE P n sc (.Call (.Attribute o (Str.ofString name) apos) es [] pos) (wCall q fun as o Q => w (.lit v :: as) o Q) := fun c A s m ad σ Q Q' E hc hs hA R h hQ => by
  refine wpAny_Call_method (hbase _) (hfew _) hline pa slot hty (hp c A s m ad σ (fun b o => b = .lit v ∧ o = σ.objs) _ _ hc hs hA R ⟨rfl, rfl⟩ fun h1 tk1 v1 ad1 os1 a1 R1 p1 r1 q1 => ?_)
  obtain ⟨rfl, rfl⟩ := q1
  cases r1
  obtain ⟨t1, t2⟩ := hT { s with heap := h1, toks := tk1 } (hc.gf _ R1.keep)
  exact ⟨t1, t2, callWith_av (fa := [.lit v]) (keeper_builtin id) ha ho hst hc hs hA R1 (.cons (.lit v) .nil) h (hQ.pre p1 h1 tk1)⟩
noncomputable def wSubst (aP : Addr) : List AV → List AO → VP → Prop
  | [.lit v, .bytes r, .bytes b], os, Q => v = .ref aP ∧ r = #[46, 46] ∧ b.size ≤ 2000000 ∧ Q (.bytes (stuffB b)) os
  | _, _, _ => False
theorem op_subst {aP aC : Addr} (hP : ∀ h, P.GF h → PatAt h aP aC) : OpOk P n (fun vs => call (.builtin "re.Pattern.sub") vs) (wSubst aP) := by
  intro c A s m ad vars os avs vs Q Q' E hc hA R rs hp hQ
  unfold wSubst at hp
  split at hp
  · obtain ⟨rfl, rfl, hz, q⟩ := hp
    cases rs with | cons r1 rs => cases rs with | cons r2 rs => cases rs with | cons r3 rs => cases rs with | nil =>
      cases r1; cases r2; cases r3
      exact sub_wp (hP _ (hc.gf _ R.keep)) (by lia  ) fun h' t' k hk => hQ h' k _ ad os _ (R.keeps hk) (List.prefix_refl _) (.bytes _ _) q
  · exact hp.elim
noncomputable def hexV (x : Str) : Option Int := match x.cps.toList with
  | [c, d] => match hexL.lookup c, hexL.lookup d with
    | some a, some b => some ((16 * a + b : Nat) : Int)
    | _, _ => none
  | _ => none
noncomputable def wHex : List AV → List AO → VP → Prop
  | [.str x, .int b], os, Q => b = 16 ∧ ∃ v, hexV x = some v ∧ Q (.int v) os
  | _, _, _ => False
theorem lookup_mem {α β : Type} [BEq α] [LawfulBEq α] {l : List (α × β)} {x : α} {v : β} (h : l.lookup x = some v) : (x, v) ∈ l := by
  induction l with
  | nil => simp at h
  | cons p r ih =>
    rw [List.lookup_cons] at h
    split at h
    · rename_i hb; cases h; rw [eq_of_beq hb]; exact List.mem_cons_self ..
    · exact List.mem_cons_of_mem _ (ih h)
theorem op_hex : OpOk P n (fun vs => call (.type "int") vs) wHex := by
  intro c A s m ad vars os avs vs Q Q' E hc hA R rs hp hQ
  unfold wHex at hp
  split at hp
  · rename_i x b
    obtain ⟨rfl, v, hv, q⟩ := hp
    cases rs with | cons r1 rs => cases rs with | cons r2 rs => cases rs with | nil =>
      cases r1; cases r2
      unfold hexV at hv
      split at hv
      · rename_i c1 d1 hx
        have hxe : x = ⟨#[c1, d1]⟩ := str_ext hx
        subst hxe
        split at hv
        · rename_i a b ha hb
          cases hv
          exact int_hex (lookup_mem ha) (lookup_mem hb) (hQ.now R (.int _ _) q _)
        · cases hv
      · cases hv
  · exact hp.elim
/-- str.capitalize, not called -/
theorem ev_strcap {np pos : Pos} (hf : EvE P n sc (.Name (Str.ofString "str") np) (wLit (.lit (.type "str")))) (he : ∀ env, eval (.Attribute (.Name (Str.ofString "str") np) (Str.ofString "capitalize") pos) env = (do
      let o ← eval (.Name (Str.ofString "str") np) env
      standAt pos.atName
      let r ← holding [o] (getAttr o (Str.ofString "capitalize") true)
      letTemporaryGo (.Name (Str.ofString "str") np) o r
      pure r) := by intro _; with_unfolding_all rfl) : EvE P n sc (.Attribute (.Name (Str.ofString "str") np) (Str.ofString "capitalize") pos) (wLit (.lit (.builtin "str.capitalize"))) := fun c A s m ad σ Q Q' E hc hs hA R hp hQ => by
  refine Attribute_any_ (hf c A s m ad σ (fun b o => b = .lit (.type "str") ∧ o = σ.objs) _ _ hc hs hA R ⟨rfl, rfl⟩ fun h1 tk1 v1 ad1 os1 a1 R1 p1 r1 q1 => ?_) (he _)
  obtain ⟨rfl, rfl⟩ := q1
  cases r1
  exact getAttr_cap (s := { s with heap := h1, toks := tk1 }) fun k => hQ h1 k _ ad1 _ _ R1 p1 (.lit _) hp
noncomputable def capK (x : Str) (Q : VP) : List AV → List AO → Prop := fun as o => ∃ (k : Nat) (ys : List Str), as = [.lit (.builtin "str.capitalize"), .ref k] ∧ o[k]? = some (.list (ys.map AV.str)) ∧ (∀ y ∈ ys, y.length ≤ 5592405) ∧ ys.length ≤ 16777216 ∧ JoinOk x (ys.map Txt.capitalize) = true ∧ Q (.str (Txt.join x (ys.map Txt.capitalize))) o
/-- o.join(map(str.capitalize, e)) -/
noncomputable def wCapJoin (p q : WE) : WE := fun σ Q => p σ fun a o1 => ∃ x, a = .str x ∧ wCons (wLit (.lit (.builtin "str.capitalize"))) (wCons q wNil) ⟨σ.vars, o1⟩ (capK x Q)
theorem ev_capjoin {o e : Expr} {mp sp cp mpos apos pos : Pos} {p q : WE} (ho : EvE P n sc o p) (he : EvE P n sc e q) (hm : EvE P n sc (.Name (Str.ofString "map") mp) (wLit (.lit (.type "map")))) (hstr : EvE P n sc (.Name (Str.ofString "str") sp) (wLit (.lit (.type "str"))))
    (hbase : ∀ env, attributeBase o (Str.ofString "join") env (eval o env) = eval o env := by intro _; rfl)
    (hline : (apos.endLine == pos.line) = true := by rfl)
    (hst1 : ∀ env, starEach [.Attribute (.Name (Str.ofString "str") sp) (Str.ofString "capitalize") cp, e] env = (false, eval (.Attribute (.Name (Str.ofString "str") sp) (Str.ofString "capitalize") cp) env) :: starEach [e] env := by intro _; rfl)
    (hst2 : ∀ env, starEach [e] env = (false, eval e env) :: starEach [] env := by intro _; rfl)
    (hst3 : ∀ env pos, (backTo pos (starEach [.Attribute (.Name (Str.ofString "str") sp) (Str.ofString "capitalize") cp, e] env)).any (·.1) = false := by intro _ _; rfl) :
    EvE P n sc (.Call (.Attribute o (Str.ofString "join") apos) [.Call (.Name (Str.ofString "map") mp) [.Attribute (.Name (Str.ofString "str") sp) (Str.ofString "capitalize") cp, e] [] mpos] [] pos) (wCapJoin p q) := fun c A s m ad σ Q Q' E hc hs hA R hp hQ => by
  refine wpAny_Call_method (hbase _) (by rfl) hline PySem.F.plainAttrs_str PySem.F.slot_str_join PySem.F.type_str_join (ho c A s m ad σ _ _ _ hc hs hA R hp fun h1 tk1 v1 ad1 os1 a1 R1 p1 r1 q1 => ?_)
  obtain ⟨x, rfl, q1⟩ := q1
  cases r1 with | str _ t =>
    refine ⟨typeIs_str _ _ _, (fun b e => nomatch e), ?_⟩
    refine PySem.W.callWith_of (P := P.GF) (by rfl) (keeper_builtin _) (evalArgs_any (by rfl) ?_)
    refine Calls.spliced_cons ?_
    have hargs : EvL P n sc [.Attribute (.Name (Str.ofString "str") sp) (Str.ofString "capitalize") cp, e] (wCons (wLit (.lit (.builtin "str.capitalize"))) (wCons q wNil)) := el_cons (ev_strcap hstr) (el_cons he el_nil hst2) hst1
    refine callI (K := capK x Q) hm (keeper_type "map") hargs hst3 hc hs hA R1 q1 fun h2 tk2 ad2 os2 as vs R2 p2 r2 q2 => ?_
    · obtain ⟨k, ys, rfl, hk, hy1, hy2, hok, q⟩ := q2
      cases r2 with | cons ra r2 => cases r2 with | cons rb r2 => cases r2 with | nil =>
        cases ra
        cases rb with | ref _ l el =>
          obtain ⟨us, hl, ru⟩ := (R2.obj hk el).list_at
          have hys := rvs_strs ru
          refine call_map hl fun h3 M keep3 hz3 => ?_
          have R3 := R2.keeps keep3
          refine Calls.spliced_nil ⟨hc.gf _ R3.keep, ?_⟩
          refine join_map (s := { s with heap := h3, toks := tk2 }) hA.1 M hys hy1 (by rw [hys.length]; exact hy2) hok fun h4 t' k' keep4 => ?_
          have fresh : h2.get? h2.objs.size = none := by
            cases e : h2.get? h2.objs.size with
            | none => rfl
            | some o => exact absurd (Heap.lt_size e) (Nat.lt_irrefl _)
          have R4 : Rel c m ad2 ⟨σ.vars, os2⟩ h4 := R2.keeps fun b o e => keep4 b o (fun q => by rw [q, fresh] at e; cases e) (keep3 b o e)
          exact hQ h4 k' _ ad2 os2 _ R4 (p1.trans p2) (.str _ _) q
/-- o.replace('..' + name, '..'): both texts are made here, so they are two -/
noncomputable def wRepl1 (a b : Str) (y : String) (p : WE) : WE := fun σ Q => p σ fun v o => ∃ x e, v = .str x ∧ σ.vars.lookup y = some (.str e) ∧ a.length ≠ 0 ∧ e.length ≠ 0 ∧ a ++ e ≠ b ∧ a.length + e.length ≤ 1000 ∧ x.length + (x.length + 1) * b.length ≤ 16777216 ∧ Q (.str (Txt.replace x (a ++ e) b)) o
theorem ev_repl1 {o : Expr} {a b : Str} {y : String} {k1 k2 : Nat} {ap yp bp pp apos pos : Pos} {p : WE} (hp : EvE P n sc o p)
    (hd : (Str.ofString y == ("__debug__" : Str)) = false := by decide +kernel) (hnc : (Str.ofString y == ("__classdict__" : Str)) = false := by decide +kernel)
    (hbase : ∀ env, attributeBase o (Str.ofString "replace") env (eval o env) = eval o env := by intro _; rfl)
    (hline : (apos.endLine == pos.line) = true := by rfl) :
    EvE P n sc (.Call (.Attribute o (Str.ofString "replace") apos) [.BinOp (.Constant (.str a) k1 ap) .Add (.Name (Str.ofString y) yp) bp, .Constant (.str b) k2 pp] [] pos) (wRepl1 a b y p) := fun c A s m ad σ Q Q' E hc hs hA R h hQ => by
  refine wpAny_Call_method (hbase _) (by rfl) hline PySem.F.plainAttrs_str PySem.F.slot_str_replace PySem.F.type_str_replace (hp c A s m ad σ _ _ _ hc hs hA R h fun h1 tk1 v1 ad1 os1 a1 R1 p1 r1 q1 => ?_)
  obtain ⟨x, e, rfl, hy, ha0, he0, hne, hz1, hz2, q⟩ := q1
  cases r1 with | str _ t =>
    refine ⟨typeIs_str _ _ _, (fun b e => nomatch e), ?_⟩
    refine PySem.W.callWith_of (P := P.GF) (by rfl) (keeper_builtin _) (evalArgs_any (by rfl) ?_)
    refine Calls.spliced_cons (wpAny_BinOp (Calls.Constant_str ?_))
    refine wpAny_Name (load_var y hc (m := m) (ad := ad1) (σ := ⟨σ.vars, os1⟩) (s := { s with heap := h1, toks := tk1 + 1 }) R1 hy hnc fun v rv => ?_) hd
    cases rv with | str _ te =>
      refine PySem.P.add_str ?_
      rw [if_neg (by simpa using ha0), if_neg (by simpa using he0)]
      refine ⟨by show (a ++ e).length ≤ sizeLine; rw [sizeLine_eq, Str.length_append]; lia  , ?_⟩
      refine Calls.spliced_cons (Calls.Constant_str (k := k2) (pos := pp) (Calls.spliced_nil ⟨hc.gf _ R1.keep, ?_⟩))
      refine SC.replace (Nat.succ_ne_zero _) (Nat.succ_ne_zero _) (Nat.ne_of_lt (Nat.lt_succ_self _)) (beq_eq_false_iff_ne.mpr hne) hz2 fun t' k => ?_
      exact hQ h1 k _ ad1 os1 _ R1 p1 (.str _ _) q
end
end Mine
end P21
section P22
set_option maxRecDepth 100000
set_option Elab.async false
set_option autoImplicit false
set_option linter.unusedVariables false
namespace Mine
open PySem PyProof.Rows
noncomputable def wCmp (p q : WE) (w : List AV → List AO → VP → Prop) : WB := fun σ Q => wOp2 p q w σ fun a o => ∃ b, a = .bool b ∧ Q b o
noncomputable def wVal (p : WE) : WB := fun σ Q => p σ fun a o1 => (∀ x, a = .str x → x.length < 2 ^ 63) ∧ ∃ b, aTruth a o1 = some b ∧ Q b o1
noncomputable def wAugItem2 (q r p : WE) (w : List AV → List AO → VP → Prop) : WS := fun σ Q => q σ fun a o1 => (∃ k, a = .ref k) ∧ r ⟨σ.vars, o1⟩ fun k o2 => wItem a k o2 fun old o3 => p ⟨σ.vars, o3⟩ fun b o4 => w [old, b] o4 fun x o5 => wStore σ.vars a k x o5 fun o6 => Q .next ⟨σ.vars, o6⟩
noncomputable def compOkB (scope sc : Scope) (fr : List String) (tg : Tg) : Bool :=
  (match scope.kind with | .function => true | _ => false) && scope.names.all (fun z => scope.names.lookup z.1 == some z.2) && scope.names.all (fun z => !(z.2 == .free) || fr.any fun x => z.1 == Str.ofString x) &&
  fr.all (fun x => scope.names.lookup (Str.ofString x) == some .free && (sc.names.lookup (Str.ofString x) == some .cell || sc.names.lookup (Str.ofString x) == some .free)) &&
  (match tg with | .one x => st x | .two x y => st x && st y)
where st (x : String) : Bool := (relab scope sc).names.lookup (Str.ofString x) == some .local || ((relab scope sc).names.lookup (Str.ofString x) == some .cell && !(scope.names.lookup (Str.ofString x) == some .free))
theorem st_of {scope sc : Scope} {x : String} (h : compOkB.st scope sc x = true) : Stor (relab scope sc) (fun x => scope.names.lookup x == some .free) x := by
  unfold compOkB.st at h
  rcases Bool.or_eq_true _ _ |>.mp h with h | h
  · exact .inl (eq_of_beq h)
  · obtain ⟨a, b⟩ := Bool.and_eq_true_iff.mp h
    exact .inr ⟨eq_of_beq a, by simpa using b⟩
theorem compOk_of {scope sc : Scope} {fr : List String} {tg : Tg} (h : compOkB scope sc fr tg = true) : CompOk scope sc fr tg := by
  unfold compOkB at h
  simp only [Bool.and_eq_true, List.all_eq_true] at h
  obtain ⟨⟨⟨⟨h1, h2⟩, h3⟩, h4⟩, h5⟩ := h
  refine ⟨?_, fun z hz => eq_of_beq (h2 z hz), fun z hz hf => ?_, fun x hx => ?_, ?_⟩
  · revert h1; cases scope.kind <;> simp
  · have := h3 z hz
    rw [hf] at this
    simp only [beq_self_eq_true, Bool.not_true, Bool.false_or, List.any_eq_true] at this
    obtain ⟨x, hx, e⟩ := this
    exact ⟨x, hx, eq_of_beq e⟩
  · have := h4 x hx
    rw [Bool.or_eq_true] at this
    exact ⟨eq_of_beq this.1, this.2.imp (fun h => eq_of_beq h) fun h => eq_of_beq h⟩
  · cases tg with
    | one x => exact st_of h5
    | two x y => obtain ⟨a, b⟩ := Bool.and_eq_true_iff.mp h5; exact ⟨st_of a, st_of b⟩
theorem OpOk.mono {P : Par} {n : Nat} {t : List Value → Sem Value} {w w' : List AV → List AO → VP → Prop} (h : OpOk P n t w) (hw : ∀ as os Q, w' as os Q → w as os Q) : OpOk P n t w' :=
  fun c A s m ad vars os avs vs Q Q' E hc hA R rs hp hQ => h c A s m ad vars os avs vs Q Q' E hc hA R rs (hw _ _ _ hp) hQ
theorem OpOk.le {P : Par} {n k : Nat} {t : List Value → Sem Value} {w : List AV → List AO → VP → Prop} (h : OpOk P n t w) (hn : n ≤ k) : OpOk P k t w :=
  fun c A s m ad vars os avs vs Q Q' E hc hA R rs hp hQ => h c A s m ad vars os avs vs Q Q' E hc (hA.le hn) R rs hp hQ
/-- '..' + name.replace('..', '..') -/
noncomputable def wRepl2 (c0 c1 c2 : Str) (y : String) : WE := fun σ Q => ∃ e, σ.vars.lookup y = some (.str e) ∧ c1 ≠ c2 ∧ e.length + (e.length + 1) * c2.length ≤ 16777216 ∧ c0.length + (Txt.replace e c1 c2).length ≤ 16777216 ∧ Q (.str (c0 ++ Txt.replace e c1 c2)) σ.objs
theorem ev_repl2 {P : Par} {n : Nat} {sc : Scope} {c0 c1 c2 : Str} {y : String} {k0 k1 k2 : Nat} {p0 p1 p2 yp apos pos bp : Pos}
    (hd : (Str.ofString y == ("__debug__" : Str)) = false := by decide +kernel) (hnc : (Str.ofString y == ("__classdict__" : Str)) = false := by decide +kernel)
    (hbase : ∀ env, attributeBase (.Name (Str.ofString y) yp) (Str.ofString "replace") env (eval (.Name (Str.ofString y) yp) env) = eval (.Name (Str.ofString y) yp) env := by intro _; rfl)
    (hline : (apos.endLine == pos.line) = true := by rfl) :
    EvE P n sc (.BinOp (.Constant (.str c0) k0 p0) .Add (.Call (.Attribute (.Name (Str.ofString y) yp) (Str.ofString "replace") apos) [.Constant (.str c1) k1 p1, .Constant (.str c2) k2 p2] [] pos) bp) (wRepl2 c0 c1 c2 y) := fun c A s m ad σ Q Q' E hc hs hA R h hQ => by
  obtain ⟨e, hy, hne, hz1, hz2, q⟩ := h
  refine wpAny_BinOp (Calls.Constant_str (k := k0) (pos := p0) ?_)
  refine wpAny_Call_method (hbase _) (by rfl) hline PySem.F.plainAttrs_str PySem.F.slot_str_replace PySem.F.type_str_replace (wpAny_Name (load_var y hc (m := m) (ad := ad) (σ := σ) (s := { s with toks := s.toks + 1 }) R hy hnc fun v rv => ?_) hd)
  cases rv with | str _ te =>
    refine ⟨typeIs_str _ _ _, (fun b e => nomatch e), ?_⟩
    refine PySem.W.callWith_of (P := P.GF) (by rfl) (keeper_builtin _) (evalArgs_any (by rfl) ?_)
    refine Calls.spliced_cons (Calls.Constant_str (k := k1) (pos := p1) ?_)
    refine Calls.spliced_cons (Calls.Constant_str (k := k2) (pos := p2) (Calls.spliced_nil ⟨hc.gf _ R.keep, ?_⟩))
    refine SC.replace (Nat.succ_ne_zero _) (Nat.succ_ne_zero _) (Nat.ne_of_lt (Nat.lt_succ_self _)) (beq_eq_false_iff_ne.mpr hne) hz1 fun t' k => ?_
    refine SB.add (fun t' k => ?_) (by rw [sizeLine_eq]; exact hz2)
    exact hQ.now R (.str _ _) q _
theorem swaps_true {elt : Expr} {gens : List Comprehension} {scope : Scope} {pos xp : Pos} {x : Str} {l : Nat} {env : Env} {sc : Scope} (he : env.scope = sc) (hb : sc.kind = .function) (hx : (sc.names.lookup x == some .local) = true) (hl : (xp.line == pos.line) = true)
    (hn : (scope.names.any fun z => z.1 == x && (z.2 == .local || z.2 == .cell)) = false) : swapsWith (.ListComp elt gens scope pos) (some (.Name x xp)) l env = pure true := by
  show (pure (env.blockKind == .function && env.kindOf x == some .local && xp.line == pos.line && !(scope.names.any fun z => z.1 == x && (z.2 == .local || z.2 == .cell))) : Sem Bool) = _
  unfold Env.kindOf Env.blockKind
  rw [he, hb, hx, hl, hn]
  rfl
noncomputable def wRaise : WS := fun _ _ => False
theorem ex_raise {P : Par} {n : Nat} {sc : Scope} {st : Stmt} : EvX P n sc st wRaise := fun c A s m ad σ Q Q' E hc hs hcp hA R hp hQ => hp.elim
/-- a contract of a function from its walk -/
theorem fn_contract {P : Par} {n : Nat} {F : Addr} {fd : FuncData} {body : List Stmt} {sc : Scope} {p : WS} {w : List AV → List AO → VP → Prop} (H : FnAt P F fd body) (hs : fd.scope = sc) (hb : EvS P n sc body p)
    (hw : ∀ as os Q, w as os Q → ∃ bs : List (String × AV), Bnd P fd as bs ∧ OkB sc bs ∧ p ⟨⟨bs, os.length⟩, os⟩ fun fl σ' => Q (retOf fl) σ'.objs) : OpOk P (n + 1) (fun vs => call (.ref F) vs) w := by
  subst hs
  exact OpOk.mono (fn_ok H hb) fun as os Q h => hw as os Q h
theorem bnd1 {P : Par} {fd : FuncData} {a : AV} {x : String} (h : ∀ v, bindArgs fd ⟨[v], []⟩ = pure [(Str.ofString x, v)]) : Bnd P fd [a] [(x, a)] := fun s ad vs _ rs => by
  cases rs with | cons r rs => cases rs with | nil => exact ⟨_, .of_eq (h _), .cons r .nil⟩
theorem bnd5 {P : Par} {fd : FuncData} {a b c d e : AV} {x y z u w : String} (h : ∀ v1 v2 v3 v4 v5, bindArgs fd ⟨[v1, v2, v3, v4, v5], []⟩ = pure [(Str.ofString x, v1), (Str.ofString y, v2), (Str.ofString z, v3), (Str.ofString u, v4), (Str.ofString w, v5)]) : Bnd P fd [a, b, c, d, e] [(x, a), (y, b), (z, c), (u, d), (w, e)] := fun s ad vs _ rs => by
  cases rs with | cons r rs => cases rs with | cons r2 rs => cases rs with | cons r3 rs => cases rs with | cons r4 rs => cases rs with | cons r5 rs => cases rs with | nil => exact ⟨_, .of_eq (h _ _ _ _ _), .cons r (.cons r2 (.cons r3 (.cons r4 (.cons r5 .nil))))⟩
noncomputable def okBB (sc : Scope) (xs : List String) : Bool := decide ((xs.map Str.ofString).Nodup) && xs.all fun x => sc.names.lookup (Str.ofString x) == some .local || sc.names.lookup (Str.ofString x) == some .cell
theorem okB_of {sc : Scope} {bs : List (String × AV)} (h : okBB sc (bs.map (·.1)) = true) : OkB sc bs := by
  unfold okBB at h
  rw [Bool.and_eq_true, decide_eq_true_iff, List.all_eq_true] at h
  refine ⟨?_, fun p hp => ?_⟩
  · rw [List.map_map] at h; exact h.1
  · have := h.2 p.1 (List.mem_map_of_mem hp)
    rw [Bool.or_eq_true] at this
    exact this.imp (fun h => eq_of_beq h) fun h => eq_of_beq h
theorem keeper_fn {P : Par} {F : Addr} {fd : FuncData} {body : List Stmt} (H : FnAt P F fd body) : KeeperOk P (.ref F) := fun h k => by
  obtain ⟨o, ho, hd⟩ := H.at_ h k
  refine ⟨.frame, .inl rfl, fun A Q E s ks q => ?_⟩
  simp only [keeperOf]
  refine wpAny_bind (wpAny_load (ks _ _ ho) ?_)
  rw [hd]
  exact wpAny_pure q
end Mine
end P22
section P23
set_option maxRecDepth 100000
set_option Elab.async false
set_option autoImplicit false
set_option linter.unusedVariables false
set_option linter.unusedSimpArgs false
namespace Mine
open PySem PySem.Builtin PySem.Builtin.Str
noncomputable def tx (l : List Nat) : Str := ⟨l.toArray⟩
@[simp] theorem tx_cps (l : List Nat) : (tx l).cps.toList = l := rfl
@[simp] theorem tx_len (l : List Nat) : (tx l).length = l.length := by simp [tx, Str.length]
theorem tx_app (l r : List Nat) : tx l ++ tx r = tx (l ++ r) := str_ext (by show (l.toArray ++ r.toArray).toList = l ++ r; simp)
theorem tx_inj {l r : List Nat} : tx l = tx r ↔ l = r := ⟨fun h => by have := congrArg (fun z => z.cps.toList) h; simpa using this, fun h => by rw [h]⟩
theorem tx_dec (l r : List Nat) : decide (tx l = tx r) = decide (l = r) := by simp [tx_inj]
theorem tx_item (l : List Nat) {i : Nat} {c : Nat} (h : l[i]? = some c) : Txt.item (tx l) (i : Int) = tx [c] := by
  have hi : i < l.length := (List.getElem?_eq_some_iff.mp h).1
  unfold Txt.item Txt.charAt
  rw [StrLaws.seqIndex_nonneg (by lia  ) (by rw [tx_len]; lia  )]
  simp [tx, h]
theorem tx_item_last (l : List Nat) (c : Nat) : Txt.item (tx (l ++ [c])) (-1) = tx [c] := by
  unfold Txt.item Txt.charAt
  rw [StrLaws.seqIndex_neg (by lia  ) (by rw [tx_len]; simp; lia  )]
  simp only [tx_len, List.length_append, List.length_singleton]
  have : ((-1 : Int) + ((l.length + 1 : Nat) : Int)).toNat = l.length := by lia  
  rw [this]
  simp [tx]
theorem slice_text (x : Str) (l u : Option Int) : Txt.slice x l u = StrLaws.sliceText x l u := rfl
theorem sliceIdx_min (a b n : Nat) : strSliceIndices (some (a : Int)) (some (b : Int)) 1 n = strSliceIndices (some ((min a n : Nat) : Int)) (some ((min b n : Nat) : Int)) 1 n := by
  unfold strSliceIndices
  have e : ∀ k : Nat, (if ((k : Nat) : Int) < 0 then ((k : Nat) : Int) + (n : Int) else (k : Int)) = k := fun k => if_neg (by lia  )
  simp only [e]
  have f : ∀ k : Nat, max (0 : Int) (min (k : Int) (n : Int)) = ((min k n : Nat) : Int) := fun k => by lia  
  simp only [show (1 : Int) > 0 by decide, if_true, f, Nat.min_assoc, Nat.min_self]
theorem sliceIdx_none {a b n : Nat} (h : b ≤ a) : strSliceIndices (some (a : Int)) (some (b : Int)) 1 n = [] := by
  unfold strSliceIndices sliceRange
  have e : ∀ k : Nat, (if ((k : Nat) : Int) < 0 then ((k : Nat) : Int) + (n : Int) else (k : Int)) = k := fun k => if_neg (by lia  )
  simp only [e]
  have f : ∀ k : Nat, max (0 : Int) (min (k : Int) (n : Int)) = ((min k n : Nat) : Int) := fun k => by lia  
  simp only [show (1 : Int) > 0 by decide, if_true, f]
  have g : min b n ≤ min a n := by lia  
  simp
  split <;> lia  
theorem tx_slice (l : List Nat) (a b : Nat) : Txt.slice (tx l) (some (a : Int)) (some (b : Int)) = tx ((l.drop a).take (b - a)) := by
  rw [slice_text]
  unfold StrLaws.sliceText
  by_cases h : b ≤ a
  · rw [sliceIdx_none h, Nat.sub_eq_zero_of_le h]
    split
    · rename_i q
      simp at q
      have : l = [] := by simpa [tx, Str.length] using q.symm
      subst this; rfl
    · simp [tx]
  · rw [sliceIdx_min]
    have := StrLaws.sliceText_nat (tx l) (a := min a (tx l).length) (b := min b (tx l).length) (by lia  ) (by lia  )
    unfold StrLaws.sliceText at this
    rw [this]
    refine str_ext ?_
    simp only [tx_cps, tx_len]
    by_cases ha : l.length ≤ a
    · simp [Nat.min_eq_right ha, List.drop_eq_nil_of_le ha]
    · rw [Nat.min_eq_left (by lia   : a ≤ l.length)]
      by_cases hb : b ≤ l.length
      · rw [Nat.min_eq_left hb]
      · rw [Nat.min_eq_right (by lia  ), List.take_of_length_le (by simp), List.take_of_length_le (by simp; lia  )]
theorem tx_slice_to (l : List Nat) (b : Nat) : Txt.slice (tx l) none (some (b : Int)) = tx (l.take b) := by
  have e : Txt.slice (tx l) none (some (b : Int)) = Txt.slice (tx l) (some ((0 : Nat) : Int)) (some (b : Int)) := by rw [slice_text, slice_text]; unfold StrLaws.sliceText; rw [StrLaws.sliceIdx_none_lo]; rfl
  rw [e, tx_slice]; simp
theorem tx_slice_from (l : List Nat) (a : Nat) : Txt.slice (tx l) (some (a : Int)) none = tx (l.drop a) := by
  have e : Txt.slice (tx l) (some (a : Int)) none = Txt.slice (tx l) (some (a : Int)) (some ((l.length : Nat) : Int)) := by rw [slice_text, slice_text]; unfold StrLaws.sliceText; rw [StrLaws.sliceIdx_none_hi]; simp
  rw [e, tx_slice, List.take_of_length_le (by simp)]
theorem tx_slice_last (l : List Nat) (c : Nat) (a : Nat) : Txt.slice (tx (l ++ [c])) (some (a : Int)) (some (-1)) = tx (l.drop a) := by
  have e : Txt.slice (tx (l ++ [c])) (some (a : Int)) (some (-1)) = Txt.slice (tx (l ++ [c])) (some (a : Int)) (some ((l.length : Nat) : Int)) := by
    rw [slice_text, slice_text, StrLaws.sliceText_neg_hi _ _ (by lia  ) (by rw [tx_len]; simp; lia  )]
    congr 2
    rw [tx_len]; simp; lia  
  rw [e, tx_slice]
  congr 1
  by_cases h : a ≤ l.length
  · rw [List.drop_append_of_le_length h, List.take_left' (by simp)]
  · rw [List.drop_eq_nil_of_le (as := l) (by lia  )]
    simp; lia  
noncomputable def joinL (s : List Nat) : List (List Nat) → List Nat
  | [] => []
  | [p] => p
  | p :: q :: r => p ++ s ++ joinL s (q :: r)
theorem joinL_cons (s p : List Nat) (q : List (List Nat)) (h : q ≠ []) : joinL s (p :: q) = p ++ s ++ joinL s q := by
  cases q with
  | nil => exact absurd rfl h
  | cons => rfl
theorem tx_join (s : List Nat) (ps : List (List Nat)) : Txt.join (tx s) (ps.map tx) = tx (joinL s ps) := by
  unfold Txt.join
  rw [StrLaws.glued_eq_join]
  induction ps with
  | nil => rfl
  | cons p r ih =>
    cases r with
    | nil => rfl
    | cons q r =>
      show tx p ++ tx s ++ Str.join (tx s) ((q :: r).map tx) = _
      rw [ih, tx_app, tx_app]
      rfl
theorem joinL_nil (ps : List (List Nat)) : joinL [] ps = ps.flatten := by
  induction ps with
  | nil => rfl
  | cons p r ih =>
    cases r with
    | nil => simp [joinL]
    | cons q r => rw [joinL_cons _ _ _ (by simp), ih]; simp
/-- y does not begin at a place of p, ahead of t -/
noncomputable def NoAt (y p t : List Nat) : Prop := ∀ k, k < p.length → ¬ y <+: (p ++ t).drop k
inductive Cut (y : List Nat) : List Nat → List (List Nat) → Prop
  | last (p : List Nat) (h : NoAt y p []) : Cut y p [p]
  | cons (p r : List Nat) (ps : List (List Nat)) (h : NoAt y p (y ++ r)) (t : Cut y r ps) : Cut y (p ++ (y ++ r)) (p :: ps)
theorem at_iff {x y : List Nat} (hy : y ≠ []) {i : Nat} : StrLaws.At (tx x) (tx y) (tx x).length i ↔ y <+: x.drop i := by
  unfold StrLaws.At
  rw [StrLaws.subAt_eq]
  simp only [tx_cps, tx_len, beq_iff_eq]
  constructor
  · rintro ⟨_, h⟩; exact h ▸ List.take_prefix _ _
  · intro h
    have h1 := h.length_le
    have h2 : 0 < y.length := List.length_pos_iff.mpr hy
    rw [List.length_drop] at h1
    exact ⟨by lia  , (List.prefix_iff_eq_take.mp h).symm⟩
theorem Cut.ne {y l : List Nat} {ps : List (List Nat)} (h : Cut y l ps) : ps ≠ [] := by cases h <;> simp
theorem parts_cut {x y : List Nat} (hy : y ≠ []) : ∀ (cuts : List Nat) (a f : Nat) (ps : List (List Nat)), StrLaws.ChainG (tx x) (tx y) (tx x).length a cuts f → (∀ k, f ≤ k → ¬ StrLaws.At (tx x) (tx y) (tx x).length k) → a ≤ x.length → Cut y (x.drop a) ps →
    StrLaws.partsFrom (tx x) y.length a cuts = ps.map tx ∧ ps.length = cuts.length + 1
  | [], a, f, ps, hg, hn, ha, hc => by
    have hf : f = a := hg
    subst hf
    generalize hd : x.drop f = d at hc
    cases hc with
    | last _ h =>
      refine ⟨?_, rfl⟩
      show [strSub (tx x) f (tx x).length] = [tx d]
      refine congrArg (fun z => [z]) (str_ext ?_)
      rw [StrLaws.strSub_toList, tx_cps, tx_cps, hd, tx_len, List.take_of_length_le (by rw [← hd]; simp)]
    | cons p r ps h t =>
      exfalso
      refine hn (f + p.length) (by lia  ) ((at_iff hy).mpr ?_)
      rw [← List.drop_drop, hd, List.drop_left' rfl]
      exact List.prefix_append _ _
  | c :: cs, a, f, ps, hg, hn, ha, hc => by
    obtain ⟨h1, h2, h3, h4⟩ := hg
    rw [at_iff hy] at h2
    generalize hd : x.drop a = d at hc
    have hca : x.drop c = d.drop (c - a) := by rw [← hd, List.drop_drop, Nat.add_sub_cancel' h1]
    have hylen : 0 < y.length := List.length_pos_iff.mpr hy
    cases hc with
    | last _ h =>
      exfalso
      have hl : c - a < d.length := by
        have := h2.length_le
        rw [hca, List.length_drop] at this
        lia  
      exact h (c - a) hl (by rw [List.append_nil, ← hca]; exact h2)
    | cons p r ps h t =>
      have e : c = a + p.length := by
        rcases Nat.lt_trichotomy c (a + p.length) with q | q | q
        · exfalso
          exact h (c - a) (by lia  ) (by rw [← hca]; exact h2)
        · exact q
        · exfalso
          refine h3 (a + p.length) (by lia  ) q ((at_iff hy).mpr ?_)
          rw [← List.drop_drop, hd, List.drop_left' rfl]
          exact List.prefix_append _ _
      subst e
      have hr : x.drop (a + p.length + y.length) = r := by
        rw [← List.drop_drop, ← List.drop_drop, hd, List.drop_left' rfl, List.drop_left' rfl]
      have hle : a + p.length + y.length ≤ x.length := by
        have := congrArg List.length hd
        rw [List.length_drop, List.length_append, List.length_append] at this
        lia  
      obtain ⟨i1, i2⟩ := parts_cut hy cs (a + p.length + y.length) f ps (by rw [tx_len] at h4; exact h4) hn hle (by rw [hr]; exact t)
      refine ⟨?_, by simp [i2]⟩
      show strSub (tx x) a (a + p.length) :: StrLaws.partsFrom (tx x) y.length (a + p.length + y.length) cs = tx p :: ps.map tx
      rw [i1]
      refine congrArg (· :: ps.map tx) (str_ext ?_)
      rw [StrLaws.strSub_toList, tx_cps, tx_cps, hd, Nat.add_sub_cancel_left, List.take_left' rfl]
theorem cut_parts {x y : List Nat} {ps : List (List Nat)} (hy : y ≠ []) (h : Cut y x ps) : partsBetween (tx x) (occurrences (tx x) (tx y) 0 (tx x).length ((tx x).length + 1)) (tx y).length = ps.map tx ∧ ps.length = (occurrences (tx x) (tx y) 0 (tx x).length ((tx x).length + 1)).length + 1 := by
  obtain ⟨f, h1, h2⟩ := StrLaws.occ_tight (tx x) (tx y) (by rw [tx_len]; exact List.length_pos_iff.mpr hy)
  rw [StrLaws.partsBetween_eq, tx_len y]
  exact parts_cut hy _ 0 f ps h1 h2 (Nat.zero_le _) h
theorem cut_count {x y : List Nat} {ps : List (List Nat)} (hy : y ≠ []) (h : Cut y x ps) : Txt.count (tx x) (tx y) = ((ps.length - 1 : Nat) : Int) := by
  obtain ⟨_, h2⟩ := cut_parts hy h
  unfold Txt.count
  rw [h2]; simp
theorem cut_one {x y : List Nat} {ps : List (List Nat)} (h : Cut y x ps) (hl : ps.length = 1) : ps = [x] := by
  cases h with
  | last => rfl
  | cons p r ps _ t => exact absurd (List.length_eq_zero_iff.mp (by simpa using hl)) t.ne
theorem cut_replace {x y z : List Nat} {ps : List (List Nat)} (hy : y ≠ []) (h : Cut y x ps) : Txt.replace (tx x) (tx y) (tx z) = tx (joinL z ps) := by
  obtain ⟨h1, h2⟩ := cut_parts hy h
  unfold Txt.replace
  split
  · rename_i q
    have : ps.length = 1 := by
      rw [Bool.or_eq_true] at q
      rcases q with q | q
      · rw [h2, List.isEmpty_iff.mp q]; rfl
      · rw [Bool.and_eq_true, tx_len] at q
        exact absurd (List.length_eq_zero_iff.mp (eq_of_beq q.1)) hy
    rw [cut_one h this]; rfl
  · rw [h1]; exact tx_join z ps
theorem cut_split {x y : List Nat} {ps : List (List Nat)} (hy : y ≠ []) (h : Cut y x ps) (hk : ¬ strKind (tx x) < strKind (tx y)) : Txt.split (tx x) (tx y) = ps.map tx := by
  obtain ⟨h1, h2⟩ := cut_parts hy h
  unfold Txt.split
  split
  · rename_i q
    rw [Bool.or_eq_true, decide_eq_true_iff, decide_eq_true_iff] at q
    rcases q with q | q
    · cases h with
      | last => rfl
      | cons p r ps _ t => rw [tx_len, tx_len] at q; simp at q; lia  
    · exact absurd q hk
  · split
    · rename_i q
      rw [cut_one h (by rw [h2, List.isEmpty_iff.mp q]; rfl)]; rfl
    · exact h1
theorem kind_le {x y : List Nat} (h : ∀ c ∈ y, c < 256) : ¬ strKind (tx x) < strKind (tx y) := by
  have : strKind (tx y) = 1 := by
    unfold Str.strKind
    rw [if_pos]
    show y.toArray.all _ = true
    simpa using h
  rw [this]
  unfold Str.strKind
  split
  · lia  
  · split <;> lia  
theorem cut_contains {x y : List Nat} (hy : y ≠ []) : Txt.contains (tx x) (tx y) = true ↔ ∃ i, y <+: x.drop i := by
  unfold Txt.contains
  rw [StrLaws.found_iff]
  exact ⟨fun ⟨i, h⟩ => ⟨i, (at_iff hy).mp h⟩, fun ⟨i, h⟩ => ⟨i, (at_iff hy).mpr h⟩⟩
theorem prefix_get {y l : List Nat} (h : y <+: l) {j : Nat} (hj : j < y.length) : l[j]? = y[j]? := by
  obtain ⟨t, rfl⟩ := h
  rw [List.getElem?_append_left hj]
theorem noAt_one {y p t : List Nat} {a j : Nat} (hj : y[j]? = some a) (h : ∀ k, k < p.length → (p ++ t)[k + j]? ≠ some a) : NoAt y p t := fun k hk hp => by
  have h1 := prefix_get hp (j := j) (List.getElem?_eq_some_iff.mp hj).1
  rw [List.getElem?_drop, hj] at h1
  exact h k hk h1
theorem noAt_head {y p t : List Nat} {a : Nat} {y' : List Nat} (hy : y = a :: y') (h : a ∉ p) : NoAt y p t := noAt_one (j := 0) (a := a) (by rw [hy]; rfl) fun k hk e => by
  rw [Nat.add_zero, List.getElem?_append_left hk] at e
  exact h (List.mem_of_getElem? e)
/-- no a with a b behind it -/
noncomputable def noPair (a b : Nat) : List Nat → Bool
  | [] => true
  | [_] => true
  | c :: d :: r => !(c == a && d == b) && noPair a b (d :: r)
theorem noPair_get {a b : Nat} : ∀ {l : List Nat}, noPair a b l = true → ∀ k, l[k]? = some a → l[k + 1]? = some b → False
  | [], _, k, h, _ => by simp at h
  | [_], _, k, h, h2 => by simp at h2
  | c :: d :: r, h, k, h1, h2 => by
    unfold noPair at h
    rw [Bool.and_eq_true] at h
    cases k with
    | zero => simp at h1 h2; rw [h1, h2] at h; simp at h
    | succ k => exact noPair_get h.2 k (by simpa using h1) (by simpa using h2)
theorem noPair_of {a b : Nat} : ∀ {l : List Nat}, (∀ k, l[k]? = some a → l[k + 1]? ≠ some b) → noPair a b l = true
  | [], _ => rfl
  | [_], _ => rfl
  | c :: d :: r, h => by
    unfold noPair
    rw [Bool.and_eq_true]
    refine ⟨?_, noPair_of fun k h1 h2 => h (k + 1) (by simpa using h1) (by simpa using h2)⟩
    by_cases q : c = a
    · have := h 0 (by simp [q])
      simp at this
      simp [this]
    · simp [q]
theorem noPair_app {a b : Nat} : ∀ {l r : List Nat}, noPair a b l = true → noPair a b r = true → (l.getLast? ≠ some a ∨ r.head? ≠ some b) → noPair a b (l ++ r) = true
  | [], r, _, h, _ => h
  | [c], [], _, _, _ => rfl
  | [c], d :: r, _, h, q => by
    show (!(c == a && d == b) && noPair a b (d :: r)) = true
    rw [h, Bool.and_true]
    rcases q with q | q
    · have : c ≠ a := by simpa using q
      simp [this]
    · have : d ≠ b := by simpa using q
      simp [this]
  | c :: d :: l, r, h, h2, q => by
    unfold noPair at h
    rw [Bool.and_eq_true] at h
    show (!(c == a && d == b) && noPair a b ((d :: l) ++ r)) = true
    rw [h.1, noPair_app h.2 h2 (by rwa [List.getLast?_cons_cons] at q)]
    rfl
theorem noAt_pair {y p t : List Nat} {a b j : Nat} (hj : y[j]? = some a) (hj2 : y[j + 1]? = some b) (h : noPair a b (p ++ t.take (j + 1)) = true) : NoAt y p t := fun k hk hp => by
  have h1 := prefix_get hp (j := j) (List.getElem?_eq_some_iff.mp hj).1
  have h2 := prefix_get hp (j := j + 1) (List.getElem?_eq_some_iff.mp hj2).1
  rw [List.getElem?_drop, hj] at h1
  rw [List.getElem?_drop, hj2] at h2
  have e : ∀ i, i < p.length + (j + 1) → (p ++ t.take (j + 1))[i]? = (p ++ t)[i]? := fun i hi => by
    rw [List.getElem?_append, List.getElem?_append]
    split
    · rfl
    · rw [List.getElem?_take_of_lt (by lia  )]
  exact noPair_get h (k + j) (by rw [e _ (by lia  )]; exact h1) (by rw [e _ (by lia  )]; exact h2)
theorem cut_join {y : List Nat} : ∀ (ps : List (List Nat)), ps ≠ [] → (∀ p ∈ ps, ∀ t, NoAt y p t) → Cut y (joinL y ps) ps
  | [], h, _ => absurd rfl h
  | [p], _, h => .last p (h p (by simp) _)
  | p :: q :: r, _, h => by
    have := cut_join (q :: r) (by simp) fun p hp => h p (by simp [hp])
    rw [joinL_cons _ _ _ (by simp), List.append_assoc]
    exact .cons p _ _ (h p (by simp) _) this
noncomputable def lowC (c : Nat) : Nat := if 65 ≤ c && c ≤ 90 then c + 32 else c
noncomputable def upC (c : Nat) : Nat := if 97 ≤ c && c ≤ 122 then c - 32 else c
theorem low_of : ∀ c, c < 128 → Unicode.lowerOf c = [lowC c] := by decide +kernel
theorem title_of : ∀ c, c < 128 → Unicode.titleOf c = [upC c] := by decide +kernel
theorem placed_map {l : List Nat} {f : Nat → Nat → List Nat} {g : Nat → Nat → Nat} (h : ∀ i c, l[i]? = some c → f i c = [g i c]) : (⟨placed (tx l) f⟩ : Str) = tx (l.mapIdx g) := by
  refine str_ext ?_
  show ((l.toArray.mapIdx fun i c => (f i c).toArray).flatten).toList = l.mapIdx g
  have e : (l.toArray.mapIdx fun i c => (f i c).toArray) = (l.mapIdx fun i c => #[g i c]).toArray := by
    apply Array.ext
    · simp
    · intro i h1 h2
      simp
      rw [h i _ (by simp)]
  rw [e]
  simp only [Array.toList_flatten]
  have : ∀ (l : List Nat) (g : Nat → Nat → Nat), (List.map Array.toList (l.mapIdx fun i c => #[g i c])).flatten = l.mapIdx g := by
    intro l
    induction l with
    | nil => intro g; rfl
    | cons c r ih =>
      intro g
      rw [List.mapIdx_cons, List.mapIdx_cons, List.map_cons, List.flatten_cons, ih]
      rfl
  simpa using this l g
theorem lower_at {l : List Nat} (h : ∀ c ∈ l, c < 128) {i c : Nat} (e : l[i]? = some c) : Unicode.lowerAt l.toArray i = [lowC c] := by
  have hc := h c (List.mem_of_getElem? e)
  unfold Unicode.lowerAt
  rw [List.getElem?_toArray, e]
  dsimp only
  rw [if_neg, low_of c hc]
  have : ¬ c = 0x3A3 := by lia  
  simp [this]
theorem tx_lower {l : List Nat} (h : ∀ c ∈ l, c < 128) : Txt.lower (tx l) = tx (l.map lowC) := by
  have := placed_map (l := l) (f := fun i _ => Unicode.lowerAt (tx l).cps i) (g := fun _ c => lowC c) fun i c e => lower_at h e
  unfold Txt.lower
  rw [this]
  congr 1
  apply List.ext_getElem <;> simp
noncomputable def capL : List Nat → List Nat
  | [] => []
  | c :: r => upC c :: r.map lowC
theorem tx_cap {l : List Nat} (h : ∀ c ∈ l, c < 128) : Txt.capitalize (tx l) = tx (capL l) := by
  unfold Txt.capitalize
  cases l with
  | nil => rfl
  | cons c r =>
    rw [if_neg (by rw [tx_len]; simp)]
    have := placed_map (l := c :: r) (f := fun i c' => if i == 0 then Unicode.titleOf c' else Unicode.lowerAt (tx (c :: r)).cps i) (g := fun i c' => if i == 0 then upC c' else lowC c') fun i c' e => by
      by_cases q : i = 0
      · subst q
        exact title_of c' (h c' (List.mem_of_getElem? e))
      · have q' : (i == 0) = false := by simp [q]
        simp only [q', Bool.false_eq_true, if_false]
        exact lower_at h e
    unfold Txt.capitalized
    rw [this, List.mapIdx_cons]
    unfold capL
    congr 2
    apply List.ext_getElem <;> simp
end Mine
end P23
section P24
set_option maxRecDepth 100000
set_option Elab.async false
set_option autoImplicit false
set_option linter.unusedVariables false
namespace Mine
open PySem
noncomputable def hexD (k : Nat) : Nat := if k < 10 then 48 + k else 55 + k
noncomputable def qmS (c : Nat) : Str := ⟨#[61, hexD (c / 16), hexD (c % 16)]⟩
noncomputable def bmS (c : Nat) : Str := if (32 ≤ c && c ≤ 126 && c != 61) || c == 9 || c == 10 || c == 13 then ⟨#[c]⟩ else qmS c
noncomputable def qmL : List Str := (List.range 256).map qmS
noncomputable def bmL : List Str := (List.range 256).map bmS
end Mine
end P24
section P25
set_option maxRecDepth 100000
set_option Elab.async false
set_option autoImplicit false
set_option linter.unusedVariables false
set_option linter.unusedSimpArgs false
namespace Mine
open PySem
noncomputable def Vs.put (V : Vs) (x : String) (a : AV) : Vs := ⟨Mine.put V.l x a, V.ro⟩
theorem set_eq (V : Vs) (o : List AO) (x : String) (a : AV) : St.set ⟨V, o⟩ x a = ⟨V.put x a, o⟩ := rfl
theorem vput_lookup (V : Vs) (x y : String) (a : AV) : (V.put x a).lookup y = if y = x then some a else V.lookup y := put_lookup x y a V.l
theorem vput_ro (V : Vs) (x : String) (a : AV) : (V.put x a).ro = V.ro := rfl
theorem vlook_cons (x y : String) (a : AV) (l : List (String × AV)) (n : Nat) : Vs.lookup ⟨(x, a) :: l, n⟩ y = if y = x then some a else Vs.lookup ⟨l, n⟩ y := by
  unfold Vs.lookup
  by_cases h : y = x
  · subst h; rw [List.lookup_cons_self, if_pos rfl]
  · rw [List.lookup_cons, beq_eq_false_iff_ne.mpr h, if_neg h]
theorem put_ne {x y : String} (h : ¬ x = y) (u a : AV) (r : List (String × AV)) : put ((y, u) :: r) x a = (y, u) :: put r x a := by show (if x = y then _ else _) = _; rw [if_neg h]
theorem put_eq (x : String) (u a : AV) (r : List (String × AV)) : put ((x, u) :: r) x a = (x, a) :: r := by show (if x = x then _ else _) = _; rw [if_pos rfl]
theorem put_put (l : List (String × AV)) (x : String) (a b : AV) : put (put l x a) x b = put l x b := by
  induction l with
  | nil => exact put_eq _ _ _ _
  | cons p r ih =>
    obtain ⟨y, u⟩ := p
    by_cases h : x = y
    · subst h; rw [put_eq, put_eq, put_eq]
    · rw [put_ne h, put_ne h, put_ne h, ih]
theorem vput_put (V : Vs) (x : String) (a b : AV) : (V.put x a).put x b = V.put x b := by unfold Vs.put; rw [put_put]
/-- a comprehension whose elements leave the objects alone -/
theorem comp_run {ik : IK} {x : String} {test : WB} {elt : WE} {V : Vs} {os : List AO} {items : List AV} {t : AV → Bool} {f : AV → AV} {Q : List AV → List AO → Prop}
    (hok : IKok ik os) (hit : ∀ i, itemAt ik os i = items[i]?.map .av)
    (ht : ∀ a ∈ items, ∀ K : Bool → List AO → Prop, K (t a) os → test ⟨V.put x a, os⟩ K)
    (he : ∀ a ∈ items, t a = true → ∀ K : VP, K (f a) os → elt ⟨V.put x a, os⟩ K)
    (hl : items.length ≤ 16777216) (hQ : Q ((items.filter t).map f) os) : ∃ fu, compW ik (.one x) test elt Q fu 0 [] ⟨V, os⟩ := by
  have key : ∀ n i acc V', n + i = items.length → (V' = V ∨ ∃ a, V' = V.put x a) → acc.length ≤ i → Q (acc ++ (((items.drop i).filter t).map f)) os → compW ik (.one x) test elt Q (n + 1) i acc ⟨V', os⟩ := by
    intro n
    induction n with
    | zero =>
      intro i acc V' hn hV ha q
      refine ⟨hok, ?_⟩
      have : itemAt ik os i = none := by rw [hit, List.getElem?_eq_none (by lia  )]; rfl
      dsimp only
      rw [this]
      rw [List.drop_eq_nil_of_le (by lia  )] at q
      simpa using q
    | succ n ih =>
      intro i acc V' hn hV ha q
      refine ⟨hok, ?_⟩
      have hi : i < items.length := by lia  
      have : itemAt ik os i = some (.av items[i]) := by rw [hit, List.getElem?_eq_getElem hi]; rfl
      dsimp only
      rw [this]
      dsimp only
      have hb : bindT (.one x) (.av items[i]) ⟨V', os⟩ = some ⟨V.put x items[i], os⟩ := by
        show some (St.set ⟨V', os⟩ x items[i]) = _
        rw [set_eq]
        rcases hV with rfl | ⟨a, rfl⟩
        · rfl
        · rw [vput_put]
      rw [hb]
      refine ht _ (List.getElem_mem hi) _ ⟨fun hb => ?_, fun hb => ?_⟩
      · refine he _ (List.getElem_mem hi) hb _ ⟨by show acc.length ≤ 16777216; lia  , ?_⟩
        refine ih (i + 1) _ _ (by lia  ) (.inr ⟨_, rfl⟩) (by simp; lia  ) ?_
        rw [List.drop_eq_getElem_cons hi, List.filter_cons_of_pos hb] at q
        simpa using q
      · refine ih (i + 1) _ _ (by lia  ) (.inr ⟨_, rfl⟩) (by lia  ) ?_
        rw [List.drop_eq_getElem_cons hi, List.filter_cons_of_neg (by simp [hb])] at q
        exact q
  exact ⟨items.length + 1, key items.length 0 [] V (by lia  ) (.inl rfl) (Nat.le_refl _) (by simpa using hQ)⟩
theorem it_str (l : List Nat) (os : List AO) (i : Nat) : itemAt (.str (tx l)) os i = (l.map fun c => AV.str (tx [c]))[i]?.map .av := by
  show (l.toArray[i]?).map _ = _
  simp only [List.getElem?_toArray, List.getElem?_map, Option.map_map]
  rfl
theorem it_list {k : Nat} {os : List AO} {vs : List AV} (h : os[k]? = some (.list vs)) (i : Nat) : itemAt (.list k) os i = vs[i]?.map .av := by
  show (match os[k]? with | some (.list vs) => vs[i]?.map It.av | _ => none) = _
  rw [h]
/-- a for loop with an invariant -/
theorem for_run {ik : IK} {tg : Tg} {body : WS} {Q : VS} {n : Nat} (I : Nat → St → Prop) (hlast : ∀ σ, I n σ → IKok ik σ.objs ∧ itemAt ik σ.objs n = none ∧ Q .next σ)
    (hturn : ∀ i σ, i < n → I i σ → IKok ik σ.objs ∧ ∃ it σ', itemAt ik σ.objs i = some it ∧ bindT tg it σ = some σ' ∧ ∀ K : VS, (∀ σ'', I (i + 1) σ'' → K .next σ'') → body σ' K) {σ : St} (h0 : I 0 σ) : ∃ fu, forW ik tg body Q fu 0 σ := by
  have key : ∀ m i σ, m + i = n → I i σ → forW ik tg body Q (m + 1) i σ := by
    intro m
    induction m with
    | zero =>
      intro i σ hm hI
      obtain rfl : i = n := by lia  
      obtain ⟨a, b, c⟩ := hlast σ hI
      refine ⟨a, ?_⟩
      dsimp only
      rw [b]; exact c
    | succ m ih =>
      intro i σ hm hI
      obtain ⟨a, it, σ', b, c, d⟩ := hturn i σ (by lia  ) hI
      refine ⟨a, ?_⟩
      rw [b]; simp only [c]
      exact d _ fun σ'' h => ih (i + 1) σ'' (by lia  ) h
  exact ⟨n + 1, key n 0 σ (by lia  ) h0⟩
/-- a while loop, by a measure -/
theorem while_run {t : WB} {body : WS} {Q : VS} (I : Nat → St → Prop)
    (hturn : ∀ m σ, I m σ → ∃ b, (∀ K : Bool → List AO → Prop, K b σ.objs → t σ K) ∧ (b = true → ∀ K : VS, (∀ m' σ'', m' < m → I m' σ'' → K .next σ'') → body σ K) ∧ (b = false → Q .next σ)) {m : Nat} {σ : St} (h0 : I m σ) : ∃ fu, whileW t body Q fu σ := by
  have key : ∀ m, ∀ k, k ≤ m → ∀ σ, I k σ → whileW t body Q (m + 1) σ := by
    intro m
    induction m with
    | zero =>
      intro k hk σ hI
      obtain ⟨b, h1, h2, h3⟩ := hturn k σ hI
      exact h1 _ ⟨fun hb => h2 hb _ fun m' σ'' hm _ => absurd hm (by lia  ), h3⟩
    | succ m ih =>
      intro k hk σ hI
      obtain ⟨b, h1, h2, h3⟩ := hturn k σ hI
      exact h1 _ ⟨fun hb => h2 hb _ fun m' σ'' hm hI' => ih m' (by lia  ) σ'' hI', h3⟩
  exact ⟨m + 1, key m m (Nat.le_refl _) σ h0⟩
theorem wAdd_ii (a b : Int) (os : List AO) (Q : VP) : wAdd [.int a, .int b] os Q = Q (.int (a + b)) os := rfl
theorem wAdd_ss (x y : List Nat) (os : List AO) (Q : VP) : wAdd [.str (tx x), .str (tx y)] os Q = (x.length + y.length ≤ 16777216 ∧ Q (.str (tx (x ++ y))) os) := by rw [← tx_app, ← tx_len x, ← tx_len y]; rfl
theorem wAdd_bb (x y : Array UInt8) (os : List AO) (Q : VP) : wAdd [.bytes x, .bytes y] os Q = (x.size + y.size ≤ 16777216 ∧ Q (.bytes (x ++ y)) os) := rfl
theorem wIAdd_ii (a b : Int) (os : List AO) (Q : VP) : wIAdd [.int a, .int b] os Q = Q (.int (a + b)) os := rfl
theorem wSub_ii (a b : Int) (os : List AO) (Q : VP) : wSub [.int a, .int b] os Q = Q (.int (a - b)) os := rfl
theorem wMul_ii (a b : Int) (os : List AO) (Q : VP) : wMul [.int a, .int b] os Q = ((smallI a ∨ smallI b) ∧ Q (.int (a * b)) os) := rfl
theorem wMul_si (x : List Nat) (b : Int) (os : List AO) (Q : VP) : wMul [.str (tx x), .int b] os Q = (x.length * b.toNat ≤ 1000000 ∧ 0 ≤ b ∧ b ≤ 1000000 ∧ Q (.str (tx (List.replicate b.toNat x).flatten)) os) := by rw [← tx_len x]; rfl
theorem wFdiv_ii (a b : Int) (os : List AO) (Q : VP) : wFdiv [.int a, .int b] os Q = (b ≠ 0 ∧ smallI b ∧ Q (.int (a.fdiv b)) os) := rfl
theorem wMod_ii (a b : Int) (os : List AO) (Q : VP) : wMod [.int a, .int b] os Q = (b ≠ 0 ∧ Q (.int (a.fmod b)) os) := rfl
theorem wPow_ii (a b : Int) (os : List AO) (Q : VP) : wPow [.int a, .int b] os Q = (0 ≤ b ∧ b ≤ 1000 ∧ smallI a ∧ Q (.int (a ^ b.toNat)) os) := rfl
theorem wNeg_i (a : Int) (os : List AO) (Q : VP) : wNeg [.int a] os Q = Q (.int (-a)) os := rfl
theorem wLt_ii (a b : Int) (os : List AO) (Q : VP) : wLt [.int a, .int b] os Q = Q (.bool (decide (a < b))) os := rfl
theorem wLe_ii (a b : Int) (os : List AO) (Q : VP) : wLe [.int a, .int b] os Q = Q (.bool (decide (a ≤ b))) os := rfl
theorem wLe_ss (x y : List Nat) (os : List AO) (Q : VP) : wLe [.str (tx x), .str (tx y)] os Q = Q (.bool (!decide (y < x))) os := rfl
theorem wGt_ii (a b : Int) (os : List AO) (Q : VP) : wGt [.int a, .int b] os Q = Q (.bool (decide (a > b))) os := rfl
theorem wGe_ii (a b : Int) (os : List AO) (Q : VP) : wGe [.int a, .int b] os Q = Q (.bool (decide (a ≥ b))) os := rfl
theorem wEq_ii (a b : Int) (os : List AO) (Q : VP) : wEq [.int a, .int b] os Q = Q (.bool (decide (a = b))) os := rfl
theorem wEq_ss (x y : List Nat) (os : List AO) (Q : VP) : wEq [.str (tx x), .str (tx y)] os Q = Q (.bool (decide (x = y))) os := by rw [← tx_dec]; rfl
theorem wNe_ii (a b : Int) (os : List AO) (Q : VP) : wNe [.int a, .int b] os Q = Q (.bool (!decide (a = b))) os := rfl
theorem wNe_ss (x y : List Nat) (os : List AO) (Q : VP) : wNe [.str (tx x), .str (tx y)] os Q = Q (.bool (!decide (x = y))) os := by rw [← tx_dec]; rfl
theorem wNe_rr (j k : Nat) (os : List AO) (Q : VP) : wNe [.ref j, .ref k] os Q = (∃ as bs r, os[j]? = some (.list as) ∧ os[k]? = some (.list bs) ∧ EqL as bs r ∧ Q (.bool (!r)) os) := rfl
theorem wIn_ss (y x : Str) (os : List AO) (Q : VP) : wIn [.str y, .str x] os Q = Q (.bool (Txt.contains x y)) os := rfl
theorem wItem_s (x : List Nat) (i : Int) (os : List AO) (Q : VP) : wItem (.str (tx x)) (.int i) os Q = (-(x.length : Int) ≤ i ∧ i < x.length ∧ x.length < 4611686018427387904 ∧ Q (.str (Txt.item (tx x) i)) os) := by rw [← tx_len x]; rfl
theorem wItem_r (k : Nat) (i : Int) (os : List AO) (Q : VP) : wItem (.ref k) (.int i) os Q = (∃ vs j a, (os[k]? = some (.list vs) ∨ os[k]? = some (.tup vs)) ∧ vs.length < 4611686018427387904 ∧ seqIndex? i vs.length = some j ∧ vs[j]? = some a ∧ Q a os) := rfl
theorem wCut_nn (x : List Nat) (os : List AO) (Q : VP) : wCut (.str (tx x)) .none .none os Q = (x.length ≤ 16777216 ∧ Q (.str (Txt.slice (tx x) none none)) os) := by rw [← tx_len x]; exact propext ⟨fun ⟨l, h, e1, e2, q⟩ => by cases e1; cases e2; exact q, fun q => ⟨_, _, rfl, rfl, q⟩⟩
theorem wCut_ni (x : List Nat) (b : Int) (os : List AO) (Q : VP) : wCut (.str (tx x)) .none (.int b) os Q = (x.length ≤ 16777216 ∧ Q (.str (Txt.slice (tx x) none (some b))) os) := by rw [← tx_len x]; exact propext ⟨fun ⟨l, h, e1, e2, q⟩ => by cases e1; cases e2; exact q, fun q => ⟨_, _, rfl, rfl, q⟩⟩
theorem wCut_in (x : List Nat) (a : Int) (os : List AO) (Q : VP) : wCut (.str (tx x)) (.int a) .none os Q = (x.length ≤ 16777216 ∧ Q (.str (Txt.slice (tx x) (some a) none)) os) := by rw [← tx_len x]; exact propext ⟨fun ⟨l, h, e1, e2, q⟩ => by cases e1; cases e2; exact q, fun q => ⟨_, _, rfl, rfl, q⟩⟩
theorem wCut_ii (x : List Nat) (a b : Int) (os : List AO) (Q : VP) : wCut (.str (tx x)) (.int a) (.int b) os Q = (x.length ≤ 16777216 ∧ Q (.str (Txt.slice (tx x) (some a) (some b))) os) := by rw [← tx_len x]; exact propext ⟨fun ⟨l, h, e1, e2, q⟩ => by cases e1; cases e2; exact q, fun q => ⟨_, _, rfl, rfl, q⟩⟩
theorem wLen_s (x : List Nat) (os : List AO) (Q : VP) : wLen [.str (tx x)] os Q = (x.length < 4611686018427387904 ∧ Q (.int x.length) os) := by rw [← tx_len x]; rfl
theorem wLen_r (k : Nat) (os : List AO) (Q : VP) : wLen [.ref k] os Q = (∃ vs, os[k]? = some (.list vs) ∧ vs.length < 4611686018427387904 ∧ Q (.int vs.length) os) := rfl
theorem wOrd_s (c : Nat) (os : List AO) (Q : VP) : wOrd [.str (tx [c])] os Q = Q (.int (c : Int)) os := propext ⟨fun h => h.2, fun h => ⟨rfl, h⟩⟩
theorem wChr_i (i : Int) (os : List AO) (Q : VP) : wChr [.int i] os Q = (0 ≤ i ∧ i ≤ 1114111 ∧ Q (.str (tx [i.toNat])) os) := rfl
theorem wMin_ii (a b : Int) (os : List AO) (Q : VP) : wMin [.int a, .int b] os Q = Q (.int (if b < a then b else a)) os := rfl
theorem wCount_ss (x y : Str) (os : List AO) (Q : VP) : wCount [.str x, .str y] os Q = Q (.int (Txt.count x y)) os := rfl
theorem wLower_s (x : List Nat) (os : List AO) (Q : VP) : wLower [.str (tx x)] os Q = (x.length ≤ 5592405 ∧ Q (.str (Txt.lower (tx x))) os) := by rw [← tx_len x]; rfl
theorem wUpper_s (x : List Nat) (os : List AO) (Q : VP) : wUpper [.str (tx x)] os Q = (x.length ≤ 5592405 ∧ Q (.str (Txt.upper (tx x))) os) := by rw [← tx_len x]; rfl
theorem wSplit_ss (x y : List Nat) (os : List AO) (Q : VP) : wSplit [.str (tx x), .str (tx y)] os Q = (y.length ≠ 0 ∧ x.length ≤ 1000000 ∧ Q (.ref os.length) (os ++ [.list ((Txt.split (tx x) (tx y)).map .str)])) := by rw [← tx_len x, ← tx_len y]; rfl
theorem wLines_s (x : List Nat) (os : List AO) (Q : VP) : wLines [.str (tx x)] os Q = (x.length ≤ 1000000 ∧ (lineCuts (tx x)).length ≤ 1000000 ∧ Q (.ref os.length) (os ++ [.list ((Txt.lines (tx x)).map .str)])) := by rw [← tx_len x]; rfl
theorem wHex_si (x : Str) (b : Int) (os : List AO) (Q : VP) : wHex [.str x, .int b] os Q = (b = 16 ∧ ∃ v, hexV x = some v ∧ Q (.int v) os) := rfl
theorem wPop_ri (V : Vs) (k : Nat) (i : Int) (os : List AO) (Q : VP) : wPop V [.ref k, .int i] os Q = (∃ vs j a, os[k]? = some (.list vs) ∧ V.ro ≤ k ∧ vs.length ≤ 1000000 ∧ seqIndex? i vs.length = some j ∧ vs[j]? = some a ∧ Q a (os.set k (.list (vs.eraseIdx j)))) := rfl
theorem wStore_ri (V : Vs) (k : Nat) (i : Int) (a : AV) (os : List AO) (K : List AO → Prop) : wStore V (.ref k) (.int i) a os K = (∃ vs, os[k]? = some (.list vs) ∧ V.ro ≤ k ∧ 0 ≤ i ∧ i < vs.length ∧ vs.length ≤ 1000000 ∧ K (os.set k (.list (vs.set i.toNat a)))) := rfl
/-- join, with the texts as lists -/
theorem wJoin_k {s : List Nat} {k : Nat} {os : List AO} {Q : VP} (ps : List (List Nat)) (h : os[k]? = some (.list (ps.map fun p => AV.str (tx p)))) (hl : (ps.map List.length).sum + ps.length * s.length ≤ 16777216) (q : Q (.str (tx (joinL s ps))) os) : wJoin [.str (tx s), .ref k] os Q :=
  ⟨ps.map tx, by rw [h, List.map_map]; rfl, by
    unfold totLen
    rw [List.map_map, List.length_map, tx_len]
    have : (fun y : Str => y.length) ∘ tx = List.length := by funext x; simp
    rw [this]; exact hl, by rw [tx_join]; exact q⟩
theorem truth_s (x : List Nat) (os : List AO) : aTruth (.str (tx x)) os = some (!x.isEmpty) := by
  show some _ = _
  cases x <;> rfl
theorem truth_b (b : Bool) (os : List AO) : aTruth (.bool b) os = some b := rfl
theorem iter_s (x : Str) (os : List AO) : aIter (.str x) os = some (.str x) := rfl
theorem iter_l {k : Nat} {os : List AO} {vs : List AV} (h : os[k]? = some (.list vs)) : aIter (.ref k) os = some (.list k) := by
  show (match os[k]? with | some (.list _) => some (IK.list k) | some (.tup _) => some (.tup k) | _ => none) = _
  rw [h]
end Mine
end P25
section P26
set_option maxRecDepth 100000
set_option Elab.async false
set_option autoImplicit false
set_option linter.unusedVariables false
set_option linter.unusedSimpArgs false
namespace Mine
open PySem PySem.Builtin PySem.Builtin.Str
noncomputable def NoBr (p : List Nat) : Prop := ∀ c ∈ p, Unicode.isLineBreak c = false
inductive Lns : List Nat → List (List Nat) → Prop
  | nil : Lns [] []
  | last (p : List Nat) (h : p ≠ []) (n : NoBr p) : Lns p [p]
  | cons (p b r : List Nat) (ps : List (List Nat)) (n : NoBr p) (hb : b = [10] ∨ b = [13, 10] ∨ (b = [13] ∧ r.head? ≠ some 10)) (t : Lns r ps) : Lns (p ++ (b ++ r)) (p :: ps)
theorem br_low : ∀ c, c < 128 → (c == 9 || (32 ≤ c)) = true → Unicode.isLineBreak c = false := by decide +kernel
theorem ls_skip (s : Str) : ∀ (m cur : Nat) (st : StrLaws.LsSt), (∀ i, cur ≤ i → i < cur + m → st.snd ≤ i → Unicode.isLineBreak (s.cps.getD i 0) = false) → Id.run (forIn (m := Id) (List.range' cur m) st (StrLaws.lsBody s)) = st
  | 0, _, _, _ => rfl
  | m + 1, cur, st, h => by
    rw [List.range'_succ, List.forIn_cons]
    have e : StrLaws.lsBody s cur st = pure (.yield st) := by
      unfold StrLaws.lsBody
      rw [if_neg]
      intro q
      rw [Bool.and_eq_true, decide_eq_true_iff] at q
      rw [h cur (Nat.le_refl _) (by lia  ) q.1] at q
      exact absurd q.2 (by simp)
    rw [e]
    exact ls_skip s m (cur + 1) st fun i h1 h2 => h i (by lia  ) (by lia  )
theorem ls_app (s : Str) (a m k : Nat) (st : StrLaws.LsSt) : Id.run (forIn (m := Id) (List.range' a (m + k)) st (StrLaws.lsBody s)) = Id.run (forIn (m := Id) (List.range' (a + m) k) (Id.run (forIn (m := Id) (List.range' a m) st (StrLaws.lsBody s))) (StrLaws.lsBody s)) := by
  induction m generalizing a st with
  | zero => rw [Nat.zero_add]; rfl
  | succ m ih =>
    rw [Nat.succ_add, List.range'_succ, List.range'_succ, List.forIn_cons, List.forIn_cons]
    have e : ∃ st', StrLaws.lsBody s a st = pure (.yield st') := by
      unfold StrLaws.lsBody
      split <;> exact ⟨_, rfl⟩
    obtain ⟨st', e⟩ := e
    rw [e]
    show Id.run (forIn (m := Id) (List.range' (a + 1) (m + k)) st' (StrLaws.lsBody s)) = Id.run (forIn (m := Id) (List.range' (a + (m + 1)) k) (Id.run (forIn (m := Id) (List.range' (a + 1) m) st' (StrLaws.lsBody s))) (StrLaws.lsBody s))
    rw [ih, show a + 1 + m = a + (m + 1) by lia  ]
theorem getD_drop {x : List Nat} {a : Nat} {l : List Nat} (h : x.drop a = l) (i : Nat) : (tx x).cps.getD (a + i) 0 = l[i]?.getD 0 := by
  show x.toArray.getD (a + i) 0 = _
  rw [← h, List.getElem?_drop]
  simp [Array.getD_eq_getD_getElem?]
theorem lns_run {x : List Nat} : ∀ {l : List Nat} {ps : List (List Nat)}, Lns l ps → ∀ (a : Nat) (arr : Array (Nat × Nat × Nat)), x.drop a = l → a + l.length = x.length →
    (StrLaws.lsEnd (tx x) (Id.run (forIn (m := Id) (List.range' a l.length) ((arr, a) : StrLaws.LsSt) (StrLaws.lsBody (tx x))))).map (fun (p : Nat × Nat × Nat) => strSub (tx x) p.1 p.2.1) = arr.toList.map (fun (p : Nat × Nat × Nat) => strSub (tx x) p.1 p.2.1) ++ ps.map tx := by
  intro l ps h
  induction h with
  | nil =>
    intro a arr hx hl
    show (StrLaws.lsEnd (tx x) (arr, a)).map _ = _
    unfold StrLaws.lsEnd
    simp only [tx_len]
    rw [if_neg (by simp at hl; lia  )]
    simp
  | last p h n =>
    intro a arr hx hl
    rw [ls_skip]
    · have : 0 < p.length := List.length_pos_iff.mpr h
      unfold StrLaws.lsEnd
      simp only [tx_len]
      rw [if_pos (by lia  )]
      simp only [Array.toList_push, List.map_append, List.map_cons, List.map_nil]
      congr 1
      refine congrArg (fun z => [z]) (str_ext ?_)
      rw [StrLaws.strSub_toList, tx_cps, tx_cps, hx, List.take_of_length_le (by lia  )]
    · intro i h1 h2 _
      have := getD_drop hx (i - a)
      rw [show a + (i - a) = i by lia  ] at this
      rw [this, List.getElem?_eq_getElem (by lia  )]
      exact n _ (List.getElem_mem _)
  | cons p b r ps n hb t ih =>
    intro a arr hx hl
    have hbl : b.length = 1 ∨ b.length = 2 := by rcases hb with rfl | rfl | ⟨rfl, _⟩ <;> simp
    have hle : (p ++ (b ++ r)).length = p.length + (1 + (b.length - 1 + r.length)) := by simp; lia  
    have hxp : x.drop (a + p.length) = b ++ r := by rw [← List.drop_drop, hx, List.drop_left' rfl]
    have hxr : x.drop (a + p.length + b.length) = r := by rw [← List.drop_drop, hxp, List.drop_left' rfl]
    rw [hle, ls_app, ls_skip _ p.length a]
    · rw [ls_app]
      have hb0 : (tx x).cps.getD (a + p.length) 0 = b[0]?.getD 0 := by
        have := getD_drop hxp 0
        rw [Nat.add_zero] at this
        rw [this]
        rcases hb with rfl | rfl | ⟨rfl, _⟩ <;> rfl
      have hb1 : (tx x).cps[a + p.length + 1]? = (b ++ r)[1]? := by
        show x.toArray[_]? = _
        rw [← hxp, List.getElem?_drop, List.getElem?_toArray]
      have step : Id.run (forIn (m := Id) (List.range' (a + p.length) 1) ((arr, a) : StrLaws.LsSt) (StrLaws.lsBody (tx x))) = (arr.push (a, a + p.length, a + p.length + b.length), a + p.length + b.length) := by
        show Id.run (forIn (m := Id) [a + p.length] ((arr, a) : StrLaws.LsSt) (StrLaws.lsBody (tx x))) = _
        rw [List.forIn_cons]
        have e : StrLaws.lsBody (tx x) (a + p.length) (arr, a) = pure (.yield (arr.push (a, a + p.length, a + p.length + b.length), a + p.length + b.length)) := by
          unfold StrLaws.lsBody
          rw [if_pos]
          · have : StrLaws.lsNext (tx x) (a + p.length) = a + p.length + b.length := by
              unfold StrLaws.lsNext
              rw [hb0, hb1]
              rcases hb with rfl | rfl | ⟨rfl, hr⟩
              · simp
              · simp
              · rw [if_neg]
                · rfl
                · cases r with
                  | nil => simp
                  | cons c r => simpa using hr
            rw [this]
          · rw [hb0]
            rcases hb with rfl | rfl | ⟨rfl, _⟩ <;> (simp; decide +kernel)
        rw [e]; rfl
      rw [step, ls_app, ls_skip _ (b.length - 1)]
      · rw [show a + p.length + 1 + (b.length - 1) = a + p.length + b.length by lia  ]
        rw [ih _ _ hxr (by simp at hl; lia  )]
        simp only [Array.toList_push, List.map_append, List.map_cons, List.map_nil, List.append_assoc, List.cons_append, List.nil_append]
        congr 2
        refine str_ext ?_
        rw [StrLaws.strSub_toList, tx_cps, tx_cps, hx, Nat.add_sub_cancel_left, List.take_left' rfl]
      · intro i h1 h2 h3
        exfalso
        dsimp only at h3
        lia  
    · intro i h1 h2 _
      have := getD_drop hx (i - a)
      rw [show a + (i - a) = i by lia  ] at this
      rw [this, List.getElem?_append_left (by lia  ), List.getElem?_eq_getElem (by lia  )]
      exact n _ (List.getElem_mem _)
theorem tx_lines {l : List Nat} {ps : List (List Nat)} (h : Lns l ps) : Txt.lines (tx l) = ps.map tx ∧ (lineCuts (tx l)).length = ps.length := by
  have key := lns_run (x := l) h 0 #[] rfl (Nat.zero_add _)
  have e : linesOf (tx l) = ps.map tx := by
    unfold linesOf lineCuts
    rw [StrLaws.ls_eq, List.map_map, tx_len]
    simp only [List.map_nil, List.nil_append] at key
    rw [← key]
    rfl
  constructor
  · unfold Txt.lines
    split
    · rename_i q
      rw [← e]
      unfold linesOf
      rw [eq_of_beq q]
      simp only [List.map_cons, List.map_nil]
      rw [StrLaws.sub_whole]
    · exact e
  · have := congrArg List.length e
    unfold linesOf at this
    simpa using this
end Mine
end P26
section P27
set_option maxRecDepth 100000
set_option Elab.async false
set_option autoImplicit false
set_option linter.unusedVariables false
set_option linter.unusedSimpArgs false
namespace Mine
open PySem
noncomputable def tTest : WB := (wCmp (wVar "start") (wVar "laststart") wLe)
noncomputable def tLoop : WS := (wSeq (wSet "stop" (wOp2 (wVar "start") (wVar "maxlinelen1") wAdd)) (wSeq (wIf (wCmp (wSub2 (wVar "line") (wOp2 (wVar "stop") (wLit (.int 2)) wSub)) (wLit (.str (Str.ofString "="))) wEq) (wSeq (wExpr (wLocCall "append" (wCons (wSlice3 (wVar "line") (wVar "start") (wOp2 (wVar "stop") (wLit (.int 1)) wSub)) wNil))) (wSeq (wSet "start" (wOp2 (wVar "stop") (wLit (.int 2)) wSub)) wSkip)) (wSeq (wIf (wCmp (wSub2 (wVar "line") (wOp2 (wVar "stop") (wLit (.int 1)) wSub)) (wLit (.str (Str.ofString "="))) wEq) (wSeq (wExpr (wLocCall "append" (wCons (wSlice3 (wVar "line") (wVar "start") (wVar "stop")) wNil))) (wSeq (wSet "start" (wOp2 (wVar "stop") (wLit (.int 1)) wSub)) wSkip)) (wSeq (wExpr (wLocCall "append" (wCons (wOp2 (wSlice3 (wVar "line") (wVar "start") (wVar "stop")) (wLit (.str (Str.ofString "="))) wAdd) wNil))) (wSeq (wSet "start" (wVar "stop")) wSkip))) wSkip)) wSkip))
noncomputable def tLast (c_quote : List AV → List AO → VP → Prop) : WS := (wIf (wAndB (wVal (wVar "line")) (wCmp (wSub2 (wVar "line") (wOp1 (wLit (.int 1)) wNeg)) (wLit (.str (Str.ofString " \t"))) wIn)) (wSeq (wSet "room" (wOp2 (wVar "start") (wVar "laststart") wSub)) (wSeq (wIf (wCmp (wVar "room") (wLit (.int 3)) wGe) (wSeq (wSet "q" (wCall (wCons (wSub2 (wVar "line") (wOp1 (wLit (.int 1)) wNeg)) wNil) c_quote)) wSkip) (wSeq (wIf (wCmp (wVar "room") (wLit (.int 2)) wEq) (wSeq (wSet "q" (wOp2 (wSub2 (wVar "line") (wOp1 (wLit (.int 1)) wNeg)) (wVar "soft_break") wAdd)) wSkip) (wSeq (wSet "q" (wOp2 (wVar "soft_break") (wCall (wCons (wSub2 (wVar "line") (wOp1 (wLit (.int 1)) wNeg)) wNil) c_quote) wAdd)) wSkip)) wSkip)) (wSeq (wExpr (wLocCall "append" (wCons (wOp2 (wSlice3 (wVar "line") (wVar "start") (wOp1 (wLit (.int 1)) wNeg)) (wVar "q") wAdd) wNil))) wSkip))) (wSeq (wExpr (wLocCall "append" (wCons (wSlice3 (wVar "line") (wVar "start") (wLit .none)) wNil))) wSkip))
noncomputable def tLine (c_quote : List AV → List AO → VP → Prop) : WS := (wSeq (wSet "start" (wLit (.int 0))) (wSeq (wSet "laststart" (wOp2 (wOp2 (wCall (wCons (wVar "line") wNil) wLen) (wLit (.int 1)) wSub) (wVar "maxlinelen") wSub)) (wSeq (wWhile tTest tLoop) (wSeq (tLast c_quote) wSkip))))
noncomputable def tBody (bA : Addr) (c_quote : List AV → List AO → VP → Prop) : WS := (wSeq (wIf (wCmp (wVar "maxlinelen") (wLit (.int 4)) wLt) (wSeq wRaise wSkip) wSkip) (wSeq (wIf (wNotB (wVal (wVar "body"))) (wSeq (wRet (wVar "body")) wSkip) wSkip) (wSeq (wSet "body" (wMeth isS (wVar "body") (wCons (wLit (.lit (.ref bA))) wNil) (wTrans bA bmL))) (wSeq (wSet "soft_break" (wOp2 (wLit (.str (Str.ofString "="))) (wVar "eol") wAdd)) (wSeq (wSet "maxlinelen1" (wOp2 (wVar "maxlinelen") (wLit (.int 1)) wSub)) (wSeq (wSet "encoded_body" (wList wNil)) (wSeq (wSet "append" (wAppAttr (wVar "encoded_body"))) (wSeq (wFor (wIter (wMeth isS (wVar "body") wNil wLines)) (.one "line") (tLine c_quote)) (wSeq (wIf (wCmp (wSub2 (wVar "body") (wOp1 (wLit (.int 1)) wNeg)) (wLit (.str (Str.ofString "\r\n"))) wIn) (wSeq (wExpr (wLocCall "append" (wCons (wLit (.str (Str.ofString ""))) wNil))) wSkip) wSkip) (wSeq (wRet (wMeth isS (wVar "eol") (wCons (wVar "encoded_body") wNil) wJoin)) wSkip))))))))))
noncomputable def esc (c : Nat) : List Nat := [61, hexD (c / 16), hexD (c % 16)]
theorem qmS_esc (c : Nat) : qmS c = tx (esc c) := rfl
noncomputable def plainC (c : Nat) : Bool := (32 ≤ c && c ≤ 126 && c != 61) || c == 9 || c == 10 || c == 13
noncomputable def enc1 (c : Nat) : List Nat := if plainC c then [c] else esc c
theorem bmS_enc (c : Nat) : bmS c = tx (enc1 c) := by unfold bmS enc1 plainC; split <;> rfl
noncomputable def encT (l : List Nat) : List Nat := l.flatMap enc1
theorem bmL_get {c : Nat} (h : c < 256) : bmL.getD c Str.empty = bmS c := by simp [bmL, h]
theorem qmL_get {c : Nat} (h : c < 256) : qmL.getD c Str.empty = qmS c := by simp [qmL, h]
theorem tr_enc {l : List Nat} (h : ∀ c ∈ l, c < 256) : trText (fun c => bmL.getD c Str.empty) l = tx (encT l) := by
  refine str_ext ?_
  show (l.flatMap fun c => (bmL.getD c Str.empty).cps.toList) = l.flatMap enc1
  induction l with
  | nil => rfl
  | cons c r ih =>
    rw [List.flatMap_cons, List.flatMap_cons, ih fun c hc => h c (by simp [hc]), bmL_get (h c (by simp)), bmS_enc]
    rfl
theorem enc1_len (c : Nat) : (enc1 c).length ≤ 3 := by unfold enc1; split <;> simp [esc]
theorem tr_len {l : List Nat} (h : ∀ c ∈ l, c < 256) : trLen (fun c => bmL.getD c Str.empty) l = (encT l).length := by
  unfold trLen encT
  induction l with
  | nil => rfl
  | cons c r ih =>
    rw [List.map_cons, List.sum_cons, ih fun c hc => h c (by simp [hc])]
    dsimp only
    rw [bmL_get (h c (by simp)), bmS_enc, tx_len, List.flatMap_cons, List.length_append]
theorem encT_len (l : List Nat) : (encT l).length ≤ 3 * l.length := by
  unfold encT
  induction l with
  | nil => simp
  | cons c r ih => have := enc1_len c; simp only [List.flatMap_cons, List.length_append, List.length_cons]; lia  
/-- how a line is broken -/
inductive Brk (w : Nat) : List Nat → List (List Nat) → List Nat → Prop
  | stop (l : List Nat) (h : l.length ≤ w) : Brk w l [] l
  | two (l : List Nat) (rs : List (List Nat)) (z : List Nat) (h : w < l.length) (e : l[w - 3]? = some 61) (t : Brk w (l.drop (w - 3)) rs z) : Brk w l (l.take (w - 2) :: rs) z
  | one (l : List Nat) (rs : List (List Nat)) (z : List Nat) (h : w < l.length) (e3 : l[w - 3]? ≠ some 61) (e : l[w - 2]? = some 61) (t : Brk w (l.drop (w - 2)) rs z) : Brk w l (l.take (w - 1) :: rs) z
  | plain (l : List Nat) (rs : List (List Nat)) (z : List Nat) (h : w < l.length) (e3 : l[w - 3]? ≠ some 61) (e : l[w - 2]? ≠ some 61) (t : Brk w (l.drop (w - 1)) rs z) : Brk w l ((l.take (w - 1) ++ [61]) :: rs) z
/-- what is laid for a line; e: the line end -/
inductive EncLine (w : Nat) (e : List Nat) : List Nat → List (List Nat) → Prop
  | plain (l : List Nat) (rs : List (List Nat)) (z : List Nat) (h : l.getLast? ≠ some 32 ∧ l.getLast? ≠ some 9) (b : Brk w l rs z) : EncLine w e l (rs ++ [z])
  | far (l : List Nat) (rs : List (List Nat)) (z : List Nat) (c : Nat) (hc : c = 32 ∨ c = 9) (b : Brk w l rs (z ++ [c])) (hz : z.length + 3 ≤ w) : EncLine w e l (rs ++ [z ++ esc c])
  | near (l : List Nat) (rs : List (List Nat)) (z : List Nat) (c : Nat) (hc : c = 32 ∨ c = 9) (b : Brk w l rs (z ++ [c])) (hz : z.length + 2 = w) : EncLine w e l (rs ++ [z ++ ([c] ++ (61 :: e))])
  | full (l : List Nat) (rs : List (List Nat)) (z : List Nat) (c : Nat) (hc : c = 32 ∨ c = 9) (b : Brk w l rs (z ++ [c])) (hz : z.length + 1 = w) : EncLine w e l (rs ++ [z ++ ((61 :: e) ++ esc c)])
inductive EncLines (w : Nat) (e : List Nat) : List (List Nat) → List (List Nat) → Prop
  | nil : EncLines w e [] []
  | cons (l : List Nat) (ls o os : List (List Nat)) (h : EncLine w e l o) (t : EncLines w e ls os) : EncLines w e (l :: ls) (o ++ os)
theorem Brk.tail {w : Nat} (hw : 4 ≤ w) {l : List Nat} {rs : List (List Nat)} {z : List Nat} (b : Brk w l rs z) : z <:+ l ∧ z.length ≤ w ∧ (l ≠ [] → z ≠ []) := by
  induction b with
  | stop l h => exact ⟨List.suffix_refl _, h, id⟩
  | two l rs z h e t ih => exact ⟨ih.1.trans (List.drop_suffix _ _), ih.2.1, fun _ => ih.2.2 (by intro q; have := congrArg List.length q; simp at this; lia  )⟩
  | one l rs z h e3 e t ih => exact ⟨ih.1.trans (List.drop_suffix _ _), ih.2.1, fun _ => ih.2.2 (by intro q; have := congrArg List.length q; simp at this; lia  )⟩
  | plain l rs z h e3 e t ih => exact ⟨ih.1.trans (List.drop_suffix _ _), ih.2.1, fun _ => ih.2.2 (by intro q; have := congrArg List.length q; simp at this; lia  )⟩
noncomputable def sL (ps : List (List Nat)) : List AV := ps.map fun p => AV.str (tx p)
/-- the objects while body_encode runs -/
noncomputable def bObjs (os : List AO) (out ls : List (List Nat)) : List AO := os ++ [.list (sL out), .app os.length, .list (sL ls)]
theorem bObjs_0 (os : List AO) (out ls : List (List Nat)) : (bObjs os out ls)[os.length]? = some (.list (sL out)) := by simp [bObjs]
theorem bObjs_1 (os : List AO) (out ls : List (List Nat)) : (bObjs os out ls)[os.length + 1]? = some (.app os.length) := by simp [bObjs]
theorem bObjs_2 (os : List AO) (out ls : List (List Nat)) : (bObjs os out ls)[os.length + 2]? = some (.list (sL ls)) := by simp [bObjs]
theorem bObjs_set (os : List AO) (out ls : List (List Nat)) (p : List Nat) : (bObjs os out ls).set os.length (.list (sL out ++ [.str (tx p)])) = bObjs os (out ++ [p]) ls := by simp [bObjs, sL, List.set_append]
structure BV (V : Vs) (w : Nat) (e T : List Nat) (os : List AO) : Prop where
  body : V.lookup "body" = some (.str (tx T))
  wid : V.lookup "maxlinelen" = some (.int w)
  eol : V.lookup "eol" = some (.str (tx e))
  soft : V.lookup "soft_break" = some (.str (tx (61 :: e)))
  wid1 : V.lookup "maxlinelen1" = some (.int ((w : Int) - 1))
  enc : V.lookup "encoded_body" = some (.ref os.length)
  app : V.lookup "append" = some (.ref (os.length + 1))
  ro : V.ro = os.length
theorem BV.put {V : Vs} {w : Nat} {e T : List Nat} {os : List AO} (h : BV V w e T os) {x : String} {a : AV} (hx : ["body", "maxlinelen", "eol", "soft_break", "maxlinelen1", "encoded_body", "append"].contains x = false) : BV (V.put x a) w e T os := by
  have ne : ∀ y, y ∈ ["body", "maxlinelen", "eol", "soft_break", "maxlinelen1", "encoded_body", "append"] → (V.put x a).lookup y = V.lookup y := fun y hy => by
    rw [vput_lookup, if_neg]
    rintro rfl
    rw [List.contains_eq_mem] at hx
    simp [hy] at hx
  exact ⟨(ne _ (by simp)).trans h.body, (ne _ (by simp)).trans h.wid, (ne _ (by simp)).trans h.eol, (ne _ (by simp)).trans h.soft, (ne _ (by simp)).trans h.wid1, (ne _ (by simp)).trans h.enc, (ne _ (by simp)).trans h.app, h.ro⟩
end Mine
end P27
section P28
set_option maxRecDepth 100000
set_option Elab.async false
set_option autoImplicit false
set_option linter.unusedVariables false
set_option linter.unusedSimpArgs false
namespace Mine
open PySem
theorem eqS : Str.ofString "=" = tx [61] := by decide +kernel
theorem app_ok {V : Vs} {w : Nat} {e T x : List Nat} {os : List AO} {out ls : List (List Nat)} {p : WE} {K : VS} (hB : BV V w e T os) (ho : out.length ≤ 1000000) (hp : ∀ Q : VP, Q (.str (tx x)) (bObjs os out ls) → p ⟨V, bObjs os out ls⟩ Q)
    (hK : K .next ⟨V, bObjs os (out ++ [x]) ls⟩) : wExpr (wLocCall "append" (wCons p wNil)) ⟨V, bObjs os out ls⟩ K := by
  rw [← bObjs_set] at hK
  exact ⟨os.length + 1, os.length, hB.app, bObjs_1 _ _ _, hp _ ⟨_, _, rfl, bObjs_1 _ _ _, bObjs_0 _ _ _, Nat.le_of_eq hB.ro, by simpa [sL] using ho, hK⟩⟩
theorem turn_ok {V : Vs} {w : Nat} {e T x : List Nat} {os : List AO} {out ls : List (List Nat)} {p q : WE} {b : Nat} {K : VS} (hB : BV V w e T os) (ho : out.length ≤ 1000000) (hp : ∀ Q : VP, Q (.str (tx x)) (bObjs os out ls) → p ⟨V, bObjs os out ls⟩ Q)
    (hq : ∀ (o : List AO) (Q : VP), Q (.int (b : Int)) o → q ⟨V, o⟩ Q) (hK : K .next ⟨V.put "start" (.int (b : Int)), bObjs os (out ++ [x]) ls⟩) :
    wSeq (wExpr (wLocCall "append" (wCons p wNil))) (wSeq (wSet "start" q) wSkip) ⟨V, bObjs os out ls⟩ K :=
  app_ok hB ho hp (hq _ _ hK)
theorem itm_ok {V : Vs} {L : List Nat} {os : List AO} {j c : Nat} {p : WE} {Q : Bool → List AO → Prop} (hl : V.lookup "line" = some (.str (tx L))) (hp : ∀ (o : List AO) (Q : VP), Q (.int (j : Int)) o → p ⟨V, o⟩ Q) (hj : L[j]? = some c) (hL : L.length ≤ 1000000)
    (hQ : Q (decide (c = 61)) os) : wCmp (wSub2 (wVar "line") p) (wLit (.str (Str.ofString "="))) wEq ⟨V, os⟩ Q := by
  have hlt : j < L.length := (List.getElem?_eq_some_iff.mp hj).1
  refine ⟨_, hl, hp _ _ ?_⟩
  dsimp only
  rw [wItem_s, tx_item L hj]
  refine ⟨by lia  , by lia  , by lia  , ?_⟩
  unfold wLit
  dsimp only
  rw [eqS, wEq_ss]
  refine ⟨_, rfl, ?_⟩
  have e : decide ([c] = [61]) = decide (c = 61) := by rw [decide_eq_decide, List.cons.injEq]; exact ⟨fun h => h.1, fun h => ⟨h, rfl⟩⟩
  rw [e]
  exact hQ
theorem cut_ok {V : Vs} {L : List Nat} {os : List AO} {a b : Nat} {p : WE} {Q : VP} (hl : V.lookup "line" = some (.str (tx L))) (hs : V.lookup "start" = some (.int (a : Int))) (hp : ∀ (o : List AO) (Q : VP), Q (.int (b : Int)) o → p ⟨V, o⟩ Q) (hL : L.length ≤ 1000000)
    (hQ : Q (.str (tx ((L.drop a).take (b - a)))) os) : wSlice3 (wVar "line") (wVar "start") p ⟨V, os⟩ Q := by
  refine ⟨_, hl, _, hs, hp _ _ ?_⟩
  dsimp only
  rw [wCut_ii, tx_slice]
  exact ⟨by lia  , hQ⟩
theorem stop_ok {V : Vs} {b k j : Nat} (hs : V.lookup "stop" = some (.int (b : Int))) (h : b = j + k) (o : List AO) (Q : VP) (hQ : Q (.int (j : Int)) o) : wOp2 (wVar "stop") (wLit (.int (k : Int))) wSub ⟨V, o⟩ Q := by
  refine ⟨_, hs, ?_⟩
  show Q (.int ((b : Int) - k)) o
  rw [h, show ((j + k : Nat) : Int) - (k : Int) = (j : Int) by lia  ]
  exact hQ
theorem var_ok {V : Vs} {x : String} {a : AV} (h : V.lookup x = some a) (o : List AO) (Q : VP) (hQ : Q a o) : wVar x ⟨V, o⟩ Q := ⟨_, h, hQ⟩
/-- one turn of the breaking of a line -/
theorem loop_ok {V : Vs} {w : Nat} {e T : List Nat} {os : List AO} {out ls : List (List Nat)} {L : List Nat} {a : Nat} {K : VS} (hw : 4 ≤ w) (hB : BV V w e T os) (hl : V.lookup "line" = some (.str (tx L))) (hs : V.lookup "start" = some (.int (a : Int)))
    (hlt : a + w < L.length) (hL : L.length ≤ 1000000) (ho : out.length ≤ 1000000)
    (hK : ∀ (V' : Vs) (p : List Nat) (b : Nat), BV V' w e T os → V'.lookup "line" = some (.str (tx L)) → V'.lookup "laststart" = V.lookup "laststart" → V'.lookup "start" = some (.int (b : Int)) →
      ((L.drop a)[w - 3]? = some 61 ∧ p = (L.drop a).take (w - 2) ∧ b = a + (w - 3) ∨ (L.drop a)[w - 3]? ≠ some 61 ∧ (L.drop a)[w - 2]? = some 61 ∧ p = (L.drop a).take (w - 1) ∧ b = a + (w - 2) ∨
        (L.drop a)[w - 3]? ≠ some 61 ∧ (L.drop a)[w - 2]? ≠ some 61 ∧ p = (L.drop a).take (w - 1) ++ [61] ∧ b = a + (w - 1)) →
      K .next ⟨V', bObjs os (out ++ [p]) ls⟩) : tLoop ⟨V, bObjs os out ls⟩ K := by
  have g3 : L[a + (w - 3)]? = some (L[a + (w - 3)]'(by lia  )) := List.getElem?_eq_getElem _
  have g2 : L[a + (w - 2)]? = some (L[a + (w - 2)]'(by lia  )) := List.getElem?_eq_getElem _
  generalize L[a + (w - 3)]'(by lia  ) = c3 at g3
  generalize L[a + (w - 2)]'(by lia  ) = c2 at g2
  have e3 : (L.drop a)[w - 3]? = some c3 := by rw [List.getElem?_drop]; exact g3
  have e2 : (L.drop a)[w - 2]? = some c2 := by rw [List.getElem?_drop]; exact g2
  rw [e3, e2] at hK
  generalize hV1 : V.put "stop" (.int ((a + (w - 1) : Nat) : Int)) = V1
  have hB1 : BV V1 w e T os := by rw [← hV1]; exact hB.put (by decide)
  have l1 : V1.lookup "line" = some (.str (tx L)) := by rw [← hV1, vput_lookup, if_neg (by decide)]; exact hl
  have s1 : V1.lookup "start" = some (.int (a : Int)) := by rw [← hV1, vput_lookup, if_neg (by decide)]; exact hs
  have t1 : V1.lookup "stop" = some (.int ((a + (w - 1) : Nat) : Int)) := by rw [← hV1, vput_lookup, if_pos rfl]
  have z1 : V1.lookup "laststart" = V.lookup "laststart" := by rw [← hV1, vput_lookup, if_neg (by decide)]
  have fin : ∀ (p : List Nat) (b : Nat), ((some c3 = some 61 ∧ p = (L.drop a).take (w - 2) ∧ b = a + (w - 3) ∨ some c3 ≠ some 61 ∧ some c2 = some 61 ∧ p = (L.drop a).take (w - 1) ∧ b = a + (w - 2) ∨
        some c3 ≠ some 61 ∧ some c2 ≠ some 61 ∧ p = (L.drop a).take (w - 1) ++ [61] ∧ b = a + (w - 1))) → K .next ⟨V1.put "start" (AV.int (b : Int)), bObjs os (out ++ [p]) ls⟩ := fun p b h =>
    hK _ p b (hB1.put (by decide)) (by rw [vput_lookup, if_neg (by decide)]; exact l1) (by rw [vput_lookup, if_neg (by decide)]; exact z1) (by rw [vput_lookup, if_pos rfl]) h
  unfold tLoop
  refine ⟨_, hs, _, hB.wid1, ?_⟩
  dsimp only
  rw [wAdd_ii, show (a : Int) + ((w : Int) - 1) = ((a + (w - 1) : Nat) : Int) by lia  ]
  rw [set_eq, hV1]
  have n1 : a + (w - 2) - a = w - 2 := by lia  
  have n2 : a + (w - 1) - a = w - 1 := by lia  
  refine itm_ok l1 (stop_ok (k := 2) (j := a + (w - 3)) t1 (by lia  )) g3 hL ⟨fun h => ?_, fun h => ?_⟩
  · rw [decide_eq_true_iff] at h
    refine turn_ok hB1 ho (fun Q hQ => cut_ok l1 s1 (stop_ok (k := 1) (j := a + (w - 2)) t1 (by lia  )) hL hQ) (stop_ok (k := 2) (j := a + (w - 3)) t1 (by lia  )) (fin _ _ (.inl ⟨by rw [h], by rw [n1], rfl⟩))
  · rw [decide_eq_false_iff_not] at h
    have h' : some c3 ≠ some 61 := fun q => h (Option.some.inj q)
    refine itm_ok l1 (stop_ok (k := 1) (j := a + (w - 2)) t1 (by lia  )) g2 hL ⟨fun h2 => ?_, fun h2 => ?_⟩
    · rw [decide_eq_true_iff] at h2
      exact turn_ok hB1 ho (fun Q hQ => cut_ok l1 s1 (var_ok t1) hL hQ) (stop_ok (k := 1) (j := a + (w - 2)) t1 (by lia  )) (fin _ _ (.inr (.inl ⟨h', by rw [h2], by rw [n2], rfl⟩)))
    · rw [decide_eq_false_iff_not] at h2
      refine turn_ok (x := (L.drop a).take (w - 1) ++ [61]) hB1 ho (fun Q hQ => cut_ok l1 s1 (var_ok t1) hL ?_) (var_ok t1) (fin _ _ (.inr (.inr ⟨h', fun q => h2 (Option.some.inj q), rfl, rfl⟩)))
      unfold wLit
      dsimp only
      rw [eqS, wAdd_ss, n2]
      refine ⟨?_, hQ⟩
      rw [List.length_take, List.length_drop, List.length_singleton]
      lia  
end Mine
end P28
section P29
set_option maxRecDepth 100000
set_option Elab.async false
set_option autoImplicit false
set_option linter.unusedVariables false
set_option linter.unusedSimpArgs false
namespace Mine
open PySem
noncomputable def c_quote (as : List AV) (os : List AO) (Q : VP) : Prop := ∃ c, as = [.str (tx [c])] ∧ c < 256 ∧ Q (.str (tx (esc c))) os
theorem c_quote_s {c : Nat} (h : c < 256) {os : List AO} {Q : VP} (q : Q (.str (tx (esc c))) os) : c_quote [.str (tx [c])] os Q := ⟨c, rfl, h, q⟩
theorem blS : Str.ofString " \t" = tx [32, 9] := by decide +kernel
theorem crS : Str.ofString "\r\n" = tx [13, 10] := by decide +kernel
theorem emS : Str.ofString "" = tx [] := by decide +kernel
theorem in_two (c a b : Nat) : Txt.contains (tx [a, b]) (tx [c]) = decide (c = a ∨ c = b) := by
  rw [Bool.eq_iff_iff, cut_contains (by simp), decide_eq_true_iff]
  constructor
  · rintro ⟨i, h⟩
    have := h.subset (List.mem_singleton.mpr rfl)
    have := List.mem_of_mem_drop this
    simpa using this
  · rintro (rfl | rfl)
    · exact ⟨0, [b], rfl⟩
    · exact ⟨1, [], rfl⟩
structure LV (V : Vs) (w : Nat) (e T : List Nat) (os : List AO) (L : List Nat) (a : Nat) : Prop where
  b : BV V w e T os
  line : V.lookup "line" = some (.str (tx L))
  last : V.lookup "laststart" = some (.int ((L.length : Int) - 1 - w))
  start : V.lookup "start" = some (.int (a : Int))
theorem bs_ar {w a k d : Nat} (hw : 4 ≤ w) (h : w < d) (hk : k = w - 3 ∨ k = w - 2 ∨ k = w - 1) : a < a + k ∧ a + k ≤ a + d := by lia  
theorem brk_step {w a b : Nat} {D p : List Nat} {rs : List (List Nat)} {z : List Nat} (hw : 4 ≤ w) (hb : Brk w D rs z) (hlt : w < D.length)
    (hc : D[w - 3]? = some 61 ∧ p = D.take (w - 2) ∧ b = a + (w - 3) ∨ D[w - 3]? ≠ some 61 ∧ D[w - 2]? = some 61 ∧ p = D.take (w - 1) ∧ b = a + (w - 2) ∨ D[w - 3]? ≠ some 61 ∧ D[w - 2]? ≠ some 61 ∧ p = D.take (w - 1) ++ [61] ∧ b = a + (w - 1)) :
    ∃ rs', rs = p :: rs' ∧ Brk w (D.drop (b - a)) rs' z ∧ a < b ∧ b ≤ a + D.length := by
  cases hb with
  | stop _ h => exact absurd h (Nat.not_le.mpr hlt)
  | two _ rs'' _ h e t =>
    rcases hc with ⟨_, rfl, rfl⟩ | ⟨e1, _⟩ | ⟨e1, _⟩
    · exact ⟨_, rfl, by rw [Nat.add_sub_cancel_left]; exact t, bs_ar hw h (.inl rfl)⟩
    · exact absurd e e1
    · exact absurd e e1
  | one _ rs'' _ h e3 e t =>
    rcases hc with ⟨e1, _⟩ | ⟨_, _, rfl, rfl⟩ | ⟨_, e2, _⟩
    · exact absurd e1 e3
    · exact ⟨_, rfl, by rw [Nat.add_sub_cancel_left]; exact t, bs_ar hw h (.inr (.inl rfl))⟩
    · exact absurd e e2
  | plain _ rs'' _ h e3 e t =>
    rcases hc with ⟨e1, _⟩ | ⟨_, e2, _⟩ | ⟨_, _, rfl, rfl⟩
    · exact absurd e1 e3
    · exact absurd e2 e
    · exact ⟨_, rfl, by rw [Nat.add_sub_cancel_left]; exact t, bs_ar hw h (.inr (.inr rfl))⟩
theorem brk_stop {w : Nat} {D z : List Nat} {rs : List (List Nat)} (hb : Brk w D rs z) (h : D.length ≤ w) : D = z ∧ rs = [] := by
  cases hb with
  | stop => exact ⟨rfl, rfl⟩
  | two _ _ _ h' => exact absurd h' (Nat.not_lt.mpr h)
  | one _ _ _ h' => exact absurd h' (Nat.not_lt.mpr h)
  | plain _ _ _ h' => exact absurd h' (Nat.not_lt.mpr h)
theorem dec_room (a w l : Nat) : decide ((a : Int) ≤ (l : Int) - 1 - w) = decide (a + w < l) := by rw [decide_eq_decide]; lia  
theorem tTest_ok {V : Vs} {w : Nat} {e T : List Nat} {os o : List AO} {L : List Nat} {a : Nat} {K : Bool → List AO → Prop} (hV : LV V w e T os L a) (hK : K (decide (a + w < L.length)) o) : tTest ⟨V, o⟩ K := by
  rw [← dec_room] at hK
  exact ⟨_, hV.start, _, hV.last, _, rfl, hK⟩
theorem len_dn {dn rs' rs out : List (List Nat)} (h : dn ++ rs' = rs) (ho : out.length + rs.length ≤ 1000000) : (out ++ dn).length ≤ 1000000 := by
  rw [← h] at ho
  rw [List.length_append] at ho ⊢
  lia  
theorem rm1 {a w l d : Nat} (h : a + w < l) (hd : d = l - a) : w < d := by lia  
theorem rm2 {a b l d : Nat} (h1 : a < b) (h2 : b ≤ a + d) (hd : d = l - a) (ha : a ≤ l) : l - b < l - a ∧ b ≤ l := by lia  
theorem rm3 {a w l d : Nat} (h : ¬ a + w < l) (hd : d = l - a) : d ≤ w := by lia  
theorem loop_all {V : Vs} {w : Nat} {e T : List Nat} {os : List AO} {out ls : List (List Nat)} {L z : List Nat} {rs : List (List Nat)} {K : VS} (hw : 4 ≤ w) (hV : LV V w e T os L 0) (hL : L.length ≤ 1000000) (ho : out.length + rs.length ≤ 1000000) (hb : Brk w L rs z)
    (hK : ∀ V' a, LV V' w e T os L a → L.drop a = z → a ≤ L.length → K .next ⟨V', bObjs os (out ++ rs) ls⟩) : wWhile tTest tLoop ⟨V, bObjs os out ls⟩ K := by
  refine while_run (fun m σ => ∃ a rs' dn, LV σ.vars w e T os L a ∧ σ.objs = bObjs os (out ++ dn) ls ∧ Brk w (L.drop a) rs' z ∧ dn ++ rs' = rs ∧ a ≤ L.length ∧ m = L.length - a) ?_ (m := L.length) ⟨0, rs, [], hV, by simp, hb, rfl, Nat.zero_le _, rfl⟩
  rintro m ⟨V1, o1⟩ ⟨a, rs', dn, hV1, rfl, hb1, hrs, ha, rfl⟩
  have hdl : (L.drop a).length = L.length - a := List.length_drop
  refine ⟨decide (a + w < L.length), fun K' hK' => tTest_ok hV1 hK', fun hlt K' hK' => ?_, fun hge => ?_⟩
  · rw [decide_eq_true_iff] at hlt
    refine loop_ok hw hV1.b hV1.line hV1.start hlt hL (len_dn hrs ho) fun V' p b hB' hl' hs' hst' hc => ?_
    obtain ⟨rs'', rfl, hbk, h1, h2⟩ := brk_step hw hb1 (rm1 hlt hdl) hc
    obtain ⟨g1, g2⟩ := rm2 h1 h2 hdl ha
    rw [List.drop_drop, Nat.add_sub_cancel' (Nat.le_of_lt h1)] at hbk
    rw [List.append_assoc]
    exact hK' (L.length - b) _ g1 ⟨b, rs'', dn ++ [p], ⟨hB', hl', hs'.trans hV1.last, hst'⟩, rfl, hbk, by rw [List.append_assoc]; exact hrs, g2, rfl⟩
  · rw [decide_eq_false_iff_not] at hge
    obtain ⟨hz, rfl⟩ := brk_stop hb1 (rm3 hge hdl)
    rw [List.append_nil] at hrs
    rw [hrs]
    exact hK V1 a hV1 hz ha
theorem blank (L z : List Nat) (c a : Nat) (h : L.drop a = z ++ [c]) (ha : a ≤ L.length) : ∃ L', L = L' ++ [c] ∧ L'.drop a = z ∧ L'.length = a + z.length := by
  refine ⟨L.take a ++ z, ?_, ?_, ?_⟩
  · rw [List.append_assoc, ← h, List.take_append_drop]
  · rw [List.drop_left' (by simp; lia  )]
  · simp; lia  
theorem callq {p : WE} {V : Vs} {os : List AO} {c : Nat} {Q : VP} (h : c < 256) (hp : ∀ Q : VP, Q (.str (tx [c])) os → p ⟨V, os⟩ Q) (hQ : Q (.str (tx (esc c))) os) : wCall (wCons p wNil) c_quote ⟨V, os⟩ Q := by
  refine hp _ ?_
  unfold wNil
  exact c_quote_s h hQ
theorem append_new {os : List AO} {out ls : List (List Nat)} {rs o : List (List Nat)} {p : List Nat} (h : o = rs ++ [p]) : bObjs os (out ++ rs ++ [p]) ls = bObjs os (out ++ o) ls := by rw [List.append_assoc, ← h]
noncomputable def q1 (c_quote : List AV → List AO → VP → Prop) : WS := (wSeq (wSet "q" (wCall (wCons (wSub2 (wVar "line") (wOp1 (wLit (.int 1)) wNeg)) wNil) c_quote)) wSkip)
noncomputable def q2 : WS := (wSeq (wSet "q" (wOp2 (wSub2 (wVar "line") (wOp1 (wLit (.int 1)) wNeg)) (wVar "soft_break") wAdd)) wSkip)
noncomputable def q3 (c_quote : List AV → List AO → VP → Prop) : WS := (wSeq (wSet "q" (wOp2 (wVar "soft_break") (wCall (wCons (wSub2 (wVar "line") (wOp1 (wLit (.int 1)) wNeg)) wNil) c_quote) wAdd)) wSkip)
noncomputable def qPut : WS := (wSeq (wExpr (wLocCall "append" (wCons (wOp2 (wSlice3 (wVar "line") (wVar "start") (wOp1 (wLit (.int 1)) wNeg)) (wVar "q") wAdd) wNil))) wSkip)
noncomputable def qAll (c_quote : List AV → List AO → VP → Prop) : WS := (wSeq (wSet "room" (wOp2 (wVar "start") (wVar "laststart") wSub)) (wSeq (wIf (wCmp (wVar "room") (wLit (.int 3)) wGe) (q1 c_quote) (wSeq (wIf (wCmp (wVar "room") (wLit (.int 2)) wEq) q2 (q3 c_quote)) wSkip)) qPut))
noncomputable def tBl : WB := (wAndB (wVal (wVar "line")) (wCmp (wSub2 (wVar "line") (wOp1 (wLit (.int 1)) wNeg)) (wLit (.str (Str.ofString " \t"))) wIn))
noncomputable def qNo : WS := (wSeq (wExpr (wLocCall "append" (wCons (wSlice3 (wVar "line") (wVar "start") (wLit .none)) wNil))) wSkip)
theorem tLast_eq (c : List AV → List AO → VP → Prop) : tLast c = wIf tBl (qAll c) qNo := rfl
/-- line[-1] -/
theorem lastc_ok {V : Vs} {x : String} {L : List Nat} {c : Nat} {os : List AO} {Q : VP} (hl : V.lookup x = some (.str (tx (L ++ [c])))) (hL : (L ++ [c]).length ≤ 1000000) (hQ : Q (.str (tx [c])) os) : wSub2 (wVar x) (wOp1 (wLit (.int 1)) wNeg) ⟨V, os⟩ Q := by
  have it : Txt.item (tx (L ++ [c])) (-1) = tx [c] := tx_item_last L c
  refine ⟨_, hl, ?_⟩
  show wItem (.str (tx (L ++ [c]))) (.int (-1)) os Q
  rw [wItem_s, it]
  rw [List.length_append, List.length_singleton] at *
  exact ⟨by lia  , by lia  , by lia  , hQ⟩
theorem tBl_ok {V : Vs} {L : List Nat} {c : Nat} {os : List AO} {Q : Bool → List AO → Prop} (hl : V.lookup "line" = some (.str (tx (L ++ [c])))) (hL : (L ++ [c]).length ≤ 1000000) (hQ : Q (decide (c = 32 ∨ c = 9)) os) : tBl ⟨V, os⟩ Q := by
  refine ⟨_, hl, fun x hx => by cases hx; rw [tx_len]; lia  , true, ?_, fun _ => lastc_ok hl hL ?_, fun h => by cases h⟩
  · rw [truth_s]; cases L <;> rfl
  unfold wLit
  dsimp only
  rw [blS, wIn_ss, in_two]
  exact ⟨_, rfl, hQ⟩
theorem tBl_nil {V : Vs} {os : List AO} {Q : Bool → List AO → Prop} (hl : V.lookup "line" = some (.str (tx []))) (hQ : Q false os) : tBl ⟨V, os⟩ Q :=
  ⟨_, hl, fun x hx => by cases hx; rw [tx_len]; decide, false, truth_s _ _, ⟨fun h => absurd h (by decide), fun _ => hQ⟩⟩
/-- the last piece, the line's blank at its end written apart -/
theorem qPut_ok {V : Vs} {w a : Nat} {e T L z q : List Nat} {c : Nat} {os : List AO} {out ls : List (List Nat)} {K : VS} (hB : BV V w e T os) (hl : V.lookup "line" = some (.str (tx (L ++ [c])))) (hs : V.lookup "start" = some (.int (a : Int))) (hq : V.lookup "q" = some (.str (tx q))) (hL : (L ++ [c]).length ≤ 1000000) (hd : L.drop a = z) (hz : q.length ≤ 2000)
    (hla : L.length = a + z.length) (ho : out.length ≤ 1000000) (hK : K .next ⟨V, bObjs os (out ++ [z ++ q]) ls⟩) : qPut ⟨V, bObjs os out ls⟩ K := by
  refine app_ok hB ho (fun Q hQ => ⟨_, hl, _, hs, ?_⟩) hK
  show wCut (.str (tx (L ++ [c]))) (.int (a : Int)) (.int (-1)) (bObjs os out ls) fun a o1 => wVar "q" ⟨V, o1⟩ fun b o2 => wAdd [a, b] o2 Q
  have sl : Txt.slice (tx (L ++ [c])) (some (a : Int)) (some (-1)) = tx z := by rw [tx_slice_last, hd]
  rw [wCut_ii, sl]
  refine ⟨by lia  , _, hq, ?_⟩
  dsimp only
  rw [wAdd_ss]
  rw [List.length_append, List.length_singleton] at hL
  exact ⟨by lia  , hQ⟩
/-- the three ways to write the blank -/
theorem qAll_ok {V : Vs} {w a : Nat} {e T L z q : List Nat} {c : Nat} {os : List AO} {out ls : List (List Nat)} {K : VS} (hw : 4 ≤ w) (hV : LV V w e T os (L ++ [c]) a) (hc : c = 32 ∨ c = 9) (hL : (L ++ [c]).length ≤ 1000000) (he : e.length ≤ 1000) (hd : L.drop a = z) (hla : L.length = a + z.length) (ho : out.length ≤ 1000000)
    (hq : z.length + 3 ≤ w ∧ q = esc c ∨ z.length + 2 = w ∧ q = [c] ++ (61 :: e) ∨ z.length + 1 = w ∧ q = (61 :: e) ++ esc c)
    (hK : ∀ V', BV V' w e T os → K .next ⟨V', bObjs os (out ++ [z ++ q]) ls⟩) : qAll c_quote ⟨V, bObjs os out ls⟩ K := by
  have c256 : c < 256 := by rcases hc with rfl | rfl <;> decide
  have room : (a : Int) - (((L ++ [c]).length : Int) - 1 - w) = (w : Int) - z.length := by rw [List.length_append, List.length_singleton]; lia  
  have el : (esc c).length = 3 := rfl
  have e1 : (61 :: e).length = e.length + 1 := rfl
  generalize hV1 : V.put "room" (.int ((w : Int) - z.length)) = V1
  have hB1 : BV V1 w e T os := by rw [← hV1]; exact hV.b.put (by decide)
  have l1 : V1.lookup "line" = some (.str (tx (L ++ [c]))) := by rw [← hV1, vput_lookup, if_neg (by decide)]; exact hV.line
  have s1 : V1.lookup "start" = some (.int (a : Int)) := by rw [← hV1, vput_lookup, if_neg (by decide)]; exact hV.start
  have r1 : V1.lookup "room" = some (.int ((w : Int) - z.length)) := by rw [← hV1, vput_lookup, if_pos rfl]
  have fin : ∀ {K' : VS}, (∀ V', BV V' w e T os → K' .next ⟨V', bObjs os (out ++ [z ++ q]) ls⟩) → q.length ≤ 2000 → qPut ⟨V1.put "q" (.str (tx q)), bObjs os out ls⟩ K' := fun hK' hql =>
    qPut_ok (hB1.put (by decide)) (by rw [vput_lookup, if_neg (by decide)]; exact l1) (by rw [vput_lookup, if_neg (by decide)]; exact s1) (by rw [vput_lookup, if_pos rfl]) hL hd hql hla ho (hK' _ (hB1.put (by decide)))
  unfold qAll
  refine ⟨_, hV.start, _, hV.last, ?_⟩
  dsimp only
  rw [wSub_ii, room, set_eq, hV1]
  refine ⟨_, r1, ?_⟩
  unfold wLit
  dsimp only
  rw [wGe_ii]
  refine ⟨_, rfl, fun h => ?_, fun h => ?_⟩
  · have hq' : q = esc c := by rw [decide_eq_true_iff] at h; exact hq.elim (fun h1 => h1.2) fun h1 => h1.elim (fun h1 => by lia  ) fun h1 => by lia  
    subst hq'
    exact callq c256 (fun Q hQ => lastc_ok l1 hL hQ) (fin hK (by lia  ))
  · refine ⟨_, r1, ?_⟩
    dsimp only
    rw [wEq_ii]
    rw [decide_eq_false_iff_not] at h
    refine ⟨_, rfl, fun h2 => ?_, fun h2 => ?_⟩
    · have hq' : q = [c] ++ (61 :: e) := by rw [decide_eq_true_iff] at h2; exact hq.elim (fun h1 => by lia  ) fun h1 => h1.elim (fun h1 => h1.2) fun h1 => by lia  
      subst hq'
      refine lastc_ok l1 hL ⟨_, hB1.soft, ?_⟩
      dsimp only
      rw [wAdd_ss, List.length_singleton, e1]
      exact ⟨by lia  , fin hK (by rw [List.length_append, List.length_singleton, e1]; lia  )⟩
    · have hq' : q = (61 :: e) ++ esc c := by rw [decide_eq_false_iff_not] at h2; exact hq.elim (fun h1 => by lia  ) fun h1 => h1.elim (fun h1 => by lia  ) fun h1 => h1.2
      subst hq'
      refine ⟨_, hB1.soft, callq c256 (fun Q hQ => lastc_ok l1 hL hQ) ?_⟩
      dsimp only
      rw [wAdd_ss, e1, el]
      exact ⟨by lia  , fin hK (by rw [List.length_append, e1, el]; lia  )⟩
theorem qNo_ok {V : Vs} {w a : Nat} {e T L z : List Nat} {os : List AO} {out ls : List (List Nat)} {K : VS} (hV : LV V w e T os L a) (hL : L.length ≤ 1000000) (hd : L.drop a = z) (ho : out.length ≤ 1000000) (hK : K .next ⟨V, bObjs os (out ++ [z]) ls⟩) : qNo ⟨V, bObjs os out ls⟩ K := by
  refine app_ok hV.b ho (fun Q hQ => ⟨_, hV.line, _, hV.start, ?_⟩) hK
  show wCut (.str (tx L)) (.int (a : Int)) .none _ _
  rw [wCut_in, tx_slice_from, hd]
  exact ⟨by lia  , hQ⟩
/-- a line -/
theorem line_ok {V : Vs} {w : Nat} {e T : List Nat} {os : List AO} {out ls : List (List Nat)} {L : List Nat} {o : List (List Nat)} {K : VS} (hw : 4 ≤ w) (hB : BV V w e T os) (hl : V.lookup "line" = some (.str (tx L))) (hL : L.length ≤ 1000000) (he : e.length ≤ 1000) (ho : out.length + o.length ≤ 1000000) (hc : EncLine w e L o)
    (hK : ∀ V', BV V' w e T os → K .next ⟨V', bObjs os (out ++ o) ls⟩) : tLine c_quote ⟨V, bObjs os out ls⟩ K := by
  have fin : ∀ rs p z, Brk w L rs z → o = rs ++ [p] → (∀ (V' : Vs) (a : Nat) (K' : VS), LV V' w e T os L a → L.drop a = z → a ≤ L.length → (out ++ rs).length ≤ 1000000 → (∀ V', BV V' w e T os → K' .next ⟨V', bObjs os (out ++ rs ++ [p]) ls⟩) → tLast c_quote ⟨V', bObjs os (out ++ rs) ls⟩ K') → tLine c_quote ⟨V, bObjs os out ls⟩ K := fun rs p z hbk ho' h => by
    have hlen : rs.length + 1 = o.length := by rw [ho', List.length_append, List.length_singleton]
    unfold tLine
    refine ⟨.str (tx L), ?_, ?_⟩
    · rw [set_eq, vput_lookup, if_neg (by decide)]; exact hl
    unfold wNil wLit
    dsimp only
    rw [wLen_s]
    refine ⟨by lia  , .int w, ?_, ?_⟩
    · rw [set_eq, vput_lookup, if_neg (by decide)]; exact hB.wid
    dsimp only
    rw [wSub_ii, set_eq, set_eq]
    refine loop_all (L := L) hw ⟨(hB.put (by decide)).put (by decide), by rw [vput_lookup, if_neg (by decide), vput_lookup, if_neg (by decide)]; exact hl, by rw [vput_lookup, if_pos rfl], by rw [vput_lookup, if_neg (by decide), vput_lookup, if_pos rfl]; rfl⟩ hL (by lia  ) hbk fun V' a hV' hd ha => ?_
    exact h V' a _ hV' hd ha (by rw [List.length_append]; lia  ) fun V2 hB2 => by rw [append_new ho']; exact hK V2 hB2
  have blk : ∀ rs z c q, (c = 32 ∨ c = 9) → Brk w L rs (z ++ [c]) → o = rs ++ [z ++ q] → (z.length + 3 ≤ w ∧ q = esc c ∨ z.length + 2 = w ∧ q = [c] ++ (61 :: e) ∨ z.length + 1 = w ∧ q = (61 :: e) ++ esc c) → tLine c_quote ⟨V, bObjs os out ls⟩ K := fun rs z c q hcc hbk ho' hq =>
    fin rs _ _ hbk ho' fun V1 a K' hV hd ha hlen hK' => by
      obtain ⟨L', rfl, hd', hla⟩ := blank L z c a hd ha
      rw [tLast_eq]
      refine tBl_ok hV.line hL ⟨fun _ => qAll_ok hw hV hcc hL he hd' hla hlen hq hK', fun h => ?_⟩
      rw [decide_eq_false_iff_not] at h
      exact absurd hcc h
  cases hc with
  | plain rs z hne hbk =>
    refine fin rs z z hbk rfl fun V1 a K' hV hd ha hlen hK' => ?_
    have no : qNo ⟨V1, bObjs os (out ++ rs) ls⟩ K' := qNo_ok hV hL hd hlen (hK' _ hV.b)
    rw [tLast_eq]
    rcases List.eq_nil_or_concat L with rfl | ⟨L', c, rfl⟩
    · refine tBl_nil hV.line ?_
      exact ⟨fun h => absurd h (by decide), fun _ => no⟩
    · rw [List.concat_eq_append] at *
      refine tBl_ok hV.line hL ⟨fun h => ?_, fun _ => no⟩
      rw [decide_eq_true_iff] at h
      rcases h with rfl | rfl
      · exact absurd (by simp) hne.1
      · exact absurd (by simp) hne.2
  | far rs z c hc hbk hz => exact blk rs z c _ hc hbk rfl (.inl ⟨hz, rfl⟩)
  | near rs z c hc hbk hz => exact blk rs z c _ hc hbk rfl (.inr (.inl ⟨hz, rfl⟩))
  | full rs z c hc hbk hz => exact blk rs z c _ hc hbk rfl (.inr (.inr ⟨hz, rfl⟩))
end Mine
end P29
section P30
set_option maxRecDepth 100000
set_option Elab.async false
set_option autoImplicit false
set_option linter.unusedVariables false
set_option linter.unusedSimpArgs false
namespace Mine
open PySem
noncomputable def endBr (T : List Nat) (out : List (List Nat)) : List (List Nat) := if T.getLast? = some 13 ∨ T.getLast? = some 10 then out ++ [[]] else out
theorem enc1_ne (c : Nat) : enc1 c ≠ [] := by unfold enc1; split <;> simp [esc]
theorem encT_ne {B : List Nat} (h : B ≠ []) : encT B ≠ [] := by
  cases B with
  | nil => exact absurd rfl h
  | cons c r => unfold encT; rw [List.flatMap_cons]; intro q; exact enc1_ne c (List.append_eq_nil_iff.mp q).1
theorem lns_sizes {l : List Nat} {ps : List (List Nat)} (h : Lns l ps) : ps.length ≤ l.length ∧ ∀ p ∈ ps, p.length ≤ l.length := by
  induction h with
  | nil => exact ⟨Nat.le_refl _, fun _ h => by simp at h⟩
  | last p h n => exact ⟨by have := List.length_pos_iff.mpr h; simp only [List.length_singleton]; lia  , fun q hq => by simp at hq; rw [hq]; exact Nat.le_refl _⟩
  | cons p b r ps n hb t ih =>
    have : 1 ≤ b.length := by rcases hb with rfl | rfl | ⟨rfl, _⟩ <;> simp
    refine ⟨by simp; lia  , fun q hq => ?_⟩
    rcases List.mem_cons.mp hq with rfl | hq
    · simp
    · have := ih.2 q hq; simp; lia  
noncomputable def b0 : WS := (wIf (wCmp (wVar "maxlinelen") (wLit (.int 4)) wLt) (wSeq wRaise wSkip) wSkip)
noncomputable def b1 : WS := (wIf (wNotB (wVal (wVar "body"))) (wSeq (wRet (wVar "body")) wSkip) wSkip)
noncomputable def b2 (bA : Addr) : WS := (wSet "body" (wMeth isS (wVar "body") (wCons (wLit (.lit (.ref bA))) wNil) (wTrans bA bmL)))
noncomputable def b3 : WS := (wSet "soft_break" (wOp2 (wLit (.str (Str.ofString "="))) (wVar "eol") wAdd))
noncomputable def b4 : WS := (wSet "maxlinelen1" (wOp2 (wVar "maxlinelen") (wLit (.int 1)) wSub))
noncomputable def b5 : WS := (wSet "encoded_body" (wList wNil))
noncomputable def b6 : WS := (wSet "append" (wAppAttr (wVar "encoded_body")))
noncomputable def b7 (c_quote : List AV → List AO → VP → Prop) : WS := (wFor (wIter (wMeth isS (wVar "body") wNil wLines)) (.one "line") (tLine c_quote))
noncomputable def b8 : WS := (wIf (wCmp (wSub2 (wVar "body") (wOp1 (wLit (.int 1)) wNeg)) (wLit (.str (Str.ofString "\r\n"))) wIn) (wSeq (wExpr (wLocCall "append" (wCons (wLit (.str (Str.ofString ""))) wNil))) wSkip) wSkip)
noncomputable def b9 : WS := (wRet (wMeth isS (wVar "eol") (wCons (wVar "encoded_body") wNil) wJoin))
theorem tBody_eq (bA : Addr) (c : List AV → List AO → VP → Prop) : tBody bA c = (wSeq b0 (wSeq b1 (wSeq (b2 bA) (wSeq b3 (wSeq b4 (wSeq b5 (wSeq b6 (wSeq (b7 c) (wSeq b8 (wSeq b9 wSkip)))))))))) := rfl
theorem vneq {V : Vs} {x y : String} {a : AV} {v : Option AV} (h : V.lookup y = v) (n : ¬ y = x) : (V.put x a).lookup y = v := by rw [vput_lookup, if_neg n]; exact h
theorem veq {V : Vs} {x : String} {a : AV} : (V.put x a).lookup x = some a := by rw [vput_lookup, if_pos rfl]
theorem bh1 {V : Vs} {w : Nat} {os : List AO} {R : WS} {K : VS} (hm : V.lookup "maxlinelen" = some (.int w)) (hw : 4 ≤ w) (hK : R ⟨V, os⟩ K) : wSeq b0 R ⟨V, os⟩ K := by
  refine ⟨_, hm, ?_⟩
  unfold wLit
  dsimp only
  rw [wLt_ii, decide_eq_false (show ¬ (w : Int) < 4 by lia  )]
  refine ⟨_, rfl, ?_⟩
  exact ⟨fun h => absurd h (by decide), fun _ => hK⟩
theorem bh2 {V : Vs} {B : List Nat} {os : List AO} {R : WS} {K : VS} (hb : V.lookup "body" = some (.str (tx B))) (hB : B ≠ []) (hl : B.length ≤ 100000) (hK : R ⟨V, os⟩ K) : wSeq b1 R ⟨V, os⟩ K := by
  refine ⟨_, hb, fun x hx => by cases hx; rw [tx_len]; lia  , true, ?_, ?_⟩
  rotate_left
  · exact ⟨fun h => absurd h (by decide), fun _ => hK⟩
  rw [truth_s]
  cases B with | nil => exact absurd rfl hB | cons => rfl
theorem bh3 {bA : Addr} {V : Vs} {B : List Nat} {os : List AO} {R : WS} {K : VS} (hb : V.lookup "body" = some (.str (tx B))) (h256 : ∀ c ∈ B, c < 256) (hl : B.length ≤ 100000) (hK : R ⟨V.put "body" (.str (tx (encT B))), os⟩ K) : wSeq (b2 bA) R ⟨V, os⟩ K := by
  have hTl := encT_len B
  have ctx : ∀ c ∈ (tx B).cps.toList, c < bmL.length := fun c hc => by rw [show bmL.length = 256 by simp [bmL]]; exact h256 c (by simpa using hc)
  refine ⟨_, hb, ⟨_, rfl⟩, rfl, ctx, ?_, ?_⟩
  · rw [tx_cps, tr_len h256]; lia  
  · rw [tx_cps, tr_enc h256]; exact hK
theorem bh4 {V : Vs} {e : List Nat} {os : List AO} {R : WS} {K : VS} (he : V.lookup "eol" = some (.str (tx e))) (hl : e.length ≤ 1000) (hK : R ⟨V.put "soft_break" (.str (tx (61 :: e))), os⟩ K) : wSeq b3 R ⟨V, os⟩ K := by
  refine ⟨_, he, ?_⟩
  dsimp only
  rw [eqS, wAdd_ss]
  exact ⟨by rw [List.length_singleton]; lia  , hK⟩
theorem bh {bA : Addr} {V : Vs} {B e : List Nat} {w : Nat} {os : List AO} {R : WS} {K : VS} (hb : V.lookup "body" = some (.str (tx B))) (hm : V.lookup "maxlinelen" = some (.int w)) (he : V.lookup "eol" = some (.str (tx e))) (hr : V.ro = os.length) (hw : 4 ≤ w) (hB : B ≠ []) (h256 : ∀ c ∈ B, c < 256) (hl : B.length ≤ 100000) (hel : e.length ≤ 1000)
    (hK : ∀ V', BV V' w e (encT B) os → R ⟨V', os ++ [.list []] ++ [.app os.length]⟩ K) : wSeq b0 (wSeq b1 (wSeq (b2 bA) (wSeq b3 (wSeq b4 (wSeq b5 (wSeq b6 R)))))) ⟨V, os⟩ K := by
  refine bh1 hm hw (bh2 hb hB hl (bh3 hb h256 hl (bh4 (vneq he (by decide)) hel ?_)))
  have m1 : ((V.put "body" (.str (tx (encT B)))).put "soft_break" (.str (tx (61 :: e)))).lookup "maxlinelen" = some (.int w) := vneq (vneq hm (by decide)) (by decide)
  refine ⟨_, m1, by decide, _, veq, os.length, [], rfl, List.getElem?_concat_length .., ?_⟩
  show R ⟨((((V.put "body" (.str (tx (encT B)))).put "soft_break" (.str (tx (61 :: e)))).put "maxlinelen1" (.int ((w : Int) - 1))).put "encoded_body" (.ref os.length)).put "append" (.ref (os ++ [AO.list []]).length), os ++ [.list []] ++ [.app os.length]⟩ K
  refine hK _ ⟨?_, ?_, ?_, ?_, ?_, ?_, ?_, ?_⟩
  · exact vneq (vneq (vneq (vneq veq (by decide)) (by decide)) (by decide)) (by decide)
  · exact vneq (vneq (vneq m1 (by decide)) (by decide)) (by decide)
  · exact vneq (vneq (vneq (vneq (vneq he (by decide)) (by decide)) (by decide)) (by decide)) (by decide)
  · exact vneq (vneq (vneq veq (by decide)) (by decide)) (by decide)
  · exact vneq (vneq veq (by decide)) (by decide)
  · exact vneq veq (by decide)
  · rw [veq, List.length_append]; rfl
  · exact hr
/-- what stands behind the lines -/
theorem bt {V : Vs} {T e : List Nat} {w : Nat} {os : List AO} {dn ls : List (List Nat)} {Q : VP} (hV : BV V w e T os) (hT : T ≠ []) (hTl : T.length ≤ 1000000) (hn : dn.length ≤ 900000) (hz : ((endBr T dn).map List.length).sum + (endBr T dn).length * e.length ≤ 16777216) (hQ : ∀ ex, Q (.str (tx (joinL e (endBr T dn)))) (os ++ ex)) :
    wSeq b8 (wSeq b9 wSkip) ⟨V, bObjs os dn ls⟩ fun fl σ' => Q (retOf fl) σ'.objs := by
  obtain ⟨T', c, rfl⟩ : ∃ T' c, T = T' ++ [c] := by
    rcases List.eq_nil_or_concat T with rfl | ⟨T', c, rfl⟩
    · exact absurd rfl hT
    · exact ⟨T', c, List.concat_eq_append ..⟩
  have hlast : (T' ++ [c]).getLast? = some c := by simp
  have last : ∀ dn', (dn'.map List.length).sum + dn'.length * e.length ≤ 16777216 → (∀ ex, Q (.str (tx (joinL e dn'))) (os ++ ex)) → wSeq b9 wSkip ⟨V, bObjs os dn' ls⟩ fun fl σ' => Q (retOf fl) σ'.objs := fun dn' hz' hQ' =>
    ⟨_, hV.eol, ⟨_, rfl⟩, _, hV.enc, wJoin_k dn' (bObjs_0 _ _ _) hz' (hQ' _)⟩
  refine lastc_ok hV.body (by lia  ) ?_
  unfold wLit
  dsimp only
  rw [crS, wIn_ss, in_two]
  refine ⟨_, rfl, fun h => ?_, fun h => ?_⟩
  · rw [decide_eq_true_iff] at h
    have eb : endBr (T' ++ [c]) dn = dn ++ [[]] := by unfold endBr; rw [if_pos (by rw [hlast]; simpa using h)]
    rw [eb] at hz hQ
    refine app_ok (x := []) hV (by lia  ) (fun Q hQ => ?_) (last _ hz hQ)
    rw [emS]; exact hQ
  · rw [decide_eq_false_iff_not] at h
    have eb : endBr (T' ++ [c]) dn = dn := by unfold endBr; rw [if_neg (by rw [hlast]; simpa using h)]
    rw [eb] at hz hQ
    exact last _ hz hQ
/-- the lines -/
theorem bl {V : Vs} {T e : List Nat} {w : Nat} {os : List AO} {ls out : List (List Nat)} {R : WS} {K : VS} (hw : 4 ≤ w) (hV : BV V w e T os) (hl : Lns T ls) (hTl : T.length ≤ 1000000) (he : e.length ≤ 1000) (ho : EncLines w e ls out) (hn : out.length ≤ 900000) (hK : ∀ V', BV V' w e T os → R ⟨V', bObjs os out ls⟩ K) :
    wSeq (b7 c_quote) R ⟨V, os ++ [.list []] ++ [.app os.length]⟩ K := by
  have hls := lns_sizes hl
  have hlines := tx_lines hl
  refine ⟨_, hV.body, ⟨_, rfl⟩, ?_⟩
  unfold wNil
  dsimp only
  rw [wLines_s, hlines.1]
  refine ⟨hTl, by lia  , ?_⟩
  have eo : os ++ [AO.list []] ++ [AO.app os.length] ++ [AO.list (List.map AV.str (List.map tx ls))] = bObjs os [] ls := by simp [bObjs, sL]
  have e2 : (os ++ [AO.list []] ++ [AO.app os.length]).length = os.length + 2 := by simp
  rw [eo, e2]
  refine ⟨_, iter_l (bObjs_2 _ _ _), ?_⟩
  refine for_run (n := ls.length) (fun i σ => BV σ.vars w e T os ∧ ∃ dn ol, σ.objs = bObjs os dn ls ∧ EncLines w e (ls.drop i) ol ∧ dn ++ ol = out) ?_ ?_ ⟨hV, [], out, rfl, ho, rfl⟩
  · rintro ⟨V, o⟩ ⟨hV, dn, ol, rfl, hol, hdn⟩
    refine ⟨⟨_, bObjs_2 _ _ _⟩, by rw [it_list (bObjs_2 _ _ _), List.getElem?_eq_none (by simp [sL])]; rfl, ?_⟩
    rw [List.drop_eq_nil_of_le (Nat.le_refl _)] at hol
    have : ol = [] := by cases hol; rfl
    subst this
    rw [List.append_nil] at hdn
    subst hdn
    exact hK V hV
  · rintro i ⟨V, o⟩ hi ⟨hV, dn, ol, rfl, hol, hdn⟩
    have hd := List.drop_eq_getElem_cons hi
    rw [hd] at hol
    cases hol with
    | cons _ _ o1 o2 h1 h2 =>
      refine ⟨⟨_, bObjs_2 _ _ _⟩, .av (.str (tx ls[i])), ⟨V.put "line" (.str (tx ls[i])), bObjs os dn ls⟩, ?_, rfl, fun K hK => ?_⟩
      · rw [it_list (bObjs_2 _ _ _)]
        simp [sL, hi]
      · have hlen : dn.length + (o1.length + o2.length) = out.length := by rw [← hdn]; simp
        exact line_ok hw (hV.put (by decide)) veq (by have := hls.2 ls[i] (List.getElem_mem hi); lia  ) he (by lia  ) h1 fun V' hV' => hK _ ⟨hV', dn ++ o1, o2, rfl, h2, by rw [List.append_assoc]; exact hdn⟩
theorem body_ok {bA : Addr} {B : List Nat} {w : Nat} {e : List Nat} {os : List AO} {ls out : List (List Nat)} {Q : VP} (hw : 4 ≤ w) (hB : B ≠ []) (h256 : ∀ c ∈ B, c < 256) (hsz : B.length ≤ 100000) (he : e.length ≤ 1000) (hl : Lns (encT B) ls) (ho : EncLines w e ls out)
    (hn : out.length ≤ 900000) (hz : ((endBr (encT B) out).map List.length).sum + (endBr (encT B) out).length * e.length ≤ 16777216) (hQ : ∀ ex, Q (.str (tx (joinL e (endBr (encT B) out)))) (os ++ ex)) :
    tBody bA c_quote ⟨⟨[("body", .str (tx B)), ("maxlinelen", .int w), ("eol", .str (tx e))], os.length⟩, os⟩ fun fl σ' => Q (retOf fl) σ'.objs := by
  have hTl := encT_len B
  rw [tBody_eq]
  refine bh (V := ⟨[("body", .str (tx B)), ("maxlinelen", .int w), ("eol", .str (tx e))], os.length⟩) (by simp only [vlook_cons, if_true]) (by simp only [vlook_cons, String.reduceEq, if_true, if_false]) (by simp only [vlook_cons, String.reduceEq, if_true, if_false]) rfl hw hB h256 hsz he fun V1 hV1 => ?_
  exact bl hw hV1 hl (by lia  ) he ho hn fun V2 hV2 => bt hV2 (encT_ne hB) (by lia  ) hn hz hQ
end Mine
end P30
section P31
set_option maxRecDepth 100000
set_option Elab.async false
set_option autoImplicit false
set_option linter.unusedVariables false
set_option linter.unusedSimpArgs false
namespace Mine
open PySem
noncomputable def tQuote : WS := (wSeq (wRet (wTab qmL (wCall (wCons (wVar "c") wNil) wOrd))) wSkip)
noncomputable def tPeriods (pA : Addr) : WS := (wSeq (wRet (wCall (wCons (wLit (.bytes [46, 46].toArray)) (wCons (wVar "bindata") wNil)) fun as o Q => wSubst pA (.lit (.ref pA) :: as) o Q)) wSkip)
noncomputable def tCap : WS := (wSeq (wRet (wCapJoin (wOrV (wVar "sep") (wLit (.str (Str.ofString " ")))) (wMeth isS (wVar "s") (wCons (wVar "sep") wNil) wSplit))) wSkip)
theorem quote_ok {c : Nat} {os : List AO} {Q : VP} (hc : c < 256) (q : Q (.str (tx (esc c))) os) : tQuote ⟨⟨[("c", .str (tx [c]))], os.length⟩, os⟩ fun fl σ' => Q (retOf fl) σ'.objs := by
  unfold tQuote
  simp only [wSeq, wSkip, wSet, wRet, wIf, wCmp, wVal, wNotB, wAndB, wOrB, wVar, wLit, wOp1, wOp2, wIte, wCall, wMeth, wCons, wNil, wList, wTup, wSub2, wSlice3, wExpr, wLocCall, wAppAttr, wTrue, set_eq, vput_ro, vput_lookup, vlook_cons, String.reduceEq, if_true, if_false, ↓reduceIte, Option.some.injEq, exists_eq_left', AV.bool.injEq, wAdd_ii, wAdd_ss, wAdd_bb, wIAdd_ii, wSub_ii, wMul_ii, wMul_si, wFdiv_ii, wMod_ii, wPow_ii, wNeg_i, wLt_ii, wLe_ii, wLe_ss, wGt_ii, wGe_ii, wEq_ii, wEq_ss, wNe_ii, wNe_ss, wIn_ss, wItem_s, wCut_nn, wCut_ni, wCut_in, wCut_ii, wLen_s, wOrd_s, wChr_i, wMin_ii, wCount_ss, wLower_s, wUpper_s, wSplit_ss, wLines_s, wHex_si, truth_s, truth_b, iter_s, wTab]
  refine ⟨c, rfl, by simpa [qmL] using hc, ?_⟩
  rw [qmL_get hc, qmS_esc]
  exact q
noncomputable def c_periods (as : List AV) (os : List AO) (Q : VP) : Prop := ∃ b, as = [.bytes b] ∧ b.size ≤ 2000000 ∧ Q (.bytes (stuffB b)) os
theorem periods_ok {pA : Addr} {b : Array UInt8} {os : List AO} {Q : VP} (h : b.size ≤ 2000000 ∧ Q (.bytes (stuffB b)) os) : tPeriods pA ⟨⟨[("bindata", .bytes b)], os.length⟩, os⟩ fun fl σ' => Q (retOf fl) σ'.objs := by
  unfold tPeriods
  simp only [wSeq, wSkip, wSet, wRet, wIf, wCmp, wVal, wNotB, wAndB, wOrB, wVar, wLit, wOp1, wOp2, wIte, wCall, wMeth, wCons, wNil, wList, wTup, wSub2, wSlice3, wExpr, wLocCall, wAppAttr, wTrue, set_eq, vput_ro, vput_lookup, vlook_cons, String.reduceEq, if_true, if_false, ↓reduceIte, Option.some.injEq, exists_eq_left', AV.bool.injEq, wAdd_ii, wAdd_ss, wAdd_bb, wIAdd_ii, wSub_ii, wMul_ii, wMul_si, wFdiv_ii, wMod_ii, wPow_ii, wNeg_i, wLt_ii, wLe_ii, wLe_ss, wGt_ii, wGe_ii, wEq_ii, wEq_ss, wNe_ii, wNe_ss, wIn_ss, wItem_s, wCut_nn, wCut_ni, wCut_in, wCut_ii, wLen_s, wOrd_s, wChr_i, wMin_ii, wCount_ss, wLower_s, wUpper_s, wSplit_ss, wLines_s, wHex_si, truth_s, truth_b, iter_s]
  exact ⟨rfl, rfl, h.1, h.2⟩
/-- capwords with a mark -/
noncomputable def c_cap (as : List AV) (os : List AO) (Q : VP) : Prop := ∃ l m ps, as = [.str (tx l), .str (tx m)] ∧ m ≠ [] ∧ Cut m l ps ∧ (∀ c ∈ l, c < 128) ∧ (∀ c ∈ m, c < 128) ∧ l.length ≤ 10000 ∧ m.length ≤ 1000 ∧ ps.length ≤ 1000 ∧ ∀ ex, Q (.str (tx (joinL m (ps.map capL)))) (os ++ ex)
theorem cut_mem {y l : List Nat} {ps : List (List Nat)} (h : Cut y l ps) : ∀ p ∈ ps, (∀ c ∈ p, c ∈ l) ∧ p.length ≤ l.length := by
  induction h with
  | last p h => intro q hq; rw [List.mem_singleton.mp hq]; exact ⟨fun c h => h, Nat.le_refl _⟩
  | cons p r ps h t ih =>
    intro q hq
    rcases List.mem_cons.mp hq with rfl | hq
    · exact ⟨fun c hc => by simp [hc], by simp⟩
    · obtain ⟨h1, h2⟩ := ih q hq
      exact ⟨fun c hc => by simp [h1 c hc], by simp; lia  ⟩
theorem capL_len (l : List Nat) : (capL l).length = l.length := by cases l <;> simp [capL]
theorem cap_ok {l m : List Nat} {ps : List (List Nat)} {os : List AO} {Q : VP} (h : m ≠ [] ∧ Cut m l ps ∧ (∀ c ∈ l, c < 128) ∧ (∀ c ∈ m, c < 128) ∧ l.length ≤ 10000 ∧ m.length ≤ 1000 ∧ ps.length ≤ 1000 ∧ ∀ ex, Q (.str (tx (joinL m (ps.map capL)))) (os ++ ex)) : tCap ⟨⟨[("s", .str (tx l)), ("sep", .str (tx m))], os.length⟩, os⟩ fun fl σ' => Q (retOf fl) σ'.objs := by
  obtain ⟨hm, hc, hl, hma, hlz, hmz, hpz, hQ⟩ := h
  have hne : m.isEmpty = false := by cases m with | nil => exact absurd rfl hm | cons => rfl
  have hmem := cut_mem hc
  have e : (ps.map tx).map Txt.capitalize = (ps.map capL).map tx := by
    rw [List.map_map, List.map_map]
    refine List.map_congr_left fun p hp => ?_
    exact tx_cap fun c hc' => hl c ((hmem p hp).1 c hc')
  unfold tCap
  simp only [wSeq, wSkip, wSet, wRet, wIf, wCmp, wVal, wNotB, wAndB, wOrB, wVar, wLit, wOp1, wOp2, wIte, wCall, wMeth, wCons, wNil, wList, wTup, wSub2, wSlice3, wExpr, wLocCall, wAppAttr, wTrue, set_eq, vput_ro, vput_lookup, vlook_cons, String.reduceEq, if_true, if_false, ↓reduceIte, Option.some.injEq, exists_eq_left', AV.bool.injEq, wAdd_ii, wAdd_ss, wAdd_bb, wIAdd_ii, wSub_ii, wMul_ii, wMul_si, wFdiv_ii, wMod_ii, wPow_ii, wNeg_i, wLt_ii, wLe_ii, wLe_ss, wGt_ii, wGe_ii, wEq_ii, wEq_ss, wNe_ii, wNe_ss, wIn_ss, wItem_s, wCut_nn, wCut_ni, wCut_in, wCut_ii, wLen_s, wOrd_s, wChr_i, wMin_ii, wCount_ss, wLower_s, wUpper_s, wSplit_ss, wLines_s, wHex_si, truth_s, truth_b, iter_s, wCapJoin, wOrV, capK, hne, Bool.not_false]
  refine ⟨fun x hx => by cases hx; rw [tx_len]; lia  , fun _ => ⟨_, rfl, ⟨_, rfl⟩, by have := List.length_pos_iff.mpr hm; lia  , by lia  , ?_⟩, fun h => by simp at h⟩
  rw [cut_split hm hc (kind_le fun c hc' => by have := hma c hc'; lia  )]
  refine ⟨os.length, ps.map tx, rfl, by simp, ?_, by rw [List.length_map]; lia  , ?_, ?_⟩
  · intro y hy
    obtain ⟨p, hp, rfl⟩ := List.mem_map.mp hy
    rw [tx_len]
    have := (hmem p hp).2
    lia  
  · rw [e]
    have hB : ∀ y ∈ (ps.map capL).map tx, y.length ≤ l.length := fun y hy => by
      obtain ⟨q, hq, rfl⟩ := List.mem_map.mp hy
      obtain ⟨p, hp, rfl⟩ := List.mem_map.mp hq
      rw [tx_len, capL_len]
      exact (hmem p hp).2
    unfold JoinOk
    rw [Bool.not_eq_true']
    refine StrLaws.joinFits hB ?_
    rw [List.length_map, List.length_map, tx_len]
    have h1 : ps.length * l.length ≤ 1000 * 10000 := Nat.mul_le_mul hpz hlz
    have h2 : ps.length * m.length ≤ 1000 * 1000 := Nat.mul_le_mul hpz hmz
    lia  
  · rw [e, tx_join]
    exact hQ _
noncomputable def BodyK (B : List Nat) (wn : Nat) (e : List Nat) (ls out : List (List Nat)) (os : List AO) (Q : VP) : Prop := 4 ≤ wn ∧ B ≠ [] ∧ (∀ c ∈ B, c < 256) ∧ B.length ≤ 100000 ∧ e.length ≤ 1000 ∧ Lns (encT B) ls ∧ EncLines wn e ls out ∧ out.length ≤ 900000 ∧
      ((endBr (encT B) out).map List.length).sum + (endBr (encT B) out).length * e.length ≤ 16777216 ∧ ∀ ex, Q (.str (tx (joinL e (endBr (encT B) out)))) (os ++ ex)
noncomputable def c_body (as : List AV) (os : List AO) (Q : VP) : Prop := ∃ (B : List Nat) (wn : Nat) (e : List Nat) (ls out : List (List Nat)), as = [.str (tx B), .int (wn : Int), .str (tx e)] ∧ BodyK B wn e ls out os Q
theorem c_body_ok {bA : Addr} {B : List Nat} {wn : Nat} {e : List Nat} {ls out : List (List Nat)} {os : List AO} {Q : VP} (h : BodyK B wn e ls out os Q) : tBody bA c_quote ⟨⟨[("body", .str (tx B)), ("maxlinelen", .int (wn : Int)), ("eol", .str (tx e))], os.length⟩, os⟩ fun fl σ' => Q (retOf fl) σ'.objs := by
  obtain ⟨h1, h2, h3, h4, h5, h6, h7, h8, h9, h10⟩ := h
  exact body_ok h1 h2 h3 h4 h5 h6 h7 h8 h9 h10
end Mine
end P31
section P32
set_option maxRecDepth 100000
set_option Elab.async false
set_option autoImplicit false
set_option linter.unusedVariables false
set_option linter.unusedSimpArgs false
namespace Mine
open PySem
noncomputable def stuffR : Nat → List Nat → List Nat
  | _, [] => []
  | p, c :: r => (if c = 46 ∧ p = 10 then [46, 46] else [c]) ++ stuffR c r
theorem stuffR_app (p : Nat) (x y : List Nat) : stuffR p (x ++ y) = stuffR p x ++ stuffR ((p :: x).getLast (by simp)) y := by
  induction x generalizing p with
  | nil => rfl
  | cons c r ih =>
    show _ ++ stuffR c (r ++ y) = (_ ++ stuffR c r) ++ _
    rw [ih c, List.append_assoc]
    congr 2
theorem stuffR_free {p : Nat} {x : List Nat} (h : 46 ∉ x) : stuffR p x = x := by
  induction x generalizing p with
  | nil => rfl
  | cons c r ih =>
    show _ ++ stuffR c r = _
    rw [ih (fun q => h (by simp [q])), if_neg (fun q => h (by simp [q.1]))]
    rfl
theorem stuffR_len (p : Nat) (x : List Nat) : (stuffR p x).length ≤ 2 * x.length := by
  induction x generalizing p with
  | nil => simp [stuffR]
  | cons c r ih =>
    have := ih c
    show (_ ++ stuffR c r).length ≤ _
    rw [List.length_append]
    split <;> simp <;> lia  
theorem stuffR_mem {p : Nat} {x : List Nat} : ∀ c ∈ stuffR p x, c ∈ x := by
  induction x generalizing p with
  | nil => intro c hc; exact hc
  | cons d r ih =>
    intro c hc
    have hc' : c ∈ (if d = 46 ∧ p = 10 then [46, 46] else [d]) ++ stuffR d r := hc
    rcases List.mem_append.mp hc' with q | q
    · split at q
      · rename_i h; simp at q; rw [q, h.1]; simp
      · simp at q; rw [q]; simp
    · exact List.mem_cons_of_mem _ (ih c q)
theorem outAt_cons (pre : List UInt8) (c : UInt8) (r : List UInt8) : outAt (pre ++ c :: r) pre.length = if c = 46 ∧ (pre = [] ∨ pre.getLast? = some 10) then [46, 46] else [c] := by
  unfold outAt
  have h1 : (pre ++ c :: r).getD pre.length 0 = c := by simp
  rw [h1]
  rcases List.eq_nil_or_concat pre with rfl | ⟨q, d, rfl⟩
  · simp
  · rw [List.concat_eq_append]
    have h2 : (q ++ [d] ++ c :: r).getD ((q ++ [d]).length - 1) 0 = d := by simp
    rw [h2]
    simp
theorem stuffTo_go (b : List UInt8) : ∀ (r pre : List UInt8), b = pre ++ r → (List.range' pre.length r.length).flatMap (outAt b) = (stuffR (if pre = [] then 10 else (pre.getLast?.getD 0).toNat) (r.map UInt8.toNat)).map Nat.toUInt8
  | [], pre, _ => by simp [stuffR]
  | c :: r, pre, hb => by
    have ih := stuffTo_go b r (pre ++ [c]) (by rw [hb]; simp)
    rw [List.length_cons, List.range'_succ, List.flatMap_cons]
    have hl : pre.length + 1 = (pre ++ [c]).length := by simp
    rw [hl, ih, List.map_cons]
    show _ = List.map Nat.toUInt8 ((if c.toNat = 46 ∧ (if pre = [] then 10 else (pre.getLast?.getD 0).toNat) = 10 then [46, 46] else [c.toNat]) ++ stuffR c.toNat (r.map UInt8.toNat))
    rw [List.map_append, hb, outAt_cons]
    have e1 : (if pre ++ [c] = [] then 10 else ((pre ++ [c]).getLast?.getD 0).toNat) = c.toNat := by simp
    rw [e1]
    congr 1
    have k1 : c.toNat = 46 ↔ c = 46 := ⟨fun h => UInt8.toNat_inj.mp h, fun h => by rw [h]; rfl⟩
    have k2 : (if pre = [] then 10 else (pre.getLast?.getD 0).toNat) = 10 ↔ (pre = [] ∨ pre.getLast? = some 10) := by
      by_cases hp : pre = []
      · simp [hp]
      · obtain ⟨d, hd⟩ : ∃ d, pre.getLast? = some d := by cases h : pre.getLast? with | none => exact absurd (List.getLast?_eq_none_iff.mp h) hp | some d => exact ⟨d, rfl⟩
        rw [if_neg hp, hd]
        simp only [Option.getD_some, Option.some.injEq]
        exact ⟨fun h => .inr (UInt8.toNat_inj.mp h), fun h => by rcases h with h | h; exact absurd h hp; rw [h]; rfl⟩
    by_cases hc : c = 46 ∧ (pre = [] ∨ pre.getLast? = some 10)
    · rw [if_pos hc, if_pos ⟨k1.mpr hc.1, k2.mpr hc.2⟩]; rfl
    · rw [if_neg hc, if_neg (fun q => hc ⟨k1.mp q.1, k2.mp q.2⟩)]; simp
theorem toU_toNat {c : Nat} (h : c < 256) : (Nat.toUInt8 c).toNat = c := by
  show c % 256 = c
  lia  
theorem bytes_back {l : List Nat} (h : ∀ c ∈ l, c < 256) : (l.map Nat.toUInt8).map UInt8.toNat = l := by
  rw [List.map_map]
  conv => rhs; rw [← List.map_id l]
  exact List.map_congr_left fun c hc => toU_toNat (h c hc)
theorem stuff_text {l : List Nat} (h : ∀ c ∈ l, c < 128) : stuffB (asBytes (tx l)) = asBytes (tx (stuffR 10 l)) := by
  unfold stuffB asBytes stuffTo
  rw [tx_cps, tx_cps]
  have := stuffTo_go (l.map Nat.toUInt8) (l.map Nat.toUInt8) [] rfl
  rw [bytes_back fun c hc => Nat.lt_trans (h c hc) (by decide)] at this
  simp only [if_true, List.length_nil] at this
  rw [← this, List.range_eq_range']
  simp
theorem bytes_text {l : List Nat} (h : ∀ c ∈ l, c < 256) : ofBytes (asBytes (tx l)) = tx l := by
  unfold ofBytes asBytes
  rw [tx_cps]
  refine str_ext ?_
  show ((l.map Nat.toUInt8).map UInt8.toNat) = l
  exact bytes_back h
theorem bytes_asc {l : List Nat} (h : ∀ c ∈ l, c < 128) : isAscB (asBytes (tx l)) := by
  intro c hc
  unfold asBytes at hc
  rw [tx_cps] at hc
  simp only [List.mem_map] at hc
  obtain ⟨d, hd, rfl⟩ := hc
  have := h d hd
  rw [toU_toNat (by lia  )]
  exact this
theorem bytes_size (l : List Nat) : (asBytes (tx l)).size = l.length := by unfold asBytes; simp
noncomputable def splitC (a : Nat) : List Nat → List (List Nat)
  | [] => [[]]
  | c :: r => if c = a then [] :: splitC a r else match splitC a r with
    | [] => [[c]]
    | p :: ps => (c :: p) :: ps
theorem splitC_ne (a : Nat) (l : List Nat) : splitC a l ≠ [] := by
  cases l with
  | nil => simp [splitC]
  | cons c r => unfold splitC; split; simp; split <;> simp
theorem splitC_hit (a : Nat) (r : List Nat) : splitC a (a :: r) = [] :: splitC a r := by rw [splitC, if_pos rfl]
theorem splitC_miss {a c : Nat} (h : c ≠ a) {r p : List Nat} {ps : List (List Nat)} (e : splitC a r = p :: ps) : splitC a (c :: r) = (c :: p) :: ps := by rw [splitC, if_neg h, e]
theorem splitC_cut (a : Nat) : ∀ l : List Nat, Cut [a] l (splitC a l)
  | [] => .last [] (fun k hk => by simp at hk)
  | c :: r => by
    have ih := splitC_cut a r
    by_cases h : c = a
    · subst h
      rw [splitC_hit]
      exact .cons [] r _ (fun k hk => by simp at hk) ih
    · generalize hs : splitC a r = s at ih
      cases ih with
      | last _ hn =>
        rw [splitC_miss h hs]
        refine .last _ fun k hk => ?_
        cases k with
        | zero => intro q; simp at q; exact h q.symm
        | succ k => simpa using hn k (by simpa using hk)
      | cons p r' ps hn t =>
        rw [splitC_miss h hs]
        have := Cut.cons (y := [a]) (c :: p) r' ps (fun k hk => by
          cases k with
          | zero => intro q; simp at q; exact h q.symm
          | succ k => simpa using hn k (by simpa using hk)) t
        simpa using this
theorem splitC_app (a : Nat) (x y : List Nat) : splitC a (x ++ a :: y) = splitC a x ++ splitC a y := by
  induction x with
  | nil => rw [List.nil_append, splitC_hit]; rfl
  | cons c r ih =>
    by_cases h : c = a
    · subst h; rw [List.cons_append, splitC_hit, splitC_hit, ih]; rfl
    · cases hs : splitC a r with
      | nil => exact absurd hs (splitC_ne a r)
      | cons p ps =>
        rw [List.cons_append, splitC_miss h (p := p) (ps := ps ++ splitC a y) (by rw [ih, hs]; rfl), splitC_miss h hs]
        rfl
theorem splitC_free {a : Nat} {x : List Nat} (h : a ∉ x) : splitC a x = [x] := by
  induction x with
  | nil => rfl
  | cons c r ih => exact splitC_miss (fun q => h (by simp [q])) (ih fun q => h (by simp [q]))
theorem splitC_mem {a : Nat} {x : List Nat} : ∀ p ∈ splitC a x, ∀ c ∈ p, c ∈ x := fun p hp => (cut_mem (splitC_cut a x) p hp).1
theorem tx_splitC {x : List Nat} {a : Nat} (ha : a < 256) : Txt.split (tx x) (tx [a]) = (splitC a x).map tx :=
  cut_split (by simp) (splitC_cut a x) (kind_le fun c hc => by rw [List.mem_singleton.mp hc]; exact ha)
theorem low_low (c : Nat) : lowC (lowC c) = lowC c := by
  unfold lowC
  by_cases h : 65 ≤ c ∧ c ≤ 90
  · have e : (decide (65 ≤ c) && decide (c ≤ 90)) = true := by simpa using h
    have e2 : ¬ (decide (65 ≤ c + 32) && decide (c + 32 ≤ 90)) = true := by simp; lia  
    rw [if_pos e, if_neg e2]
  · have : ¬ (decide (65 ≤ c) && decide (c ≤ 90)) = true := by simpa using h
    rw [if_neg this, if_neg this]
theorem low_up (c : Nat) : lowC (upC c) = lowC c := by
  unfold lowC upC
  by_cases h : 97 ≤ c ∧ c ≤ 122
  · have e : (decide (97 ≤ c) && decide (c ≤ 122)) = true := by simpa using h
    rw [if_pos e]
    have e2 : (decide (65 ≤ c - 32) && decide (c - 32 ≤ 90)) = true := by simp; lia  
    have e3 : ¬ (decide (65 ≤ c) && decide (c ≤ 90)) = true := by simp; lia  
    rw [if_pos e2, if_neg e3]; lia  
  · have e : ¬ (decide (97 ≤ c) && decide (c ≤ 122)) = true := by simpa using h
    rw [if_neg e]
theorem low_cap (l : List Nat) : (capL l).map lowC = l.map lowC := by
  cases l with
  | nil => rfl
  | cons c r =>
    show lowC (upC c) :: (r.map lowC).map lowC = _
    rw [low_up, List.map_map]
    have : lowC ∘ lowC = lowC := by funext c; exact low_low c
    rw [this]; rfl
theorem low_small (c : Nat) : ¬ (65 ≤ lowC c ∧ lowC c ≤ 90) := by
  unfold lowC
  by_cases h : 65 ≤ c ∧ c ≤ 90
  · have e : (decide (65 ≤ c) && decide (c ≤ 90)) = true := by simpa using h
    rw [if_pos e]; lia  
  · have e : ¬ (decide (65 ≤ c) && decide (c ≤ 90)) = true := by simpa using h
    rw [if_neg e]; exact h
theorem low_lt {c : Nat} (h : c < 128) : lowC c < 128 := by unfold lowC; split <;> simp_all <;> lia  
theorem up_lt {c : Nat} (h : c < 128) : upC c < 128 := by unfold upC; split <;> lia  
theorem joinL_map (f : Nat → Nat) (s : List Nat) (ps : List (List Nat)) : (joinL s ps).map f = joinL (s.map f) (ps.map (·.map f)) := by
  induction ps with
  | nil => rfl
  | cons p r ih =>
    cases r with
    | nil => rfl
    | cons q r =>
      rw [joinL_cons s p (q :: r) (by simp), List.map_append, List.map_append, ih]
      exact (joinL_cons (s.map f) (p.map f) ((q :: r).map (·.map f)) (by simp)).symm
theorem joinL_mem {s : List Nat} {ps : List (List Nat)} {c : Nat} (h : c ∈ joinL s ps) : c ∈ s ∨ ∃ p ∈ ps, c ∈ p := by
  induction ps with
  | nil => simp [joinL] at h
  | cons p r ih =>
    cases r with
    | nil => exact .inr ⟨p, by simp, h⟩
    | cons q r =>
      rw [joinL_cons _ _ _ (by simp), List.mem_append, List.mem_append] at h
      rcases h with (h | h) | h
      · exact .inr ⟨p, by simp, h⟩
      · exact .inl h
      · rcases ih h with h | ⟨p', hp, hc⟩
        · exact .inl h
        · exact .inr ⟨p', List.mem_cons_of_mem _ hp, hc⟩
theorem joinL_len (s : List Nat) (ps : List (List Nat)) : (joinL s ps).length ≤ (ps.map List.length).sum + ps.length * s.length := by
  induction ps with
  | nil => simp [joinL]
  | cons p r ih =>
    cases r with
    | nil => simp [joinL]
    | cons q r =>
      rw [joinL_cons _ _ _ (by simp), List.length_append, List.length_append, List.map_cons, List.sum_cons, List.length_cons (a := p), Nat.succ_mul]
      lia  
theorem joinL_snoc (s : List Nat) (ps : List (List Nat)) (h : ps ≠ []) (p : List Nat) : joinL s (ps ++ [p]) = joinL s ps ++ s ++ p := by
  induction ps with
  | nil => exact absurd rfl h
  | cons q r ih =>
    cases r with
    | nil => rfl
    | cons t r =>
      rw [List.cons_append, joinL_cons s q (t :: r ++ [p]) (by simp), ih (by simp), joinL_cons s q (t :: r) (by simp)]
      simp
theorem sum_le {ps : List (List Nat)} {b : Nat} (h : ∀ p ∈ ps, p.length ≤ b) : (ps.map List.length).sum ≤ ps.length * b := by
  induction ps with
  | nil => simp
  | cons p r ih =>
    have := ih fun q hq => h q (by simp [hq])
    have := h p (by simp)
    simp only [List.map_cons, List.sum_cons, List.length_cons, Nat.succ_mul]
    lia  
end Mine
end P32
section P33
set_option maxRecDepth 100000
set_option Elab.async false
set_option autoImplicit false
set_option linter.unusedVariables false
set_option linter.unusedSimpArgs false
namespace Mine
open PySem
theorem put_swap {x y : String} (h : ¬ x = y) (a b : AV) : ∀ l : List (String × AV), (∃ u, (x, u) ∈ l) → put (put l y b) x a = put (put l x a) y b
  | [], ⟨_, hu⟩ => by simp at hu
  | (z, w) :: r, ⟨u, hu⟩ => by
    by_cases hx : x = z
    · subst hx
      rw [put_ne (fun q => h q.symm), put_eq, put_eq, put_ne (fun q => h q.symm)]
    · by_cases hy : y = z
      · subst hy
        rw [put_eq, put_ne hx, put_ne hx, put_eq]
      · have hr : ∃ u, (x, u) ∈ r := by
          rcases List.mem_cons.mp hu with q | q
          · exact absurd (by injection q) hx
          · exact ⟨u, q⟩
        rw [put_ne hy, put_ne hx, put_ne hx, put_ne hy, put_swap h a b r hr]
theorem put_mem (l : List (String × AV)) (x : String) (a : AV) : ∃ u, (x, u) ∈ put l x a := by
  induction l with
  | nil => exact ⟨a, by simp [put]⟩
  | cons p r ih =>
    obtain ⟨z, w⟩ := p
    by_cases h : x = z
    · subst h; rw [put_eq]; exact ⟨a, by simp⟩
    · rw [put_ne h]
      obtain ⟨u, hu⟩ := ih
      exact ⟨u, by simp [hu]⟩
theorem vput_two (V : Vs) {x y : String} (h : ¬ x = y) (a a' b b' : AV) : (((V.put x a).put y b).put x a').put y b' = (V.put x a').put y b' := by
  unfold Vs.put
  rw [put_swap h _ _ _ (put_mem _ _ _), put_put, put_put]
/-- a comprehension whose parts may make new objects -/
theorem comp_gen {ik : IK} {tg : Tg} {test : WB} {elt : WE} {V : Vs} {os : List AO} {its : List It} {W : It → Vs} {t : It → Bool} {f : It → AV} {Q : List AV → List AO → Prop}
    (hok : ∀ ex, IKok ik (os ++ ex)) (hit : ∀ ex i, itemAt ik (os ++ ex) i = its[i]?)
    (hb0 : ∀ it ∈ its, ∀ ex, bindT tg it ⟨V, os ++ ex⟩ = some ⟨W it, os ++ ex⟩) (hb1 : ∀ it ∈ its, ∀ it' ∈ its, ∀ ex, bindT tg it ⟨W it', os ++ ex⟩ = some ⟨W it, os ++ ex⟩)
    (ht : ∀ it ∈ its, ∀ ex, ∀ K : Bool → List AO → Prop, (∀ ex', K (t it) (os ++ ex ++ ex')) → test ⟨W it, os ++ ex⟩ K)
    (he : ∀ it ∈ its, t it = true → ∀ ex, ∀ K : VP, (∀ ex', K (f it) (os ++ ex ++ ex')) → elt ⟨W it, os ++ ex⟩ K)
    (hl : its.length ≤ 16777216) (hQ : ∀ ex, Q ((its.filter t).map f) (os ++ ex)) : ∃ fu, compW ik tg test elt Q fu 0 [] ⟨V, os⟩ := by
  have key : ∀ n i acc V' ex, n + i = its.length → (V' = V ∨ ∃ it ∈ its, V' = W it) → acc.length ≤ i → (∀ ex, Q (acc ++ (((its.drop i).filter t).map f)) (os ++ ex)) → compW ik tg test elt Q (n + 1) i acc ⟨V', os ++ ex⟩ := by
    intro n
    induction n with
    | zero =>
      intro i acc V' ex hn hV ha q
      refine ⟨hok ex, ?_⟩
      have : itemAt ik (os ++ ex) i = none := by rw [hit, List.getElem?_eq_none (by lia  )]
      dsimp only
      rw [this]
      rw [List.drop_eq_nil_of_le (by lia  )] at q
      simpa using q ex
    | succ n ih =>
      intro i acc V' ex hn hV ha q
      refine ⟨hok ex, ?_⟩
      have hi : i < its.length := by lia  
      have : itemAt ik (os ++ ex) i = some its[i] := by rw [hit, List.getElem?_eq_getElem hi]
      dsimp only
      rw [this]
      dsimp only
      have hm := List.getElem_mem hi
      have hb : bindT tg its[i] ⟨V', os ++ ex⟩ = some ⟨W its[i], os ++ ex⟩ := by
        rcases hV with rfl | ⟨it, hit', rfl⟩
        · exact hb0 _ hm ex
        · exact hb1 _ hm it hit' ex
      rw [hb]
      refine ht _ hm ex _ fun ex' => ⟨fun hb => ?_, fun hb => ?_⟩
      · rw [List.append_assoc]
        refine he _ hm hb _ _ fun ex2 => ⟨by show acc.length ≤ 16777216; lia  , ?_⟩
        rw [List.append_assoc]
        refine ih (i + 1) _ _ _ (by lia  ) (.inr ⟨_, hm, rfl⟩) (by simp; lia  ) fun ex3 => ?_
        have := q ex3
        rw [List.drop_eq_getElem_cons hi, List.filter_cons_of_pos hb] at this
        simpa using this
      · rw [List.append_assoc]
        refine ih (i + 1) _ _ _ (by lia  ) (.inr ⟨_, hm, rfl⟩) (by lia  ) fun ex3 => ?_
        have := q ex3
        rw [List.drop_eq_getElem_cons hi, List.filter_cons_of_neg (by simp [hb])] at this
        exact this
  exact ⟨its.length + 1, by have := key its.length 0 [] V [] (by lia  ) (.inl rfl) (Nat.le_refl _) (by simpa using hQ); rwa [List.append_nil] at this⟩
noncomputable def rItems (a : Int) (n : Nat) : List It := (List.range n).map fun j : Nat => It.av (.int (a + (j : Int)))
theorem it_range2 (a : Int) (n : Nat) (os : List AO) (i : Nat) : itemAt (.range a n) os i = (rItems a n)[i]? := by
  show (if i < n then some (It.av (.int (a + i))) else none) = _
  unfold rItems
  by_cases h : i < n
  · rw [if_pos h]; simp [h]
  · rw [if_neg h, List.getElem?_eq_none (by simpa using h)]
noncomputable def avOf : It → AV
  | .av a => a
  | _ => .none
/-- over a range, one name -/
theorem comp_range {a : Int} {n : Nat} {x : String} {test : WB} {elt : WE} {V : Vs} {os : List AO} {t : Nat → Bool} {f : Nat → AV} {Q : List AV → List AO → Prop}
    (ht : ∀ j, j < n → ∀ ex, ∀ K : Bool → List AO → Prop, (∀ ex', K (t j) (os ++ ex ++ ex')) → test ⟨V.put x (.int (a + (j : Int))), os ++ ex⟩ K)
    (he : ∀ j, j < n → t j = true → ∀ ex, ∀ K : VP, (∀ ex', K (f j) (os ++ ex ++ ex')) → elt ⟨V.put x (.int (a + (j : Int))), os ++ ex⟩ K)
    (hl : n ≤ 16777216) (hQ : ∀ ex, Q (((List.range n).filter t).map f) (os ++ ex)) : ∃ fu, compW (.range a n) (.one x) test elt Q fu 0 [] ⟨V, os⟩ := by
  have nat : ∀ it ∈ rItems a n, ∃ j, j < n ∧ it = .av (.int (a + (j : Int))) := fun it h => by
    obtain ⟨j, hj, rfl⟩ := List.mem_map.mp h
    exact ⟨j, by simpa using hj, rfl⟩
  have back : ∀ j : Nat, ((a + (j : Int)) - a).toNat = j := fun j => by lia  
  let num : It → Nat := fun it => match it with
    | .av (.int i) => (i - a).toNat
    | _ => 0
  refine comp_gen (its := rItems a n) (W := fun it => V.put x (avOf it)) (t := fun it => t (num it)) (f := fun it => f (num it)) (fun _ => trivial) (fun ex i => it_range2 a n _ i) ?_ ?_ ?_ ?_ (by simpa [rItems] using hl) ?_
  · intro it hm ex
    obtain ⟨j, hj, rfl⟩ := nat it hm
    rfl
  · intro it hm it' hm' ex
    obtain ⟨j, hj, rfl⟩ := nat it hm
    obtain ⟨j', hj', rfl⟩ := nat it' hm'
    show some (St.set ⟨V.put x _, os ++ ex⟩ x _) = _
    rw [set_eq, vput_put]; rfl
  · intro it hm ex K hK
    obtain ⟨j, hj, rfl⟩ := nat it hm
    have e : num (.av (.int (a + (j : Int)))) = j := back j
    rw [e] at hK
    exact ht j hj ex K hK
  · intro it hm ht' ex K hK
    obtain ⟨j, hj, rfl⟩ := nat it hm
    have e : num (.av (.int (a + (j : Int)))) = j := back j
    rw [e] at hK ht'
    exact he j hj ht' ex K hK
  · intro ex
    have e : ((rItems a n).filter fun it => t (num it)).map (fun it => f (num it)) = ((List.range n).filter t).map f := by
      unfold rItems
      rw [List.filter_map, List.map_map]
      have e1 : ((fun it => t (num it)) ∘ fun j : Nat => It.av (.int (a + (j : Int)))) = t := by funext j; show t (((a + (j : Int)) - a).toNat) = _; rw [back]
      rw [e1]
      refine List.map_congr_left fun j hj => ?_
      show f (((a + (j : Int)) - a).toNat) = _
      rw [back]
    rw [e]
    exact hQ ex
theorem get_app {os ex : List AO} {k : Nat} {o : AO} (h : os[k]? = some o) : (os ++ ex)[k]? = some o := by
  rw [List.getElem?_append_left (List.getElem?_eq_some_iff.mp h).1]; exact h
/-- over enumerate, two names -/
theorem comp_enum {k : Nat} {vs : List AV} {x y : String} {test : WB} {elt : WE} {V : Vs} {os : List AO} {t : Nat → Bool} {f : Nat → AV} {Q : List AV → List AO → Prop} (hxy : ¬ x = y) (hk : os[k]? = some (.list vs))
    (ht : ∀ j (hj : j < vs.length), ∀ ex, ∀ K : Bool → List AO → Prop, (∀ ex', K (t j) (os ++ ex ++ ex')) → test ⟨(V.put x (.int (j : Int))).put y vs[j], os ++ ex⟩ K)
    (he : ∀ j (hj : j < vs.length), t j = true → ∀ ex, ∀ K : VP, (∀ ex', K (f j) (os ++ ex ++ ex')) → elt ⟨(V.put x (.int (j : Int))).put y vs[j], os ++ ex⟩ K)
    (hl : vs.length ≤ 16777216) (hQ : ∀ ex, Q (((List.range vs.length).filter t).map f) (os ++ ex)) : ∃ fu, compW (.enum k) (.two x y) test elt Q fu 0 [] ⟨V, os⟩ := by
  let its : List It := (List.range vs.length).map fun j : Nat => It.pair (.int (j : Int)) (vs.getD j .none)
  have nat : ∀ it ∈ its, ∃ j, ∃ hj : j < vs.length, it = .pair (.int (j : Int)) vs[j] := fun it h => by
    obtain ⟨j, hj, rfl⟩ := List.mem_map.mp h
    have hj' : j < vs.length := by simpa using hj
    exact ⟨j, hj', by simp [hj']⟩
  let num : It → Nat := fun it => match it with
    | .pair (.int i) _ => i.toNat
    | _ => 0
  let snd : It → AV := fun it => match it with
    | .pair _ b => b
    | _ => .none
  let fst : It → AV := fun it => match it with
    | .pair a _ => a
    | _ => .none
  refine comp_gen (its := its) (W := fun it => (V.put x (fst it)).put y (snd it)) (t := fun it => t (num it)) (f := fun it => f (num it)) (fun ex => ⟨vs, get_app hk⟩) (fun ex i => ?_) ?_ ?_ ?_ ?_ (by simpa [its] using hl) ?_
  · show (match (os ++ ex)[k]? with
      | some (.list vs) => vs[i]?.map fun v => It.pair (.int i) v
      | _ => none) = _
    rw [get_app hk]
    show (vs[i]?.map fun v => It.pair (.int i) v) = its[i]?
    by_cases h : i < vs.length
    · simp [its, h]
    · rw [List.getElem?_eq_none (by lia  ), List.getElem?_eq_none (by simp [its]; lia  )]; rfl
  · intro it hm ex
    obtain ⟨j, hj, rfl⟩ := nat it hm
    rfl
  · intro it hm it' hm' ex
    obtain ⟨j, hj, rfl⟩ := nat it hm
    obtain ⟨j', hj', rfl⟩ := nat it' hm'
    show some ((St.set ⟨((V.put x _).put y _), os ++ ex⟩ x _).set y _) = _
    rw [set_eq, set_eq, vput_two V hxy]
  · intro it hm ex K hK
    obtain ⟨j, hj, rfl⟩ := nat it hm
    exact ht j hj ex K hK
  · intro it hm ht' ex K hK
    obtain ⟨j, hj, rfl⟩ := nat it hm
    exact he j hj ht' ex K hK
  · intro ex
    have e : (its.filter fun it => t (num it)).map (fun it => f (num it)) = ((List.range vs.length).filter t).map f := by
      show (((List.range vs.length).map fun j : Nat => It.pair (.int (j : Int)) (vs.getD j .none)).filter fun it => t (num it)).map (fun it => f (num it)) = _
      rw [List.filter_map, List.map_map]
      rfl
    rw [e]
    exact hQ ex
end Mine
end P33
section P34
set_option maxRecDepth 100000
set_option Elab.async false
set_option autoImplicit false
set_option linter.unusedVariables false
set_option linter.unusedSimpArgs false
namespace Mine
open PySem PySem.W PyProof.Rows
section
variable {P : Par} {n : Nat}
theorem fn_top {tk0 : Nat} {F : Addr} {fd : FuncData} {body : List Stmt} {p : WS} (H : FnAt P F fd body) {sc : Scope} (hsc : fd.scope = sc) (hb : EvST P tk0 n sc body p) {A : Around} {s : Shared} {ad : List Addr} {os : List AO} {avs : List AV} {vs : List Value} {bs : List (String × AV)} {Q : VP} {Q' E : Value → Shared → Prop} (hA : AOk (n + 1) A) (hT : tk0 ≤ s.toks)
    (hgf : ∀ h, (∀ b o, s.heap.get? b = some o → h.get? b = some o) → P.GF h) (hlen : ad.length = os.length) (hndp : ad.Nodup) (hobj : ∀ (k : Nat) (o : AO), os[k]? = some o → ∃ a, ad[k]? = some a ∧ RO ad s.heap a o) (rs : RVs ad avs vs)
    (hbnd : Bnd P fd avs bs) (hkb : OkB sc bs) (hp : p ⟨⟨bs, os.length⟩, os⟩ fun fl σ' => Q (retOf fl) σ'.objs)
    (hQ : ∀ h' tk v ad' os' a, (∀ b o, s.heap.get? b = some o → h'.get? b = some o) → RV ad' a v → Q a os' → Q' v { s with heap := h', toks := tk }) : wpAny (model P.prog P.w) A (call (.ref F) vs) Q' E s := by
  subst hsc
  obtain ⟨hnd, hko⟩ := hkb
  have G := hgf _ fun _ _ e => e
  obtain ⟨o, ho, hd⟩ := H.at_ _ G
  obtain ⟨binds, hB, hBR⟩ := hbnd s ad vs G rs
  have hnames := hBR.names
  have hnd' : (binds.map (·.1)).Nodup := by rw [hnames]; exact hnd
  obtain ⟨n1, n2, n3, n4⟩ := cells_new fd.scope.names (s.heap.push { cls := .type "frame", data := .dict #[] }) [] (s.heap.objs.size + 1) (by rw [Heap.size_push]; exact Nat.le_refl _) (fun x y a hx => by simp at hx) (fun x a hx => by simp at hx)
  rw [Heap.size_push] at n2 n3 n4
  refine wpAny_call (codeAny_call_function hA.room ho hd H.co H.gen H.body (H.code _ G) (hB _ _ _ _ ?_))
  rw [H.clo]
  refine wpAny_with_toks hT (wpAny_newFunctionEnv_cells H.kind (fun x hx => ?_) fun env he s' x hT1 => ?_)
  · have hm : x.1 ∈ binds.map (·.1) := List.mem_map_of_mem hx
    rw [hnames] at hm
    obtain ⟨p, hp', e⟩ := List.mem_map.mp hm
    rw [← e]
    refine (hko p hp').imp id fun k => ⟨k, ?_⟩
    obtain ⟨a, _, ha⟩ := n3 (Str.ofString p.1) (.inl ⟨(_, _), mem_of_lookup k, rfl, rfl⟩)
    rw [ha]; rfl
  subst he
  refine ⟨(P.lim _ G).keeps x.toInCall.keep, codeAny_func ?_⟩
  obtain ⟨h1, tk1, rfl⟩ := x.toInCall.same
  -- the new frame
  let env : Env := newEnv fd.scope s.heap.objs.size fd.globals (cellsFrom (s.heap.objs.size + 1) fd.scope.names []) (fd.qualname ++ ".<locals>.") (some F) fd.code none fd.builtins
  let c0 : Cx := ⟨env, s.heap.get?, os.length, fun _ => false⟩
  have dead : ∀ b, s.heap.objs.size ≤ b → s.heap.get? b = none := fun b e => by
    cases q : s.heap.get? b with
    | none => rfl
    | some o => exact absurd (Heap.lt_size q) (Nat.not_lt.mpr e)
  have adal : ∀ b ∈ ad, b < s.heap.objs.size := fun b hb => by 
    obtain ⟨k, hk⟩ := List.getElem?_of_mem hb
    have hk' : k < os.length := by rw [← hlen]; exact (List.getElem?_eq_some_iff.mp hk).1
    obtain ⟨a', e, r⟩ := hobj k _ (List.getElem?_eq_getElem hk')
    rw [hk] at e; cases e
    obtain ⟨o, ho⟩ := r.alive
    exact Heap.lt_size ho
  have R0 : Rel c0 (bindL env.kindOf binds fun _ => none) ad ⟨⟨bs, os.length⟩, os⟩ h1 := by
    refine ⟨x.toInCall.keep, x.toInCall.ns, dead _ (Nat.le_refl _), fun y a k _ e => ?_, fun y z a _ _ _ _ ey ez => name_of_addr x.apart (mem_of_lookup ey) (mem_of_lookup ez), fun y k _ => ?_, fun y a k e => ?_, fun y av e => ?_, hlen, hndp, fun hm => ?_, fun k o e => ?_, fun k a hk e => ?_, ?_, Nat.le_refl _⟩
    · have ha := x.above y a (mem_of_lookup e)
      exact ⟨dead a (Nat.le_of_lt ha), Nat.ne_of_gt ha, fun hm => absurd (adal a hm) (Nat.not_lt.mpr (Nat.le_of_lt ha)), _, x.cell y a e⟩
    · obtain ⟨a, _, ha⟩ := n3 y (.inl ⟨(_, _), mem_of_lookup k, rfl, rfl⟩)
      exact ⟨a, ha⟩
    · rcases k with k | ⟨_, k⟩
      · exact absurd rfl (H.nofree _ (mem_of_lookup k))
      · cases k
    · obtain ⟨v, hv, rv⟩ := hBR.at e
      refine ⟨v, rv, ?_⟩
      have hmem : (y, av) ∈ bs := by
        have : ∀ {l : List (String × AV)}, l.lookup y = some av → (y, av) ∈ l := by
          intro l
          induction l with
          | nil => intro h; simp at h
          | cons p r ih =>
            intro h
            rw [List.lookup_cons] at h
            split at h
            · rename_i hb; cases h; rw [eq_of_beq hb]; exact List.mem_cons_self ..
            · exact List.mem_cons_of_mem _ (ih h)
        exact this e
      unfold Held
      rcases hko _ hmem with k | k
      · have k' : c0.env.kindOf (Str.ofString y) = some .local := k
        rw [k']
        exact bindL_at k' binds _ hnd' hv
      · have k' : c0.env.kindOf (Str.ofString y) = some .cell := k
        rw [k']
        obtain ⟨a, _, ha⟩ := n3 (Str.ofString y) (.inl ⟨(_, _), mem_of_lookup k, rfl, rfl⟩)
        refine ⟨a, ha, ?_⟩
        have := x.cell _ a ha
        have e2 : bindC env.kindOf binds (fun _ => none) (Str.ofString y) = some v := bindC_at k' binds _ hnd' hv
        exact e2 ▸ this
    · exact absurd (adal _ hm) (Nat.lt_irrefl _)
    · obtain ⟨a, q, r⟩ := hobj k o e
      exact ⟨a, q, r.mono (List.prefix_refl _) fun ob => x.toInCall.keep a ob⟩
    · have h1 := (List.getElem?_eq_some_iff.mp e).1
      have h2 : ad.length = os.length := hlen
      have h3 : os.length ≤ k := hk
      lia  
    · have h2 : ad.length = os.length := hlen
      show os.length ≤ ad.length; lia  
  have hc0 : CxOk P c0 := ⟨H.gl, H.bu, H.kind, fun h hk => hgf h fun b o e => hk b o e⟩
  refine hb c0 _ _ _ ad _ _ _ _ hc0 rfl (fun _ => rfl) (hA.deeper _) hT1 R0 hp fun h2 tk2 f m2 ad2 σ2 af R2 p2 rf q2 => ?_
  cases rf with
  | next => exact hQ h2 tk2 _ ad2 _ _ R2.keep .none q2
  | ret r => exact hQ h2 tk2 _ ad2 _ _ R2.keep r q2
end
theorem lay_ints {R : WRecords} {cl : Str → Option Addr} {P : Params} {ord : List DictEntry → List DictEntry} : ∀ (xs : List Int) (s : Shared), ∃ vs s', layAllW R cl P ord (xs.map fun i => .int i) s = some (vs, s') ∧ s'.heap = s.heap
  | [], s => ⟨[], s, rfl, rfl⟩
  | x :: r, s => by
    obtain ⟨vs, s', h1, h2⟩ := lay_ints (R := R) (cl := cl) (P := P) (ord := ord) r { s with toks := s.toks + 1 }
    refine ⟨.int x s.toks :: vs, s', ?_, h2⟩
    show (match layW R cl P ord (.int x) s with
      | some a => (match layAllW R cl P ord (r.map fun i => .int i) a.2 with
          | some r => some (a.1 :: r.1, r.2)
          | Option.none => Option.none)
      | Option.none => Option.none) = _
    show (match layAllW R cl P ord (r.map fun i => .int i) { s with toks := s.toks + 1 } with
          | some r => some (Value.int x s.toks :: r.1, r.2)
          | Option.none => Option.none) = _
    rw [h1]
theorem lay_list {R : WRecords} {cl : Str → Option Addr} {P : Params} {ord : List DictEntry → List DictEntry} {xs : List Int} {s s₁ : Shared} {L : Addr} {us : List Value} (h : layAllW R cl P ord [.list (xs.map fun i => .int i)] s = some ([.ref L], s₁)) (hl : s₁.heap.IsList L us.toArray) : ∃ n, s₁.heap.get? L = some (listObj us n) := by
  obtain ⟨vs, s', h1, h2⟩ := lay_ints (R := R) (cl := cl) (P := P) (ord := ord) xs s
  have h3 : layAllW R cl P ord [.list (xs.map fun i => .int i)] s = some ([.ref s'.heap.objs.size], { s' with heap := s'.heap.push { cls := .type "list", data := .seq vs.toArray } }) := by
    show (match (match layAllW R cl P ord (xs.map fun i => .int i) s with
      | some r => some (Value.ref r.2.heap.objs.size, ({ r.2 with heap := r.2.heap.push { cls := .type "list", data := .seq r.1.toArray } } : Shared))
      | Option.none => Option.none) with
      | some a => (match layAllW R cl P ord [] a.2 with
          | some r => some (a.1 :: r.1, r.2)
          | Option.none => Option.none)
      | Option.none => Option.none) = _
    rw [h1]
    rfl
  rw [h3] at h
  injection h with h
  injection h with e1 e2
  injection e1 with e1 _
  injection e1 with e1
  subst e1 e2
  have hg : (s'.heap.push { cls := .type "list", data := .seq vs.toArray }).get? s'.heap.objs.size = some { cls := .type "list", data := .seq vs.toArray } := Heap.get?_push_size _ rfl
  obtain ⟨o, ho, hc, n, hd⟩ := hl
  have ho' : (s'.heap.push { cls := .type "list", data := .seq vs.toArray }).get? s'.heap.objs.size = some o := ho
  rw [hg] at ho'
  injection ho' with e
  subst e
  injection hd with e3 e4
  have : vs = us := by simpa using e3
  subst this
  exact ⟨_, hg⟩
theorem ints_rv {ad : List Addr} : ∀ {us : List Value} {xs : List Int}, IntsAre us xs → RVs ad (xs.map .int) us
  | _, _, .nil => .nil
  | _, _, .cons _ _ h => .cons (.int _ _) (ints_rv h)
end Mine
end P34
section P35
set_option maxRecDepth 100000
set_option Elab.async false
set_option autoImplicit false
set_option linter.unusedVariables false
namespace Mine
open PySem PySem.W PyProof.Rows
noncomputable def bindK (fd : FuncData) (vs : List Value) : { k : Option (Array Value) → Sem (List (Str × Value)) // bindArgs fd ⟨vs, []⟩ = seqItems? fd.defaults >>= k } := ⟨_, rfl⟩
/-- binding where there are defaults: the tuple of the defaults is read -/
noncomputable def HasD (P : Par) (fd : FuncData) (items : Array Value) : Prop := ∀ h, P.GF h → ∃ T o n, fd.defaults = .ref T ∧ h.get? T = some o ∧ o.data = .seq items n
theorem bndD {P : Par} {fd : FuncData} {items : Array Value} (hd : HasD P fd items) {avs : List AV} {bs : List (String × AV)}
    (h : ∀ ad vs, RVs ad avs vs → ∃ binds, (bindK fd vs).1 (some items) = pure binds ∧ BR ad bs binds) : Bnd P fd avs bs := fun s ad vs G rs => by
  obtain ⟨T, o, n, h1, h2, h3⟩ := hd _ G
  obtain ⟨binds, h4, h5⟩ := h ad vs rs
  exact ⟨binds, BindsTo.of_defaults h1 h2 h3 (bindK fd vs).2 h4, h5⟩
theorem bndD2 {P : Par} {fd : FuncData} {items : Array Value} (hd : HasD P fd items) {a b : AV} {x y : String} (h : ∀ v u, (bindK fd [v, u]).1 (some items) = pure [(Str.ofString x, v), (Str.ofString y, u)]) : Bnd P fd [a, b] [(x, a), (y, b)] :=
  bndD hd fun ad vs rs => by
    cases rs with | cons r rs => cases rs with | cons r2 rs => cases rs with | nil => exact ⟨_, h _ _, .cons r (.cons r2 .nil)⟩
theorem bndD3 {P : Par} {fd : FuncData} {items : Array Value} (hd : HasD P fd items) {a b c : AV} {x y z : String} (h : ∀ v u t, (bindK fd [v, u, t]).1 (some items) = pure [(Str.ofString x, v), (Str.ofString y, u), (Str.ofString z, t)]) : Bnd P fd [a, b, c] [(x, a), (y, b), (z, c)] :=
  bndD hd fun ad vs rs => by
    cases rs with | cons r rs => cases rs with | cons r2 rs => cases rs with | cons r3 rs => cases rs with | nil => exact ⟨_, h _ _ _, .cons r (.cons r2 (.cons r3 .nil))⟩
end Mine
end P35
section P36
set_option maxRecDepth 100000
set_option Elab.async false
set_option autoImplicit false
set_option linter.unusedVariables false
set_option maxHeartbeats 4000000
namespace Mine
open PySem PySem.W PyProof.Rows
noncomputable def t_capwords : WS := (wSeq (wRet (wCapJoin (wOrV (wVar "sep") (wLit (.str (Str.ofString " ")))) (wMeth isS (wVar "s") (wCons (wVar "sep") wNil) wSplit))) wSkip)
noncomputable def t_quote : WS := (wSeq (wRet (wTab qmL (wCall (wCons (wVar "c") wNil) wOrd))) wSkip)
noncomputable def t_quote_periods : WS := (wSeq (wRet (wCall (wCons (wLit (.bytes [46, 46].toArray)) (wCons (wVar "bindata") wNil)) fun as o Q => wSubst 80 (.lit (.ref 80) :: as) o Q)) wSkip)
noncomputable def t_body_encode (c_quote : List AV → List AO → VP → Prop) : WS := (wSeq (wIf (wCmp (wVar "maxlinelen") (wLit (.int 4)) wLt) (wSeq wRaise wSkip) wSkip) (wSeq (wIf (wNotB (wVal (wVar "body"))) (wSeq (wRet (wVar "body")) wSkip) wSkip) (wSeq (wSet "body" (wMeth isS (wVar "body") (wCons (wLit (.lit (.ref 64))) wNil) (wTrans 64 bmL))) (wSeq (wSet "soft_break" (wOp2 (wLit (.str (Str.ofString "="))) (wVar "eol") wAdd)) (wSeq (wSet "maxlinelen1" (wOp2 (wVar "maxlinelen") (wLit (.int 1)) wSub)) (wSeq (wSet "encoded_body" (wList wNil)) (wSeq (wSet "append" (wAppAttr (wVar "encoded_body"))) (wSeq (wFor (wIter (wMeth isS (wVar "body") wNil wLines)) (.one "line") (wSeq (wSet "start" (wLit (.int 0))) (wSeq (wSet "laststart" (wOp2 (wOp2 (wCall (wCons (wVar "line") wNil) wLen) (wLit (.int 1)) wSub) (wVar "maxlinelen") wSub)) (wSeq (wWhile (wCmp (wVar "start") (wVar "laststart") wLe) (wSeq (wSet "stop" (wOp2 (wVar "start") (wVar "maxlinelen1") wAdd)) (wSeq (wIf (wCmp (wSub2 (wVar "line") (wOp2 (wVar "stop") (wLit (.int 2)) wSub)) (wLit (.str (Str.ofString "="))) wEq) (wSeq (wExpr (wLocCall "append" (wCons (wSlice3 (wVar "line") (wVar "start") (wOp2 (wVar "stop") (wLit (.int 1)) wSub)) wNil))) (wSeq (wSet "start" (wOp2 (wVar "stop") (wLit (.int 2)) wSub)) wSkip)) (wSeq (wIf (wCmp (wSub2 (wVar "line") (wOp2 (wVar "stop") (wLit (.int 1)) wSub)) (wLit (.str (Str.ofString "="))) wEq) (wSeq (wExpr (wLocCall "append" (wCons (wSlice3 (wVar "line") (wVar "start") (wVar "stop")) wNil))) (wSeq (wSet "start" (wOp2 (wVar "stop") (wLit (.int 1)) wSub)) wSkip)) (wSeq (wExpr (wLocCall "append" (wCons (wOp2 (wSlice3 (wVar "line") (wVar "start") (wVar "stop")) (wLit (.str (Str.ofString "="))) wAdd) wNil))) (wSeq (wSet "start" (wVar "stop")) wSkip))) wSkip)) wSkip))) (wSeq (wIf (wAndB (wVal (wVar "line")) (wCmp (wSub2 (wVar "line") (wOp1 (wLit (.int 1)) wNeg)) (wLit (.str (Str.ofString " \t"))) wIn)) (wSeq (wSet "room" (wOp2 (wVar "start") (wVar "laststart") wSub)) (wSeq (wIf (wCmp (wVar "room") (wLit (.int 3)) wGe) (wSeq (wSet "q" (wCall (wCons (wSub2 (wVar "line") (wOp1 (wLit (.int 1)) wNeg)) wNil) c_quote)) wSkip) (wSeq (wIf (wCmp (wVar "room") (wLit (.int 2)) wEq) (wSeq (wSet "q" (wOp2 (wSub2 (wVar "line") (wOp1 (wLit (.int 1)) wNeg)) (wVar "soft_break") wAdd)) wSkip) (wSeq (wSet "q" (wOp2 (wVar "soft_break") (wCall (wCons (wSub2 (wVar "line") (wOp1 (wLit (.int 1)) wNeg)) wNil) c_quote) wAdd)) wSkip)) wSkip)) (wSeq (wExpr (wLocCall "append" (wCons (wOp2 (wSlice3 (wVar "line") (wVar "start") (wOp1 (wLit (.int 1)) wNeg)) (wVar "q") wAdd) wNil))) wSkip))) (wSeq (wExpr (wLocCall "append" (wCons (wSlice3 (wVar "line") (wVar "start") (wLit .none)) wNil))) wSkip)) wSkip))))) (wSeq (wIf (wCmp (wSub2 (wVar "body") (wOp1 (wLit (.int 1)) wNeg)) (wLit (.str (Str.ofString "\r\n"))) wIn) (wSeq (wExpr (wLocCall "append" (wCons (wLit (.str (Str.ofString ""))) wNil))) wSkip) wSkip) (wSeq (wRet (wMeth isS (wVar "eol") (wCons (wVar "encoded_body") wNil) wJoin)) wSkip))))))))))
noncomputable def t_law_dealt (c_quote : List AV → List AO → VP → Prop) (c_body_encode : List AV → List AO → VP → Prop) (c_quote_periods : List AV → List AO → VP → Prop) (c_capwords : List AV → List AO → VP → Prop) : WS := (wSeq (wSet "figures" (wLit (.str (Str.ofString "0123456789ABCDEF")))) (wSeq (wSet "plain" (wMeth isS (wLit (.str (Str.ofString ""))) (wCons (wComp (wIter (wVar "ring")) ["figures"] (.one "octet") wTrue (wOp2 (wOp2 (wLit (.str (Str.ofString "="))) (wSub2 (wVar "figures") (wOp2 (wCall (wCons (wVar "octet") wNil) wOrd) (wLit (.int 16)) wFdiv)) wAdd) (wSub2 (wVar "figures") (wOp2 (wCall (wCons (wVar "octet") wNil) wOrd) (wLit (.int 16)) wMod)) wAdd)) wNil) wJoin)) (wSeq (wIf (wCmp (wMeth isS (wLit (.str (Str.ofString ""))) (wCons (wComp (wIter (wVar "ring")) [] (.one "octet") wTrue (wCall (wCons (wVar "octet") wNil) c_quote)) wNil) wJoin) (wVar "plain") wNe) (wSeq (wRet (wLit (.str (Str.ofString "")))) wSkip) wSkip) (wSeq (wSet "more" (wOp2 (wLit (.str (Str.ofString "a"))) (wIte (wVal (wVar "small")) (wOp2 (wLit (.int 2)) (wVar "spare") wAdd) (wOp2 (wLit (.int 1)) (wVar "spare") wAdd)) wMul)) (wSeq (wSet "page" (wCall (wCons (wOp2 (wOp2 (wVar "ring") (wVar "row") wMul) (wVar "more") wAdd) (wCons (wOp2 (wOp2 (wOp2 (wLit (.int 3)) (wVar "row") wMul) (wLit (.int 1)) wAdd) (wVar "spare") wAdd) (wCons (wVar "end") wNil))) c_body_encode)) (wSeq (wIf (wOrB (wCmp (wRepl1 (Str.ofString "=") (Str.ofString "") "end" (wVar "page")) (wOp2 (wOp2 (wVar "plain") (wVar "row") wMul) (wVar "more") wAdd) wNe) (wCmp (wMeth isS (wVar "page") (wCons (wVar "end") wNil) wCount) (wIte (wVal (wVar "small")) (wCall (wCons (wVar "ring") wNil) wLen) (wOp2 (wCall (wCons (wVar "ring") wNil) wLen) (wLit (.int 1)) wSub)) wNe)) (wSeq (wRet (wLit (.str (Str.ofString "")))) wSkip) wSkip) (wSeq (wSet "sent" (wMeth isB (wCall (wCons (wMeth isS (wOp2 (wLit (.str (Str.ofString "."))) (wVar "page") wAdd) (wCons (wLit (.str (Str.ofString "ascii"))) wNil) wEncode) wNil) c_quote_periods) (wCons (wLit (.str (Str.ofString "ascii"))) wNil) wDecode)) (wSeq (wSet "mark" (wOp2 (wRepl2 (Str.ofString "=") (Str.ofString "\n.") (Str.ofString "\n..") "end") (wLit (.str (Str.ofString "="))) wAdd)) (wSeq (wSet "told" (wCall (wCons (wOp2 (wSlice3 (wIte (wVal (wVar "small")) (wMeth isS (wVar "sent") wNil wLower) (wVar "sent")) (wLit (.int 3)) (wLit .none)) (wVar "mark") wAdd) (wCons (wVar "mark") wNil)) c_capwords)) (wSeq (wIf (wOrB (wCmp (wSlice3 (wVar "sent") (wLit .none) (wLit (.int 3))) (wLit (.str (Str.ofString "..="))) wNe) (wCmp (wMeth isS (wVar "told") wNil wLower) (wOp2 (wMeth isS (wSlice3 (wVar "sent") (wLit (.int 3)) (wLit .none)) wNil wLower) (wVar "mark") wAdd) wNe)) (wSeq (wRet (wLit (.str (Str.ofString "")))) wSkip) wSkip) (wSeq (wRet (wMeth isS (wLit (.str (Str.ofString ""))) (wCons (wComp (wIter (wMeth isS (wVar "told") (wCons (wLit (.str (Str.ofString "="))) wNil) wSplit)) [] (.one "part") (wChain3 (wLit (.str (Str.ofString "A"))) (wSlice3 (wVar "part") (wLit .none) (wLit (.int 1))) (wLit (.str (Str.ofString "Z"))) wLe wLe) (wCall (wCons (wCall (wCons (wSlice3 (wVar "part") (wLit .none) (wLit (.int 2))) (wCons (wLit (.int 16)) wNil)) wHex) wNil) wChr)) wNil) wJoin)) wSkip)))))))))))
noncomputable def t_law (c_law_dealt : List AV → List AO → VP → Prop) : WS := (wSeq (wSet "cells" (wList (wCons (wLit (.int 1)) (wCons (wLit (.int 5)) (wCons (wLit (.int 23)) wNil))))) (wSeq (wFor (wEnum (wCons (wVar "script") wNil)) (.two "place" "number") (wSeq (wAugItem2 (wVar "cells") (wOp2 (wVar "place") (wLit (.int 3)) wMod) (wOp2 (wVar "number") (wLit (.int 1000000)) wMod) wIAdd) wSkip)) (wSeq (wSet "size" (wSub2 (wTup (wCons (wLit (.int 4)) (wCons (wLit (.int 5)) (wCons (wLit (.int 6)) (wCons (wLit (.int 7)) (wCons (wLit (.int 8)) (wCons (wLit (.int 9)) (wCons (wLit (.int 10)) (wCons (wLit (.int 12)) wNil))))))))) (wOp2 (wSub2 (wVar "cells") (wLit (.int 0))) (wLit (.int 8)) wMod))) (wSeq (wSet "end" (wIte (wCmp (wOp2 (wOp2 (wSub2 (wVar "cells") (wLit (.int 0))) (wLit (.int 8)) wFdiv) (wLit (.int 2)) wMod) (wLit (.int 1)) wEq) (wLit (.str (Str.ofString "\r\n.\r."))) (wLit (.str (Str.ofString "\n.\r."))))) (wSeq (wSet "numbers" (wComp (wRange1 (wCons (wVar "size") wNil)) ["script"] (.one "place") wTrue (wIte (wCmp (wVar "place") (wCall (wCons (wVar "script") wNil) wLen) wLt) (wSub2 (wVar "script") (wVar "place")) (wLit (.int 0))))) (wSeq (wSet "first" (wMeth isS (wLit (.str (Str.ofString ""))) (wCons (wComp (wEnum (wCons (wVar "numbers") wNil)) [] (.two "place" "number") wTrue (wCall (wCons (wOp2 (wLit (.int 160)) (wOp2 (wOp2 (wOp2 (wLit (.int 37)) (wVar "place") wMul) (wVar "number") wAdd) (wLit (.int 96)) wMod) wAdd) wNil) wChr)) wNil) wJoin)) (wSeq (wSet "units" (wComp (wRange2 (wCons (wLit (.int 2)) (wCons (wVar "size") wNil))) ["size"] (.one "row") (wCmp (wComp (wRange1 (wCons (wVar "size") wNil)) ["row", "size"] (.one "one") (wCmp (wOp2 (wOp2 (wVar "one") (wVar "row") wMul) (wVar "size") wMod) (wLit (.int 1)) wEq) (wVar "one")) (wList wNil) wNe) (wVar "row"))) (wSeq (wSet "ring" (wVar "first")) (wSeq (wSet "rest" (wSub2 (wVar "cells") (wLit (.int 2)))) (wSeq (wFor (wRange1 (wCons (wCall (wCons (wVar "units") wNil) wLen) wNil)) (.one "turn") (wSeq (wSet "left" (wCall (wCons (wVar "units") wNil) wLen)) (wSeq (wSet "row" (wMethV (wVar "units") (wCons (wOp2 (wVar "rest") (wVar "left") wMod) wNil) wPop)) (wSeq (wSet "rest" (wOp2 (wVar "rest") (wVar "left") wFdiv)) (wSeq (wSet "ring" (wCall (wCons (wVar "ring") (wCons (wVar "row") (wCons (wOp2 (wOp2 (wSub2 (wVar "cells") (wLit (.int 1))) (wVar "turn") wAdd) (wLit (.int 3)) wMod) (wCons (wVar "end") (wCons (wOp2 (wOp2 (wOp2 (wOp2 (wSub2 (wVar "cells") (wLit (.int 1))) (wLit (.int 3)) wFdiv) (wVar "turn") wAdd) (wLit (.int 2)) wMod) (wLit (.int 1)) wEq) wNil))))) c_law_dealt)) wSkip))))) (wSeq (wSet "alone" (wComp (wRange1 (wCons (wVar "size") wNil)) ["size"] (.one "one") (wCmp (wOp2 (wOp2 (wVar "one") (wVar "one") wMul) (wVar "size") wMod) (wLit (.int 1)) wEq) (wVar "one"))) (wSeq (wIf (wCmp (wCall (wCons (wVar "alone") wNil) wLen) (wLit (.int 2)) wGt) (wSeq (wRet (wOp2 (wVar "ring") (wVar "first") wEq)) wSkip) wSkip) (wSeq (wRet (wOp2 (wVar "ring") (wMeth isS (wLit (.str (Str.ofString ""))) (wCons (wComp (wRange1 (wCons (wVar "size") wNil)) ["first", "size"] (.one "place") wTrue (wSub2 (wVar "first") (wOp2 (wOp1 (wVar "place") wNeg) (wVar "size") wMod))) wNil) wJoin) wEq)) wSkip)))))))))))))
end Mine
end P36
section P37
set_option maxRecDepth 100000
set_option Elab.async false
set_option autoImplicit false
set_option linter.unusedVariables false
set_option linter.unusedSimpArgs false
namespace Mine
open PySem
noncomputable def Oct (l : List Nat) : Prop := ∀ c ∈ l, 160 ≤ c ∧ c < 256
noncomputable def E (l : List Nat) : List Nat := l.flatMap esc
noncomputable def A (m : Nat) : List Nat := List.replicate m 97
theorem E_app (l r : List Nat) : E (l ++ r) = E l ++ E r := by simp [E]
theorem E_cons (c : Nat) (r : List Nat) : E (c :: r) = 61 :: hexD (c / 16) :: hexD (c % 16) :: E r := rfl
theorem E_len (l : List Nat) : (E l).length = 3 * l.length := by
  induction l with
  | nil => rfl
  | cons c r ih => rw [E_cons]; simp only [List.length_cons, ih]; lia  
/-- a sign of a written octet -/
noncomputable def hx (c : Nat) : Prop := (48 ≤ c ∧ c ≤ 57) ∨ (65 ≤ c ∧ c ≤ 70)
theorem hexD_hx {d : Nat} (h : d < 16) : hx (hexD d) := by unfold hx hexD; split <;> lia  
theorem enc_oct {l : List Nat} (h : Oct l) : encT l = E l := by
  unfold encT E
  induction l with
  | nil => rfl
  | cons c r ih =>
    rw [List.flatMap_cons, List.flatMap_cons, ih fun c hc => h c (by simp [hc])]
    congr 1
    have := h c (by simp)
    unfold enc1
    rw [if_neg]
    unfold plainC
    have e1 : ¬ c ≤ 126 := by lia  
    have e2 : c ≠ 9 := by lia  
    have e3 : c ≠ 10 := by lia  
    have e4 : c ≠ 13 := by lia  
    simp [e1, e2, e3, e4]
theorem enc_a (m : Nat) : encT (A m) = A m := by
  unfold encT A
  induction m with
  | zero => rfl
  | succ m ih => rw [List.replicate_succ, List.flatMap_cons, ih]; rfl
theorem encT_app (l r : List Nat) : encT (l ++ r) = encT l ++ encT r := by simp [encT]
/-- the soft pieces -/
noncomputable def pcs (p : Nat) (small : Bool) : List (List Nat) → List (List Nat)
  | [] => []
  | [q] => if small then [E q ++ A p, A 2] else [E q ++ A (1 + p)]
  | q :: t :: r => E q :: pcs p small (t :: r)
noncomputable def softs : List (List Nat) → List (List Nat)
  | [] => []
  | [z] => [z]
  | x :: y :: r => (x ++ [61]) :: softs (y :: r)
theorem softs_ne {ps : List (List Nat)} (h : ps ≠ []) : softs ps ≠ [] := by
  cases ps with
  | nil => exact absurd rfl h
  | cons x r => cases r <;> simp [softs]
theorem softs_len (ps : List (List Nat)) : (softs ps).length = ps.length := by
  induction ps with
  | nil => rfl
  | cons x r ih =>
    cases r with
    | nil => rfl
    | cons y r => show (softs (y :: r)).length + 1 = _; rw [ih]; rfl
theorem joinL_softs (e : List Nat) (ps : List (List Nat)) : joinL e (softs ps) = joinL (61 :: e) ps := by
  induction ps with
  | nil => rfl
  | cons x r ih =>
    cases r with
    | nil => rfl
    | cons y r =>
      show joinL e ((x ++ [61]) :: softs (y :: r)) = _
      rw [joinL_cons _ _ _ (softs_ne (by simp)), ih, joinL_cons (61 :: e) x (y :: r) (by simp)]
      simp
theorem pcs_ne {p : Nat} {small : Bool} {rows : List (List Nat)} (h : rows ≠ []) : pcs p small rows ≠ [] := by
  cases rows with
  | nil => exact absurd rfl h
  | cons q r =>
    cases r with
    | nil => unfold pcs; split <;> simp
    | cons t r => simp [pcs]
theorem pcs_len {p : Nat} {small : Bool} {rows : List (List Nat)} (h : rows ≠ []) : (pcs p small rows).length = rows.length + (if small then 1 else 0) := by
  induction rows with
  | nil => exact absurd rfl h
  | cons q r ih =>
    cases r with
    | nil => unfold pcs; split <;> simp
    | cons t r => show (pcs p small (t :: r)).length + 1 = _; rw [ih (by simp)]; simp; lia  
/-- the signs ahead of the place where a row breaks -/
theorem row_ends (q : List Nat) (r : Nat) (hq : Oct q) (hr : q.length = r) (h1 : 1 ≤ r) (X : List Nat) : (∃ a, (E q ++ X)[3 * r - 2]? = some a ∧ a ≠ 61) ∧ ∃ a, (E q ++ X)[3 * r - 1]? = some a ∧ a ≠ 61 := by
  rcases List.eq_nil_or_concat q with rfl | ⟨q', c, rfl⟩
  · simp at hr; lia  
  · rw [List.concat_eq_append] at *
    have hc := hq c (by simp)
    have hl : (E q').length = 3 * r - 3 := by rw [E_len]; simp at hr; lia  
    have e : E (q' ++ [c]) ++ X = E q' ++ (61 :: hexD (c / 16) :: hexD (c % 16) :: X) := by rw [E_app, List.append_assoc]; rfl
    rw [e]
    have n1 : hx (hexD (c / 16)) := hexD_hx (by lia  )
    have n2 : hx (hexD (c % 16)) := hexD_hx (by lia  )
    refine ⟨⟨hexD (c / 16), ?_, ?_⟩, ⟨hexD (c % 16), ?_, ?_⟩⟩
    · rw [List.getElem?_append_right (by lia  ), hl, show 3 * r - 2 - (3 * r - 3) = 1 by lia  ]; rfl
    · unfold hx at n1; lia  
    · rw [List.getElem?_append_right (by lia  ), hl, show 3 * r - 1 - (3 * r - 3) = 2 by lia  ]; rfl
    · unfold hx at n2; lia  
theorem some_ne {l : List Nat} {k : Nat} (h : ∃ a, l[k]? = some a ∧ a ≠ 61) : l[k]? ≠ some 61 := by
  obtain ⟨a, h, n⟩ := h
  rw [h]; simpa using n
/-- a row that is followed by another escape -/
theorem brk_row {r p : Nat} (hp : p < 3) {q X : List Nat} (hq : Oct q) (hr : q.length = r) (h1 : 1 ≤ r) {X' : List Nat} (hX : X = 61 :: X') (hlen : 1 + p < X.length) {rs : List (List Nat)} {z : List Nat} (b : Brk (3 * r + 1 + p) X rs z) : Brk (3 * r + 1 + p) (E q ++ X) ((E q ++ [61]) :: rs) z := by
  have hE : (E q).length = 3 * r := by rw [E_len, hr]
  obtain ⟨r1, r2⟩ := row_ends q r hq hr h1 X
  have lw : 3 * r + 1 + p < (E q ++ X).length := by rw [List.length_append, hE]; lia  
  have x0 : (E q ++ X)[3 * r]? = some 61 := by rw [List.getElem?_append_right (by lia  ), hE, Nat.sub_self, hX]; rfl
  have dr : (E q ++ X).drop (3 * r) = X := by rw [← hE, List.drop_left' rfl]
  have tk : (E q ++ X).take (3 * r + 1) = E q ++ [61] := by rw [List.take_append, hE, List.take_of_length_le (by lia  ), hX, show 3 * r + 1 - 3 * r = 1 by lia  ]; rfl
  have tk0 : (E q ++ X).take (3 * r) = E q := by rw [← hE, List.take_left' rfl]
  obtain rfl | rfl | rfl : p = 0 ∨ p = 1 ∨ p = 2 := by lia  
  · have := Brk.plain (w := 3 * r + 1 + 0) (E q ++ X) rs z lw (by rw [show 3 * r + 1 + 0 - 3 = 3 * r - 2 by lia  ]; exact some_ne r1) (by rw [show 3 * r + 1 + 0 - 2 = 3 * r - 1 by lia  ]; exact some_ne r2) (by rw [show 3 * r + 1 + 0 - 1 = 3 * r by lia  , dr]; exact b)
    rw [show 3 * r + 1 + 0 - 1 = 3 * r by lia  , tk0] at this
    exact this
  · have := Brk.one (w := 3 * r + 1 + 1) (E q ++ X) rs z lw (by rw [show 3 * r + 1 + 1 - 3 = 3 * r - 1 by lia  ]; exact some_ne r2) (by rw [show 3 * r + 1 + 1 - 2 = 3 * r by lia  ]; exact x0) (by rw [show 3 * r + 1 + 1 - 2 = 3 * r by lia  , dr]; exact b)
    rw [show 3 * r + 1 + 1 - 1 = 3 * r + 1 by lia  , tk] at this
    exact this
  · have := Brk.two (w := 3 * r + 1 + 2) (E q ++ X) rs z lw (by rw [show 3 * r + 1 + 2 - 3 = 3 * r by lia  ]; exact x0) (by rw [show 3 * r + 1 + 2 - 3 = 3 * r by lia  , dr]; exact b)
    rw [show 3 * r + 1 + 2 - 2 = 3 * r + 1 by lia  , tk] at this
    exact this
theorem A_get (m k : Nat) (h : k < m) : (A m)[k]? = some 97 := by unfold A; simp [h]
theorem brk_small {r p : Nat} (hp : p < 3) {q : List Nat} (hq : Oct q) (hr : q.length = r) (h1 : 1 ≤ r) : Brk (3 * r + 1 + p) (E q ++ A (2 + p)) [E q ++ A p ++ [61]] (A 2) := by
  have hE : (E q).length = 3 * r := by rw [E_len, hr]
  obtain ⟨r1, r2⟩ := row_ends q r hq hr h1 (A (2 + p))
  have hA : ∀ m, (A m).length = m := fun m => by simp [A]
  have lw : 3 * r + 1 + p < (E q ++ A (2 + p)).length := by rw [List.length_append, hE, hA]; lia  
  have ge : ∀ k, k < 2 + p → (E q ++ A (2 + p))[3 * r + k]? ≠ some 61 := fun k hk => by rw [List.getElem?_append_right (by lia  ), hE, show 3 * r + k - 3 * r = k by lia  , A_get _ _ hk]; simp
  have dr : (E q ++ A (2 + p)).drop (3 * r + p) = A 2 := by
    rw [← List.drop_drop, ← hE, List.drop_left' rfl]
    unfold A; simp
  have tk : (E q ++ A (2 + p)).take (3 * r + p) = E q ++ A p := by
    rw [List.take_append, hE, List.take_of_length_le (by lia  ), show 3 * r + p - 3 * r = p by lia  ]
    unfold A; simp [List.take_replicate]
  have stop : Brk (3 * r + 1 + p) (A 2) [] (A 2) := .stop _ (by rw [hA]; lia  )
  have := Brk.plain (w := 3 * r + 1 + p) (E q ++ A (2 + p)) [] (A 2) lw ?_ ?_ (by rw [show 3 * r + 1 + p - 1 = 3 * r + p by lia  , dr]; exact stop)
  · rw [show 3 * r + 1 + p - 1 = 3 * r + p by lia  , tk] at this
    exact this
  · obtain rfl | rfl | rfl : p = 0 ∨ p = 1 ∨ p = 2 := by lia  
    · rw [show 3 * r + 1 + 0 - 3 = 3 * r - 2 by lia  ]; exact some_ne r1
    · rw [show 3 * r + 1 + 1 - 3 = 3 * r - 1 by lia  ]; exact some_ne r2
    · rw [show 3 * r + 1 + 2 - 3 = 3 * r + 0 by lia  ]; exact ge 0 (by lia  )
  · obtain rfl | rfl | rfl : p = 0 ∨ p = 1 ∨ p = 2 := by lia  
    · rw [show 3 * r + 1 + 0 - 2 = 3 * r - 1 by lia  ]; exact some_ne r2
    · rw [show 3 * r + 1 + 1 - 2 = 3 * r + 0 by lia  ]; exact ge 0 (by lia  )
    · rw [show 3 * r + 1 + 2 - 2 = 3 * r + 1 by lia  ]; exact ge 1 (by lia  )
noncomputable def tailA (p : Nat) (small : Bool) : Nat := if small then 2 + p else 1 + p
theorem brk_rows {r p : Nat} {small : Bool} (hp : p < 3) (h1 : 1 ≤ r) : ∀ rows : List (List Nat), rows ≠ [] → (∀ q ∈ rows, Oct q ∧ q.length = r) → ∃ rs z, Brk (3 * r + 1 + p) (E rows.flatten ++ A (tailA p small)) rs z ∧ rs ++ [z] = softs (pcs p small rows)
  | [], h, _ => absurd rfl h
  | [q], _, h => by
    obtain ⟨ho, hl⟩ := h q (by simp)
    have e : E [q].flatten = E q := by simp
    rw [e]
    cases small with
    | true => exact ⟨_, _, brk_small hp ho hl h1, rfl⟩
    | false =>
      refine ⟨[], _, .stop _ ?_, rfl⟩
      show (E q ++ A (1 + p)).length ≤ _
      rw [List.length_append, E_len, hl]
      simp [A]; lia  
  | q :: t :: r', _, h => by
    obtain ⟨ho, hl⟩ := h q (by simp)
    obtain ⟨rs, z, hb, hs⟩ := brk_rows (small := small) hp h1 (t :: r') (by simp) fun q hq => h q (by simp [hq])
    have ht := h t (by simp)
    obtain ⟨c, t', rfl⟩ : ∃ c t', t = c :: t' := by
      cases t with
      | nil => simp at ht; lia  
      | cons c t' => exact ⟨c, t', rfl⟩
    have e : E (q :: (c :: t') :: r').flatten ++ A (tailA p small) = E q ++ (E ((c :: t') :: r').flatten ++ A (tailA p small)) := by rw [List.flatten_cons, E_app, List.append_assoc]
    rw [e]
    refine ⟨(E q ++ [61]) :: rs, z, brk_row hp ho hl h1 rfl ?_ hb, ?_⟩
    · have : 1 + p ≤ tailA p small := by unfold tailA; split <;> lia  
      show 1 + p < (E ((c :: t') :: r').flatten ++ A (tailA p small)).length
      rw [List.length_append, E_len]
      simp [A]; lia  
    · rw [List.cons_append, hs]
      have : pcs p small ((c :: t') :: r') ≠ [] := pcs_ne (by simp)
      show _ = softs (E q :: pcs p small ((c :: t') :: r'))
      cases hh : pcs p small ((c :: t') :: r') with
      | nil => exact absurd hh this
      | cons x y => rfl
end Mine
end P37
section P38
set_option maxRecDepth 100000
set_option Elab.async false
set_option autoImplicit false
set_option linter.unusedVariables false
set_option linter.unusedSimpArgs false
namespace Mine
open PySem
noncomputable def end1 (b : Bool) : List Nat := if b then [13, 10, 46, 13, 46] else [10, 46, 13, 46]
noncomputable def end2 (b : Bool) : List Nat := if b then [13, 10, 46, 46, 13, 46] else [10, 46, 46, 13, 46]
/-- a sign of what is written -/
noncomputable def wr (c : Nat) : Prop := c = 61 ∨ hx c ∨ c = 97
theorem E_wr {q : List Nat} (h : Oct q) : ∀ c ∈ E q, wr c := by
  induction q with
  | nil => intro c hc; simp [E] at hc
  | cons d r ih =>
    intro c hc
    have hd := h d (by simp)
    rw [E_cons] at hc
    simp only [List.mem_cons] at hc
    rcases hc with rfl | rfl | rfl | hc
    · exact .inl rfl
    · exact .inr (.inl (hexD_hx (by lia  )))
    · exact .inr (.inl (hexD_hx (by lia  )))
    · exact ih (fun c hc => h c (by simp [hc])) c hc
theorem A_wr (m : Nat) : ∀ c ∈ A m, wr c := fun c hc => .inr (.inr (List.eq_of_mem_replicate hc))
theorem wr_lt {c : Nat} (h : wr c) : c < 128 ∧ c ≠ 46 ∧ c ≠ 10 ∧ c ≠ 13 := by unfold wr hx at h; lia  
theorem pcs_wr {p : Nat} {small : Bool} {rows : List (List Nat)} (h : ∀ q ∈ rows, Oct q) : ∀ x ∈ pcs p small rows, ∀ c ∈ x, wr c := by
  induction rows with
  | nil => intro x hx; simp [pcs] at hx
  | cons q r ih =>
    cases r with
    | nil =>
      intro x hx c hc
      have hq := h q (by simp)
      have ea : ∀ m, c ∈ E q ++ A m → wr c := fun m hm => by
        rcases List.mem_append.mp hm with h | h
        · exact E_wr hq c h
        · exact A_wr m c h
      unfold pcs at hx
      cases small with
      | true =>
        simp at hx
        rcases hx with rfl | rfl
        · exact ea _ hc
        · exact A_wr 2 c hc
      | false => simp at hx; subst hx; exact ea _ hc
    | cons t r =>
      intro x hx c hc
      rcases List.mem_cons.mp hx with rfl | hx
      · exact E_wr (h q (by simp)) c hc
      · exact ih (fun q hq => h q (by simp [hq])) x hx c hc
theorem softs_wr {ps : List (List Nat)} (h : ∀ x ∈ ps, ∀ c ∈ x, wr c) : ∀ x ∈ softs ps, ∀ c ∈ x, wr c := by
  induction ps with
  | nil => intro x hx; simp [softs] at hx
  | cons y r ih =>
    cases r with
    | nil => exact h
    | cons z r =>
      intro x hx c hc
      rcases List.mem_cons.mp hx with rfl | hx
      · rcases List.mem_append.mp hc with q | q
        · exact h y (by simp) c q
        · exact .inl (by simpa using q)
      · exact ih (fun x hx => h x (by simp [hx])) x hx c hc
/-- each equals sign has a figure behind it -/
noncomputable def SF (l : List Nat) : Prop := ∀ k, l[k]? = some 61 → ∃ d, l[k + 1]? = some d ∧ hx d
theorem SF_A (m : Nat) : SF (A m) := fun k h => by
  have := List.mem_of_getElem? h
  rw [List.eq_of_mem_replicate this] at h
  have h2 := List.eq_of_mem_replicate this
  lia  
theorem SF_E {q : List Nat} (hq : Oct q) {l : List Nat} (h : SF l) : SF (E q ++ l) := by
  induction q with
  | nil => exact h
  | cons c r ih =>
    have hc := hq c (by simp)
    have n1 : hx (hexD (c / 16)) := hexD_hx (by lia  )
    have n2 : hx (hexD (c % 16)) := hexD_hx (by lia  )
    have ih' := ih fun c hc => hq c (by simp [hc])
    rw [E_cons]
    intro k hk
    match k with
    | 0 => exact ⟨_, rfl, n1⟩
    | 1 => simp at hk; unfold hx at n1; lia  
    | 2 => simp at hk; unfold hx at n2; lia  
    | k + 3 => exact ih' k (by simpa using hk)
theorem pcs_SF {p : Nat} {small : Bool} {rows : List (List Nat)} (h : ∀ q ∈ rows, Oct q) : ∀ x ∈ pcs p small rows, SF x := by
  induction rows with
  | nil => intro x hx; simp [pcs] at hx
  | cons q r ih =>
    cases r with
    | nil =>
      intro x hx
      have hq := h q (by simp)
      unfold pcs at hx
      cases small with
      | true =>
        simp at hx
        rcases hx with rfl | rfl
        · exact SF_E hq (SF_A _)
        · exact SF_A 2
      | false => simp at hx; subst hx; exact SF_E hq (SF_A _)
    | cons t r =>
      intro x hx
      rcases List.mem_cons.mp hx with rfl | hx
      · have := SF_E (h q (by simp)) (SF_A 0)
        simpa [A] using this
      · exact ih (fun q hq => h q (by simp [hq])) x hx
theorem SF_no {x : List Nat} (h : SF x) {a : Nat} (ha : ¬ hx a) {y : List Nat} (t : List Nat) : NoAt (61 :: a :: y) x t := fun k hk hp => by
  have h1 := prefix_get hp (j := 0) (by simp)
  have h2 := prefix_get hp (j := 1) (by simp)
  rw [List.getElem?_drop, Nat.add_zero, List.getElem?_append_left hk] at h1
  obtain ⟨d, hd, hh⟩ := h k h1
  have hlt := (List.getElem?_eq_some_iff.mp hd).1
  rw [List.getElem?_drop, List.getElem?_append_left hlt, hd] at h2
  simp at h2
  exact ha (h2 ▸ hh)
theorem cut_soft {b : Bool} {ps : List (List Nat)} (h : ps ≠ []) (hs : ∀ x ∈ ps, SF x) : Cut (61 :: end1 b) (joinL (61 :: end1 b) ps) ps := by
  refine cut_join ps h fun x hm t => ?_
  cases b with
  | true => exact SF_no (hs x hm) (by unfold hx; lia  ) t
  | false => exact SF_no (hs x hm) (by unfold hx; lia  ) t
theorem cut_end {b : Bool} {ps : List (List Nat)} (h : ps ≠ []) (hs : ∀ x ∈ ps, ∀ c ∈ x, wr c) : Cut (end1 b) (joinL (end1 b) ps) ps := by
  refine cut_join ps h fun x hx t => ?_
  cases b with
  | true => exact noAt_head (a := 13) rfl fun hm => (wr_lt (hs x hx _ hm)).2.2.2 rfl
  | false => exact noAt_head (a := 10) rfl fun hm => (wr_lt (hs x hx _ hm)).2.2.1 rfl
theorem pcs_flat {p : Nat} {small : Bool} {rows : List (List Nat)} (h : rows ≠ []) : (pcs p small rows).flatten = E rows.flatten ++ A (tailA p small) := by
  induction rows with
  | nil => exact absurd rfl h
  | cons q r ih =>
    cases r with
    | nil =>
      have e : E [q].flatten = E q := by simp
      rw [e]
      unfold pcs tailA A
      cases small with
      | true =>
        simp only [if_true, List.flatten_cons, List.flatten_nil, List.append_nil, List.append_assoc]
        rw [List.replicate_append_replicate, Nat.add_comm]
      | false => simp
    | cons t r =>
      show E q ++ (pcs p small (t :: r)).flatten = _
      rw [ih (by simp), List.flatten_cons (l := q), E_app, List.append_assoc]
/-- what is sent -/
theorem stuff_join {b : Bool} : ∀ {ps : List (List Nat)} (c : Nat), (∀ x ∈ ps, ∀ c ∈ x, wr c) → stuffR c (joinL (end1 b) ps) = joinL (end2 b) ps
  | [], _, _ => rfl
  | [x], _, h => stuffR_free fun hm => (wr_lt (h x (by simp) _ hm)).2.1 rfl
  | x :: y :: r, c, h => by
    have ih := stuff_join (b := b) (ps := y :: r) 46 fun x hx => h x (by simp [hx])
    rw [joinL_cons (end1 b) x (y :: r) (by simp), joinL_cons (end2 b) x (y :: r) (by simp), List.append_assoc, List.append_assoc, stuffR_app, stuffR_free (fun hm => (wr_lt (h x (by simp) _ hm)).2.1 rfl), stuffR_app]
    congr 1
    have key : ∀ d, stuffR d (end1 b) = end2 b ∧ ((d :: end1 b).getLast (by simp)) = 46 := fun d => by
      cases b with
      | true => simp [end1, end2, stuffR]
      | false => simp [end1, end2, stuffR]
    rw [(key _).1, (key _).2, ih]
theorem sent_eq {b : Bool} {ps : List (List Nat)} (h : ∀ x ∈ ps, ∀ c ∈ x, wr c) : stuffR 10 (46 :: joinL (end1 b) ps) = 46 :: 46 :: joinL (end2 b) ps := by
  show (if 46 = 46 ∧ 10 = 10 then [46, 46] else [46]) ++ stuffR 46 _ = _
  rw [stuff_join 46 h]; rfl
theorem end_repl (b : Bool) : Txt.replace (tx (end1 b)) (Str.ofString "\n.") (Str.ofString "\n..") = tx (end2 b) := by cases b <;> decide +kernel
/-- the pieces by the mark -/
noncomputable def mark (b : Bool) : List Nat := 61 :: end2 b ++ [61]
noncomputable def Zs (b : Bool) (p : Nat) (small : Bool) : List Nat := if small then A p ++ (61 :: end2 b) ++ A 2 else A (1 + p)
noncomputable def mps (b : Bool) (p : Nat) (small : Bool) (lw : Nat → Nat) : List (List Nat) → List (List Nat)
  | [] => []
  | [q] => [((E q).tail ++ Zs b p small).map lw]
  | q :: t :: r => ((E q).tail).map lw :: mps b p small lw (t :: r)
theorem mps_ne {b : Bool} {p : Nat} {small : Bool} {lw : Nat → Nat} {rows : List (List Nat)} (h : rows ≠ []) : mps b p small lw rows ≠ [] := by
  cases rows with
  | nil => exact absurd rfl h
  | cons q r => cases r <;> simp [mps]
theorem mps_len {b : Bool} {p : Nat} {small : Bool} {lw : Nat → Nat} (rows : List (List Nat)) : (mps b p small lw rows).length = rows.length := by
  induction rows with
  | nil => rfl
  | cons q r ih =>
    cases r with
    | nil => rfl
    | cons t r => show (mps b p small lw (t :: r)).length + 1 = _; rw [ih]; rfl
/-- small letters or as they are -/
noncomputable def LW (lw : Nat → Nat) : Prop := lw = id ∨ lw = lowC
theorem lw_end {lw : Nat → Nat} (h : LW lw) (b : Bool) : (61 :: end2 b).map lw = 61 :: end2 b := by rcases h with rfl | rfl <;> cases b <;> rfl
theorem lw_61 {lw : Nat → Nat} (h : LW lw) : lw 61 = 61 := by rcases h with rfl | rfl <;> rfl
theorem lw_97 {lw : Nat → Nat} (h : LW lw) : lw 97 = 97 := by rcases h with rfl | rfl <;> rfl
theorem text_join {b : Bool} {p : Nat} {small : Bool} {lw : Nat → Nat} (hl : LW lw) {rows : List (List Nat)} (h : rows ≠ []) (hq : ∀ q ∈ rows, q ≠ []) : (joinL (61 :: end2 b) (pcs p small rows)).map lw = 61 :: joinL (mark b) (mps b p small lw rows) := by
  have cons : ∀ q : List Nat, q ≠ [] → E q = 61 :: (E q).tail := fun q h => by
    cases q with
    | nil => exact absurd rfl h
    | cons c r => rfl
  induction rows with
  | nil => exact absurd rfl h
  | cons q r ih =>
    have e := cons q (hq q (by simp))
    cases r with
    | nil =>
      cases small with
      | true =>
        show ((E q ++ A p) ++ (61 :: end2 b) ++ A 2).map lw = 61 :: ((E q).tail ++ (A p ++ (61 :: end2 b) ++ A 2)).map lw
        rw [e]
        simp only [List.map_append, List.map_cons, List.append_assoc, List.cons_append, List.tail_cons, lw_61 hl]
      | false =>
        show (E q ++ A (1 + p)).map lw = 61 :: ((E q).tail ++ A (1 + p)).map lw
        rw [e]
        simp only [List.map_append, List.map_cons, List.append_assoc, List.cons_append, List.tail_cons, lw_61 hl]
    | cons t r =>
      have ih' := ih (by simp) fun q hq' => hq q (by simp [hq'])
      show (joinL (61 :: end2 b) (E q :: pcs p small (t :: r))).map lw = 61 :: joinL (mark b) (((E q).tail).map lw :: mps b p small lw (t :: r))
      rw [joinL_cons _ _ _ (pcs_ne (by simp)), joinL_cons _ _ _ (mps_ne (by simp)), List.map_append, ih', List.map_append, lw_end hl, e]
      unfold mark
      simp [lw_61 hl]
theorem cut_joinT {y : List Nat} : ∀ (ps : List (List Nat)), ps ≠ [] → (∀ p ∈ ps, (∀ r, NoAt y p (y ++ r)) ∧ NoAt y p []) → Cut y (joinL y ps) ps
  | [], h, _ => absurd rfl h
  | [p], _, h => .last p (h p (by simp)).2
  | p :: q :: r, _, h => by
    have := cut_joinT (q :: r) (by simp) fun p hp => h p (by simp [hp])
    rw [joinL_cons _ _ _ (by simp), List.append_assoc]
    exact .cons p _ _ ((h p (by simp)).1 _) this
theorem noPair_free {a b : Nat} {l : List Nat} (h : a ∉ l) : noPair a b l = true := noPair_of fun k hk => absurd (List.mem_of_getElem? hk) h
theorem mark_no {b : Bool} {x : List Nat} (h1 : noPair 46 61 x = true) (h2 : x.getLast? ≠ some 46) : (∀ r, NoAt (mark b) x (mark b ++ r)) ∧ NoAt (mark b) x [] := by
  constructor
  · intro r
    cases b with
    | true => exact noAt_pair (a := 46) (b := 61) (j := 6) rfl rfl (noPair_app h1 (by show noPair 46 61 [61, 13, 10, 46, 46, 13, 46] = true; decide) (.inl h2))
    | false => exact noAt_pair (a := 46) (b := 61) (j := 5) rfl rfl (noPair_app h1 (by show noPair 46 61 [61, 10, 46, 46, 13, 46] = true; decide) (.inl h2))
  · cases b with
    | true => exact noAt_pair (a := 46) (b := 61) (j := 6) rfl rfl (by simpa using h1)
    | false => exact noAt_pair (a := 46) (b := 61) (j := 5) rfl rfl (by simpa using h1)
theorem lw_46 {lw : Nat → Nat} (h : LW lw) {c : Nat} (hc : wr c) : lw c ≠ 46 ∧ lw c < 128 := by
  unfold wr hx at hc
  rcases h with rfl | rfl
  · refine ⟨fun q => ?_, ?_⟩
    · have q' : c = 46 := q
      lia  
    · show c < 128
      lia  
  · unfold lowC
    split
    · rename_i h
      simp at h
      lia  
    · lia  
theorem free_map {lw : Nat → Nat} (hl : LW lw) {x : List Nat} (h : ∀ c ∈ x, wr c) : 46 ∉ x.map lw := fun hm => by
  obtain ⟨c, hc, e⟩ := List.mem_map.mp hm
  exact (lw_46 hl (h c hc)).1 e
theorem tail_wr {q : List Nat} (h : Oct q) : ∀ c ∈ (E q).tail, wr c := fun c hc => E_wr h c (List.mem_of_mem_tail hc)
theorem last_piece {b : Bool} {p : Nat} {small : Bool} {lw : Nat → Nat} (hl : LW lw) {x : List Nat} (h : ∀ c ∈ x, wr c) : noPair 46 61 ((x ++ Zs b p small).map lw) = true ∧ ((x ++ Zs b p small).map lw).getLast? ≠ some 46 := by
  cases small with
  | false =>
    have : 46 ∉ (x ++ Zs b p false).map lw := free_map hl fun c hc => by
      rcases List.mem_append.mp hc with q | q
      · exact h c q
      · exact A_wr _ c q
    exact ⟨noPair_free this, fun q => this (List.mem_of_getLast? q)⟩
  | true =>
    have e : (x ++ Zs b p true).map lw = (x ++ A p).map lw ++ ((61 :: end2 b) ++ A 2) := by
      show (x ++ (A p ++ (61 :: end2 b) ++ A 2)).map lw = _
      have : (A 2).map lw = A 2 := by show [lw 97, lw 97] = [97, 97]; rw [lw_97 hl]
      rw [List.map_append, List.map_append, List.map_append, lw_end hl, this, List.map_append, List.append_assoc, List.append_assoc]
    have f : 46 ∉ (x ++ A p).map lw := free_map hl fun c hc => by
      rcases List.mem_append.mp hc with q | q
      · exact h c q
      · exact A_wr _ c q
    rw [e]
    refine ⟨noPair_app (noPair_free f) (by cases b <;> decide) (.inl fun q => f (List.mem_of_getLast? q)), ?_⟩
    cases b <;> simp [end2, A, List.getLast?_append]
theorem mps_no {b : Bool} {p : Nat} {small : Bool} {lw : Nat → Nat} (hl : LW lw) {rows : List (List Nat)} (h : ∀ q ∈ rows, Oct q) : ∀ x ∈ mps b p small lw rows, noPair 46 61 x = true ∧ x.getLast? ≠ some 46 := by
  induction rows with
  | nil => intro x hx; simp [mps] at hx
  | cons q r ih =>
    cases r with
    | nil => intro x hx; simp only [mps, List.mem_singleton] at hx; subst hx; exact last_piece hl (tail_wr (h q (by simp)))
    | cons t r =>
      intro x hx
      rcases List.mem_cons.mp hx with rfl | hx
      · have := free_map hl (tail_wr (h q (by simp)))
        exact ⟨noPair_free this, fun q => this (List.mem_of_getLast? q)⟩
      · exact ih (fun q hq => h q (by simp [hq])) x hx
theorem cut_mark {b : Bool} {p : Nat} {small : Bool} {lw : Nat → Nat} (hl : LW lw) {rows : List (List Nat)} (h : ∀ q ∈ rows, Oct q) : Cut (mark b) (joinL (mark b) (mps b p small lw rows ++ [[]])) (mps b p small lw rows ++ [[]]) := by
  refine cut_joinT _ (by simp) fun x hx => ?_
  rcases List.mem_append.mp hx with hx | hx
  · exact mark_no (mps_no hl h x hx).1 (mps_no hl h x hx).2
  · simp at hx; subst hx; exact mark_no rfl (by simp)
noncomputable def isHd (x : List Nat) : Bool := !decide (x.take 1 < [65]) && !decide ([90] < x.take 1)
theorem isHd_cons (c : Nat) (r : List Nat) : isHd (c :: r) = decide (65 ≤ c ∧ c ≤ 90) := by
  unfold isHd
  show (!decide ([c] < [65]) && !decide ([90] < [c])) = _
  rw [StrLaws.lt_cons_cons, StrLaws.lt_cons_cons, StrLaws.lt_nil_nil]
  simp only [Bool.and_false, Bool.or_false]
  rw [Bool.eq_iff_iff]
  simp
theorem isHd_nil : isHd [] = false := by decide
theorem low_none (l : List Nat) : (splitC 61 (l.map lowC)).filter isHd = [] := by
  rw [List.filter_eq_nil_iff]
  intro x hx
  cases x with
  | nil => rw [isHd_nil]; simp
  | cons c r =>
    have hc := splitC_mem _ hx c (by simp)
    obtain ⟨d, _, rfl⟩ := List.mem_map.mp hc
    rw [isHd_cons, decide_eq_true_iff]
    exact low_small d
noncomputable def hdP (c : Nat) : List Nat := [hexD (c / 16), lowC (hexD (c % 16))]
theorem one_head {lw : Nat → Nat} (hl : LW lw) {c d : Nat} {q : List Nat} (hc : 160 ≤ c ∧ c < 256) (t : List Nat) : (splitC 61 (capL (((E (c :: d :: q)).tail ++ t).map lw))).filter isHd = [hdP c] := by
  have e : capL (((E (c :: d :: q)).tail ++ t).map lw) = [upC (lw (hexD (c / 16))), lowC (lw (hexD (c % 16)))] ++ 61 :: ((([hexD (d / 16), hexD (d % 16)] ++ E q) ++ t).map lw).map lowC := by
    rw [E_cons, E_cons]
    show upC (lw (hexD (c / 16))) :: lowC (lw (hexD (c % 16))) :: lowC (lw 61) :: _ = _
    rw [lw_61 hl]
    rfl
  have h1 : upC (lw (hexD (c / 16))) = hexD (c / 16) ∧ 65 ≤ hexD (c / 16) ∧ hexD (c / 16) ≤ 70 := by
    have : 10 ≤ c / 16 ∧ c / 16 < 16 := by lia  
    generalize c / 16 = k at *
    have : k = 10 ∨ k = 11 ∨ k = 12 ∨ k = 13 ∨ k = 14 ∨ k = 15 := by lia  
    rcases hl with rfl | rfl <;> rcases this with rfl | rfl | rfl | rfl | rfl | rfl <;> decide
  have h2 : lowC (lw (hexD (c % 16))) = lowC (hexD (c % 16)) := by
    rcases hl with rfl | rfl
    · rfl
    · exact low_low _
  have h3 : lowC (hexD (c % 16)) ≠ 61 := by
    have : hx (hexD (c % 16)) := hexD_hx (by lia  )
    unfold hx at this
    unfold lowC; split <;> lia  
  rw [e, splitC_app, List.filter_append, low_none, List.append_nil, h1.1, h2, splitC_free]
  · show List.filter isHd [hdP c] = _
    rw [List.filter_cons_of_pos]
    · rfl
    · unfold hdP; rw [isHd_cons]; simp; lia  
  · simp only [List.mem_cons, List.not_mem_nil, or_false, not_or]
    exact ⟨by lia  , fun q => h3 q.symm⟩
theorem heads {b : Bool} {p : Nat} {small : Bool} {lw : Nat → Nat} (hl : LW lw) {rows : List (List Nat)} (h : ∀ q ∈ rows, Oct q ∧ 2 ≤ q.length) :
    (splitC 61 (joinL (mark b) ((mps b p small lw rows ++ [[]]).map capL))).filter isHd = rows.map fun q => hdP (q.headD 0) := by
  have sp : ∀ x y : List Nat, (splitC 61 (x ++ mark b ++ y)).filter isHd = (splitC 61 x).filter isHd ++ (splitC 61 y).filter isHd := fun x y => by
    have e : x ++ mark b ++ y = x ++ 61 :: (end2 b ++ 61 :: y) := by unfold mark; simp
    rw [e, splitC_app, splitC_app, List.filter_append, List.filter_append]
    have : (splitC 61 (end2 b)).filter isHd = [] := by cases b <;> decide
    rw [this]; rfl
  induction rows with
  | nil => rfl
  | cons q r ih =>
    obtain ⟨ho, h2⟩ := h q (by simp)
    obtain ⟨c, d, q', rfl⟩ : ∃ c d q', q = c :: d :: q' := by
      match q, h2 with
      | c :: d :: q', _ => exact ⟨c, d, q', rfl⟩
    have hc := ho c (by simp)
    cases r with
    | nil =>
      show (splitC 61 (joinL (mark b) [capL (((E (c :: d :: q')).tail ++ Zs b p small).map lw), capL []])).filter isHd = [hdP c]
      show (splitC 61 (capL (((E (c :: d :: q')).tail ++ Zs b p small).map lw) ++ mark b ++ [])).filter isHd = _
      rw [sp, one_head hl hc]
      rfl
    | cons t r =>
      have ih' := ih fun q hq => h q (by simp [hq])
      show (splitC 61 (joinL (mark b) (capL (((E (c :: d :: q')).tail).map lw) :: (mps b p small lw (t :: r) ++ [[]]).map capL))).filter isHd = hdP c :: _
      rw [joinL_cons _ _ _ (by simp), sp, ih']
      have := one_head hl (d := d) (q := q') hc []
      rw [List.append_nil] at this
      rw [this]; rfl
theorem hdP_val : ∀ c, c < 256 → 160 ≤ c → hexV (tx ((hdP c).take 2)) = some (c : Int) := by decide +kernel
end Mine
end P38
section P39
set_option maxRecDepth 100000
set_option Elab.async false
set_option autoImplicit false
set_option linter.unusedVariables false
set_option linter.unusedSimpArgs false
namespace Mine
open PySem
theorem comp_ok {it : WI} {fr : List String} {ik : IK} {x : String} {test : WB} {elt : WE} {V : Vs} {os : List AO} {items : List AV} {t : AV → Bool} {f : AV → AV} {Q : VP}
    (hfr : ∀ y ∈ fr, (V.lookup y).isSome = true) (hI : ∀ K : IK → List AO → Prop, K ik os → it ⟨V, os⟩ K)
    (hok : IKok ik os) (hit : ∀ i, itemAt ik os i = items[i]?.map .av)
    (ht : ∀ a ∈ items, ∀ K : Bool → List AO → Prop, K (t a) os → test ⟨(capV fr V os.length).put x a, os⟩ K)
    (he : ∀ a ∈ items, t a = true → ∀ K : VP, K (f a) os → elt ⟨(capV fr V os.length).put x a, os⟩ K)
    (hl : items.length ≤ 16777216) (hQ : Q (.ref os.length) (os ++ [.list ((items.filter t).map f)])) : wComp it fr (.one x) test elt ⟨V, os⟩ Q :=
  ⟨hfr, hI _ (comp_run hok hit ht he hl hQ)⟩
/-- a comprehension over the signs of a text -/
theorem comp_str {fr : List String} {x : String} {elt : WE} {V : Vs} {os : List AO} {l : List Nat} {e : WE} {f : Nat → AV} {Q : VP} (hfr : ∀ y ∈ fr, (V.lookup y).isSome = true) (hI : ∀ K : VP, K (.str (tx l)) os → e ⟨V, os⟩ K)
    (he : ∀ c ∈ l, ∀ K : VP, K (f c) os → elt ⟨(capV fr V os.length).put x (.str (tx [c])), os⟩ K) (hl : l.length ≤ 16777216) (hQ : Q (.ref os.length) (os ++ [.list (l.map f)])) : wComp (wIter e) fr (.one x) wTrue elt ⟨V, os⟩ Q := by
  refine comp_ok (ik := .str (tx l)) (items := l.map fun c => AV.str (tx [c])) (t := fun _ => true) (f := fun a => match a with | .str y => f (y.cps.getD 0 0) | _ => .none) hfr (fun K hK => hI _ ⟨_, rfl, hK⟩) trivial (it_str l os) (fun a _ K hK => hK) (fun a ha _ K hK => ?_) (by simpa using hl) ?_
  · obtain ⟨c, hc, rfl⟩ := List.mem_map.mp ha
    exact he c hc K hK
  · rw [List.filter_eq_self.mpr (fun _ _ => rfl), List.map_map]
    exact hQ
theorem capV_one {V : Vs} {x : String} {a : AV} {n : Nat} (h : V.lookup x = some a) : capV [x] V n = ⟨[(x, a)], n⟩ := by
  unfold capV
  simp [h]
theorem capV_nil (V : Vs) (n : Nat) : capV [] V n = ⟨[], n⟩ := rfl
noncomputable def figL : List Nat := [48, 49, 50, 51, 52, 53, 54, 55, 56, 57, 65, 66, 67, 68, 69, 70]
theorem figS : Str.ofString "0123456789ABCDEF" = tx figL := by decide +kernel
theorem aS : Str.ofString "a" = tx [97] := by decide +kernel
theorem dotS : Str.ofString "." = tx [46] := by decide +kernel
theorem ddeS : Str.ofString "..=" = tx [46, 46, 61] := by decide +kernel
theorem bigA : Str.ofString "A" = tx [65] := by decide +kernel
theorem bigZ : Str.ofString "Z" = tx [90] := by decide +kernel
theorem fig_get : ∀ k, k < 16 → figL[k]? = some (hexD k) := by decide
theorem fig_items {c : Nat} (h : 160 ≤ c ∧ c < 256) : Txt.item (tx figL) (Int.fdiv (c : Int) 16) = tx [hexD (c / 16)] ∧ Txt.item (tx figL) (Int.fmod (c : Int) 16) = tx [hexD (c % 16)] := by
  have e1 : Int.fdiv (c : Int) 16 = ((c / 16 : Nat) : Int) := by rw [Int.fdiv_eq_ediv_of_nonneg _ (by decide)]; rfl
  have e2 : Int.fmod (c : Int) 16 = ((c % 16 : Nat) : Int) := by rw [Int.fmod_eq_emod_of_nonneg _ (by decide)]; rfl
  rw [e1, e2]
  exact ⟨tx_item _ (fig_get _ (by lia  )), tx_item _ (fig_get _ (by lia  ))⟩
theorem rep_A (m : Nat) : (List.replicate m [97]).flatten = A m := by unfold A; induction m with | zero => rfl | succ m ih => rw [List.replicate_succ, List.flatten_cons, ih]; rfl
theorem rep_E (r : Nat) (cs : List Nat) : (List.replicate r (E cs)).flatten = E (List.replicate r cs).flatten := by
  induction r with
  | zero => rfl
  | succ r ih => rw [List.replicate_succ, List.flatten_cons, ih, List.replicate_succ, List.flatten_cons, E_app]
theorem join_E (cs : List Nat) : joinL [] (cs.map esc) = E cs := by rw [joinL_nil]; rfl
theorem Oct_rep {cs : List Nat} (h : Oct cs) (r : Nat) : Oct (List.replicate r cs).flatten := fun c hc => by
  obtain ⟨l, hl, hc⟩ := List.mem_flatten.mp hc
  rw [List.eq_of_mem_replicate hl] at hc
  exact h c hc
theorem Oct_rows {rows : List (List Nat)} {D : List Nat} (h : rows.flatten = D) (hD : Oct D) : ∀ q ∈ rows, Oct q := fun q hq c hc => hD c (by rw [← h]; exact List.mem_flatten.mpr ⟨q, hq, hc⟩)
theorem sum_softs (ps : List (List Nat)) : ((softs ps).map List.length).sum ≤ ps.flatten.length + ps.length := by
  induction ps with
  | nil => simp [softs]
  | cons x r ih =>
    cases r with
    | nil => simp [softs]
    | cons y r =>
      show (((x ++ [61]) :: softs (y :: r)).map List.length).sum ≤ _
      rw [List.map_cons, List.sum_cons, List.flatten_cons, List.length_append, List.length_append, List.length_singleton, List.length_cons (a := x)]
      lia  
theorem wr_nobr {l : List Nat} (h : ∀ c ∈ l, wr c) : NoBr l := fun c hc => by
  have := h c hc
  refine br_low c (wr_lt this).1 ?_
  unfold wr hx at this
  simp; lia  
theorem end1_len (b : Bool) : (end1 b).length ≤ 5 := by cases b <;> decide
/-- what body_encode is asked in a deal, and what it gives -/
structure Deal (cs : List Nat) (r p : Nat) (rows : List (List Nat)) : Prop where
  oct : Oct cs
  lo : 4 ≤ cs.length
  hi : cs.length ≤ 12
  r2 : 2 ≤ r
  r12 : r ≤ 12
  p3 : p < 3
  flat : rows.flatten = (List.replicate r cs).flatten
  len : ∀ q ∈ rows, q.length = r
  num : rows.length = cs.length
theorem Deal.ne {cs : List Nat} {r p : Nat} {rows : List (List Nat)} (d : Deal cs r p rows) : rows ≠ [] := fun q => by have h1 := d.num; have h2 := d.lo; rw [q] at h1; simp at h1; lia  
theorem Deal.octs {cs : List Nat} {r p : Nat} {rows : List (List Nat)} (d : Deal cs r p rows) : ∀ q ∈ rows, Oct q := Oct_rows d.flat (Oct_rep d.oct r)
theorem Deal.size {cs : List Nat} {r p : Nat} {rows : List (List Nat)} (d : Deal cs r p rows) : (List.replicate r cs).flatten.length ≤ 144 := by
  have : (List.replicate r cs).flatten.length = r * cs.length := by simp
  rw [this]
  exact Nat.mul_le_mul d.r12 d.hi
theorem Deal.wr' {cs : List Nat} {r p : Nat} {rows : List (List Nat)} (d : Deal cs r p rows) (small : Bool) : ∀ x ∈ pcs p small rows, ∀ c ∈ x, wr c := pcs_wr d.octs
theorem Deal.plen {cs : List Nat} {r p : Nat} {rows : List (List Nat)} (d : Deal cs r p rows) (small : Bool) : (pcs p small rows).length ≤ 13 := by rw [pcs_len d.ne, d.num]; have := d.hi; split <;> lia  
theorem Deal.flen {cs : List Nat} {r p : Nat} {rows : List (List Nat)} (d : Deal cs r p rows) (small : Bool) : (pcs p small rows).flatten.length ≤ 440 := by
  rw [pcs_flat d.ne, d.flat, List.length_append, E_len]
  have := d.size
  have := d.p3
  have : (A (tailA p small)).length ≤ 4 := by unfold A tailA; rw [List.length_replicate]; split <;> lia  
  lia  
theorem Deal.page {cs : List Nat} {r p : Nat} {rows : List (List Nat)} (d : Deal cs r p rows) (small b : Bool) : (joinL (61 :: end1 b) (pcs p small rows)).length ≤ 600 := by
  have h1 := joinL_len (61 :: end1 b) (pcs p small rows)
  have h2 : (61 :: end1 b).length ≤ 6 := by have := end1_len b; simp; exact this
  have h3 := Nat.mul_le_mul (d.plen small) h2
  have h4 : ((pcs p small rows).map List.length).sum = (pcs p small rows).flatten.length := by rw [List.length_flatten]
  have := d.flen small
  lia  
theorem page_ok {cs : List Nat} {r p : Nat} {b small : Bool} {rows : List (List Nat)} (d : Deal cs r p rows) {m : Nat} (hm : m = tailA p small) {os : List AO} {Q : VP} (hQ : ∀ ex, Q (.str (tx (joinL (61 :: end1 b) (pcs p small rows)))) (os ++ ex)) :
    c_body [.str (tx ((List.replicate r cs).flatten ++ A m)), .int (3 * (r : Int) + 1 + (p : Int)), .str (tx (end1 b))] os Q := by
  subst hm
  have hoR := Oct_rep d.oct r
  have hT : encT ((List.replicate r cs).flatten ++ A (tailA p small)) = E (List.replicate r cs).flatten ++ A (tailA p small) := by rw [encT_app, enc_oct hoR, enc_a]
  have hm1 : 1 ≤ tailA p small ∧ tailA p small ≤ 4 := by have := d.p3; unfold tailA; split <;> lia  
  obtain ⟨m', hm'⟩ : ∃ m', tailA p small = m' + 1 := ⟨tailA p small - 1, by lia  ⟩
  have hlast : (E (List.replicate r cs).flatten ++ A (tailA p small)).getLast? = some 97 := by
    rw [hm']; unfold A; rw [List.replicate_succ']; simp
  have hwr : ∀ c ∈ E (List.replicate r cs).flatten ++ A (tailA p small), wr c := fun c hc => by
    rcases List.mem_append.mp hc with q | q
    · exact E_wr hoR c q
    · exact A_wr _ c q
  obtain ⟨rs, z, hb, hs⟩ := brk_rows (small := small) d.p3 (by have := d.r2; lia  ) rows d.ne fun q hq => ⟨d.octs q hq, d.len q hq⟩
  rw [d.flat] at hb
  have hend : endBr (encT ((List.replicate r cs).flatten ++ A (tailA p small))) (softs (pcs p small rows)) = softs (pcs p small rows) := by
    unfold endBr
    rw [hT, hlast, if_neg (by simp)]
  have hsl := sum_softs (pcs p small rows)
  have hpl := d.plen small
  have hfl := d.flen small
  have hel := end1_len b
  refine ⟨_, 3 * r + 1 + p, _, [E (List.replicate r cs).flatten ++ A (tailA p small)], softs (pcs p small rows), by rw [show 3 * (r : Int) + 1 + (p : Int) = ((3 * r + 1 + p : Nat) : Int) by lia  ], by have := d.r2; lia  , ?_, ?_, ?_, by lia  , ?_, ?_, by rw [softs_len]; lia  , ?_, ?_⟩
  · rw [hm']; unfold A; rw [List.replicate_succ]; simp
  · intro c hc
    rcases List.mem_append.mp hc with q | q
    · exact (hoR c q).2
    · rw [List.eq_of_mem_replicate q]; decide
  · have := d.size
    rw [List.length_append]
    simp [A] at this ⊢; lia  
  · rw [hT]
    refine .last _ ?_ (wr_nobr hwr)
    rw [hm']; unfold A; rw [List.replicate_succ]; simp
  · rw [← hs]
    have := EncLines.cons (w := 3 * r + 1 + p) (e := end1 b) _ [] _ [] (.plain _ rs z (by rw [hlast]; simp) hb) .nil
    simpa using this
  · rw [hend, softs_len]
    have := Nat.mul_le_mul hpl hel
    lia  
  · intro ex
    rw [hend, joinL_softs]
    exact hQ ex
theorem wRepl1_ok {a e x : List Nat} {bb : List Nat} {y : String} {p : WE} {V : Vs} {os : List AO} {Q : VP} (hp : ∀ K : VP, K (.str (tx x)) os → p ⟨V, os⟩ K) (hy : V.lookup y = some (.str (tx e))) (ha : a ≠ []) (he : e ≠ []) (hne : a ++ e ≠ bb) (h1 : a.length + e.length ≤ 1000) (h2 : x.length + (x.length + 1) * bb.length ≤ 16777216)
    {ps : List (List Nat)} (hc : Cut (a ++ e) x ps) (hQ : Q (.str (tx (joinL bb ps))) os) : wRepl1 (tx a) (tx bb) y p ⟨V, os⟩ Q := by
  refine hp _ ⟨tx x, tx e, rfl, hy, by rw [tx_len]; have := List.length_pos_iff.mpr ha; lia  , by rw [tx_len]; have := List.length_pos_iff.mpr he; lia  , ?_, by rw [tx_len, tx_len]; exact h1, by rw [tx_len, tx_len]; exact h2, ?_⟩
  · rw [tx_app]; exact fun q => hne (tx_inj.mp q)
  · rw [tx_app, cut_replace (by simp [ha]) hc]; exact hQ
theorem end1_ne (b : Bool) : end1 b ≠ [] := by cases b <;> decide
theorem mark1_asc (b : Bool) : ∀ c ∈ 61 :: end1 b, c < 128 := by cases b <;> decide
theorem count_end {b : Bool} {ps : List (List Nat)} (h : ps ≠ []) (hw : ∀ x ∈ ps, ∀ c ∈ x, wr c) : Txt.count (tx (joinL (61 :: end1 b) ps)) (tx (end1 b)) = ((ps.length - 1 : Nat) : Int) := by
  rw [← joinL_softs, cut_count (end1_ne b) (cut_end (softs_ne h) (softs_wr hw)), softs_len]
theorem slice_f3 (l : List Nat) : Txt.slice (tx l) (some 3) none = tx (l.drop 3) := tx_slice_from l 3
theorem slice_t3 (l : List Nat) : Txt.slice (tx l) none (some 3) = tx (l.take 3) := tx_slice_to l 3
theorem slice_t2 (l : List Nat) : Txt.slice (tx l) none (some 2) = tx (l.take 2) := tx_slice_to l 2
theorem slice_t1 (l : List Nat) : Txt.slice (tx l) none (some 1) = tx (l.take 1) := tx_slice_to l 1
theorem sent_ok {l : List Nat} {os : List AO} {K : VP} (h : ∀ c ∈ l, c < 128) (hl : l.length ≤ 100000) (hn : l ≠ []) (hK : K (.str (tx (stuffR 10 l))) os) :
    wEncode [.str (tx l), .str (Str.ofString "ascii")] os fun a o1 => c_periods [a] o1 fun a o1 => isB a o1 ∧ wDecode [a, .str (Str.ofString "ascii")] o1 K := by
  have h2 : ∀ c ∈ stuffR 10 l, c < 128 := fun c hc => h c (stuffR_mem c hc)
  have hlen := stuffR_len 10 l
  have hpos : 1 ≤ (stuffR 10 l).length := by
    cases l with
    | nil => exact absurd rfl hn
    | cons c r =>
      show 1 ≤ ((if c = 46 ∧ 10 = 10 then [46, 46] else [c]) ++ stuffR c r).length
      rw [List.length_append]; split <;> simp <;> lia  
  refine ⟨rfl, fun c hc => h c (by simpa using hc), by rw [tx_len]; lia  , _, rfl, by rw [bytes_size]; lia  , ⟨_, rfl⟩, rfl, ?_, ?_, ?_, ?_⟩
  · rw [stuff_text h]; exact bytes_asc h2
  · rw [stuff_text h, bytes_size]; lia  
  · rw [stuff_text h, bytes_size]; lia  
  · rw [stuff_text h, bytes_text fun c hc => Nat.lt_trans (h2 c hc) (by decide)]; exact hK
theorem wRepl2_ok {b : Bool} {y : String} {V : Vs} {os : List AO} {Q : VP} (hy : V.lookup y = some (.str (tx (end1 b)))) (hQ : Q (.str (tx (61 :: end2 b))) os) : wRepl2 (tx [61]) (Str.ofString "\n.") (Str.ofString "\n..") y ⟨V, os⟩ Q := by
  have l2 : (Str.ofString "\n..").length = 3 := by decide +kernel
  have hne : Str.ofString "\n." ≠ Str.ofString "\n.." := by decide +kernel
  have hel := end1_len b
  refine ⟨_, hy, hne, by rw [tx_len, l2]; lia  , ?_, ?_⟩
  · rw [end_repl, tx_len, tx_len]; cases b <;> decide
  · rw [end_repl, tx_app]; exact hQ
theorem flat1 (cs : List Nat) : (cs.map fun c => [c]).flatten = cs := by
  induction cs with
  | nil => rfl
  | cons c r ih => rw [List.map_cons, List.flatten_cons, ih]; rfl
noncomputable def partT : AV → Bool
  | .str y => isHd y.cps.toList
  | _ => false
noncomputable def partF : AV → AV
  | .str y => .str (tx [((hexV (tx (y.cps.toList.take 2))).getD 0).toNat])
  | _ => .none
/-- what is read back from the told text -/
theorem read_ok {V : Vs} {os : List AO} {Q : VP} {l : List Nat} {cs : List Nat} (hV : V.lookup "told" = some (.str (tx l))) (hl : l.length ≤ 10000) (hc : ∀ c ∈ cs, 160 ≤ c ∧ c < 256) (hh : (splitC 61 l).filter isHd = cs.map hdP) (hcs : cs.length ≤ 1000) (hQ : ∀ ex, Q (.str (tx cs)) (os ++ ex)) :
    wComp (wIter (wMeth isS (wVar "told") (wCons (wLit (AV.str (tx [61]))) wNil) wSplit)) [] (Tg.one "part")
      (wChain3 (wLit (AV.str (tx [65]))) (wSlice3 (wVar "part") (wLit AV.none) (wLit (AV.int 1))) (wLit (AV.str (tx [90]))) wLe wLe)
      (wCall (wCons (wCall (wCons (wSlice3 (wVar "part") (wLit AV.none) (wLit (AV.int 2))) (wCons (wLit (AV.int 16)) wNil)) wHex) wNil) wChr)
      ⟨V, os⟩ fun a o1 => wJoin [AV.str (tx []), a] o1 Q := by
  have hlen : ∀ x ∈ splitC 61 l, x.length ≤ l.length := fun x hx => (cut_mem (splitC_cut 61 l) x hx).2
  have cnt : (splitC 61 l).length ≤ l.length + 1 := by
    have : ∀ l : List Nat, (splitC 61 l).length ≤ l.length + 1 := by
      intro l
      induction l with
      | nil => simp [splitC]
      | cons c r ih =>
        unfold splitC
        split
        · simp; lia  
        · split
          · simp
          · rename_i h; rw [h] at ih; simp at ih ⊢; lia  
    exact this l
  refine ⟨fun y hy => by simp at hy, ?_⟩
  unfold wIter
  simp only [wSeq, wSkip, wSet, wRet, wIf, wCmp, wVal, wNotB, wAndB, wOrB, wVar, wLit, wOp1, wOp2, wIte, wCall, wMeth, wCons, wNil, wList, wTup, wSub2, wSlice3, wExpr, wLocCall, wAppAttr, wTrue, set_eq, vput_ro, vput_lookup, vlook_cons, String.reduceEq, if_true, if_false, ↓reduceIte, Option.some.injEq, exists_eq_left', AV.bool.injEq, wAdd_ii, wAdd_ss, wAdd_bb, wIAdd_ii, wSub_ii, wMul_ii, wMul_si, wFdiv_ii, wMod_ii, wPow_ii, wNeg_i, wLt_ii, wLe_ii, wLe_ss, wGt_ii, wGe_ii, wEq_ii, wEq_ss, wNe_ii, wNe_ss, wIn_ss, wItem_s, wCut_nn, wCut_ni, wCut_in, wCut_ii, wLen_s, wOrd_s, wChr_i, wMin_ii, wCount_ss, wLower_s, wUpper_s, wSplit_ss, wLines_s, wHex_si, truth_s, truth_b, iter_s, isS, hV]
  refine ⟨⟨_, rfl⟩, by decide, by lia  , ?_⟩
  rw [tx_splitC (by decide), List.map_map]
  have hget : (os ++ [AO.list ((splitC 61 l).map (AV.str ∘ tx))])[os.length]? = some (.list ((splitC 61 l).map (AV.str ∘ tx))) := by simp
  refine ⟨_, iter_l hget, ?_⟩
  rw [capV_nil]
  refine comp_run (items := (splitC 61 l).map (AV.str ∘ tx)) (t := partT) (f := partF) ⟨_, hget⟩ (it_list hget) ?_ ?_ (by rw [List.length_map]; lia  ) ?_
  · intro a ha K hK
    obtain ⟨x, hx, rfl⟩ := List.mem_map.mp ha
    have hxl : x.length ≤ 16777216 := by have := hlen x hx; lia  
    simp only [wSeq, wSkip, wSet, wRet, wIf, wCmp, wVal, wNotB, wAndB, wOrB, wVar, wLit, wOp1, wOp2, wIte, wCall, wMeth, wCons, wNil, wList, wTup, wSub2, wSlice3, wExpr, wLocCall, wAppAttr, wTrue, set_eq, vput_ro, vput_lookup, vlook_cons, String.reduceEq, if_true, if_false, ↓reduceIte, Option.some.injEq, exists_eq_left', AV.bool.injEq, wAdd_ii, wAdd_ss, wAdd_bb, wIAdd_ii, wSub_ii, wMul_ii, wMul_si, wFdiv_ii, wMod_ii, wPow_ii, wNeg_i, wLt_ii, wLe_ii, wLe_ss, wGt_ii, wGe_ii, wEq_ii, wEq_ss, wNe_ii, wNe_ss, wIn_ss, wItem_s, wCut_nn, wCut_ni, wCut_in, wCut_ii, wLen_s, wOrd_s, wChr_i, wMin_ii, wCount_ss, wLower_s, wUpper_s, wSplit_ss, wLines_s, wHex_si, truth_s, truth_b, iter_s, wChain3, Function.comp_apply, hxl, true_and, slice_t1]
    have e : partT (.str (tx x)) = (!decide (x.take 1 < [65]) && !decide ([90] < x.take 1)) := rfl
    rw [Function.comp_apply, e] at hK
    refine ⟨fun h => ?_, fun h => ?_⟩
    · rw [h, Bool.true_and] at hK; exact hK
    · rw [h, Bool.false_and] at hK; exact hK
  · intro a ha ht K hK
    obtain ⟨x, hx, rfl⟩ := List.mem_map.mp ha
    have hxl : x.length ≤ 16777216 := by have := hlen x hx; lia  
    have hm : x ∈ cs.map hdP := by rw [← hh]; exact List.mem_filter.mpr ⟨hx, ht⟩
    obtain ⟨c, hcm, rfl⟩ := List.mem_map.mp hm
    have cc := hc c hcm
    have hv := hdP_val c cc.2 cc.1
    have e : partF (.str (tx (hdP c))) = .str (tx [c]) := by
      show AV.str (tx [((hexV (tx ((hdP c).take 2))).getD 0).toNat]) = _
      rw [hv]; rfl
    rw [Function.comp_apply, e] at hK
    simp only [wSeq, wSkip, wSet, wRet, wIf, wCmp, wVal, wNotB, wAndB, wOrB, wVar, wLit, wOp1, wOp2, wIte, wCall, wMeth, wCons, wNil, wList, wTup, wSub2, wSlice3, wExpr, wLocCall, wAppAttr, wTrue, set_eq, vput_ro, vput_lookup, vlook_cons, String.reduceEq, if_true, if_false, ↓reduceIte, Option.some.injEq, exists_eq_left', AV.bool.injEq, wAdd_ii, wAdd_ss, wAdd_bb, wIAdd_ii, wSub_ii, wMul_ii, wMul_si, wFdiv_ii, wMod_ii, wPow_ii, wNeg_i, wLt_ii, wLe_ii, wLe_ss, wGt_ii, wGe_ii, wEq_ii, wEq_ss, wNe_ii, wNe_ss, wIn_ss, wItem_s, wCut_nn, wCut_ni, wCut_in, wCut_ii, wLen_s, wOrd_s, wChr_i, wMin_ii, wCount_ss, wLower_s, wUpper_s, wSplit_ss, wLines_s, wHex_si, truth_s, truth_b, iter_s, Function.comp_apply, hxl, true_and, slice_t2, hv, Int.toNat_natCast]
    exact ⟨by lia  , by lia  , hK⟩
  · have e : (((splitC 61 l).map (AV.str ∘ tx)).filter partT).map partF = (cs.map fun c => [c]).map fun p => AV.str (tx p) := by
      rw [List.filter_map, List.map_map]
      have : partT ∘ (AV.str ∘ tx) = isHd := by funext x; rfl
      rw [this, hh, List.map_map, List.map_map]
      refine List.map_congr_left fun c hcm => ?_
      have cc := hc c hcm
      have hv := hdP_val c cc.2 cc.1
      show AV.str (tx [((hexV (tx ((hdP c).take 2))).getD 0).toNat]) = _
      rw [hv]; rfl
    rw [e]
    refine wJoin_k (cs.map fun c => [c]) (by simp) ?_ ?_
    · have := sum_le (ps := cs.map fun c => [c]) (b := 1) (fun p hp => by obtain ⟨c, _, rfl⟩ := List.mem_map.mp hp; exact Nat.le_refl _)
      simp at this ⊢; lia  
    · have : joinL [] (cs.map fun c => [c]) = cs := by rw [joinL_nil]; exact flat1 cs
      rw [this, List.append_assoc]
      exact hQ _
end Mine
end P39
section P40
set_option maxRecDepth 100000
set_option Elab.async false
set_option autoImplicit false
set_option linter.unusedVariables false
set_option linter.unusedSimpArgs false
namespace Mine
open PySem
theorem Deal.qne {cs : List Nat} {r p : Nat} {rows : List (List Nat)} (d : Deal cs r p rows) : ∀ q ∈ rows, q ≠ [] := fun q hq h => by have h1 := d.len q hq; have h2 := d.r2; rw [h] at h1; simp at h1; lia  
theorem Deal.page2 {cs : List Nat} {r p : Nat} {rows : List (List Nat)} (d : Deal cs r p rows) (small b : Bool) : (joinL (61 :: end2 b) (pcs p small rows)).length ≤ 600 := by
  have h1 := joinL_len (61 :: end2 b) (pcs p small rows)
  have h2 : (61 :: end2 b).length ≤ 7 := by cases b <;> decide
  have h3 := Nat.mul_le_mul (d.plen small) h2
  have h4 : ((pcs p small rows).map List.length).sum = (pcs p small rows).flatten.length := by rw [List.length_flatten]
  have := d.flen small
  lia  
theorem mark_asc (b : Bool) : ∀ c ∈ mark b, c < 128 := by cases b <;> decide
theorem mark_low (b : Bool) : (mark b).map lowC = mark b := by cases b <;> decide
theorem Deal.asc {cs : List Nat} {r p : Nat} {rows : List (List Nat)} (d : Deal cs r p rows) (small b : Bool) : ∀ c ∈ joinL (61 :: end2 b) (pcs p small rows), c < 128 := fun c hc => by
  rcases joinL_mem hc with q | ⟨x, hx, q⟩
  · exact mark_asc b c (List.mem_append_left _ q)
  · exact (wr_lt (d.wr' small x hx c q)).1
/-- the text that capwords is given, and what it gives -/
structure Told (cs : List Nat) (r p : Nat) (rows : List (List Nat)) (small b : Bool) (lw : Nat → Nat) (T told : List Nat) : Prop where
  text : ((46 :: 46 :: joinL (61 :: end2 b) (pcs p small rows)).map lw).drop 3 = T
  take : (46 :: 46 :: joinL (61 :: end2 b) (pcs p small rows)).take 3 = [46, 46, 61]
  len : T.length ≤ 700
  cut : Cut (mark b) (T ++ mark b) (mps b p small lw rows ++ [[]])
  asc : ∀ c ∈ T, c < 128
  eq : told = joinL (mark b) ((mps b p small lw rows ++ [[]]).map capL)
  tlen : told.length ≤ 800
  tasc : ∀ c ∈ told, c < 128
  low : told.map lowC = ((46 :: 46 :: joinL (61 :: end2 b) (pcs p small rows)).drop 3).map lowC ++ mark b
  heads : (splitC 61 told).filter isHd = (rows.map fun q => q.headD 0).map hdP
theorem told_ok {cs : List Nat} {r p : Nat} {rows : List (List Nat)} (d : Deal cs r p rows) (small b : Bool) {lw : Nat → Nat} (hl : LW lw) : ∃ T told, Told cs r p rows small b lw T told := by
  have tj := text_join (b := b) (p := p) (small := small) hl d.ne d.qne
  have tjI := text_join (b := b) (p := p) (small := small) (lw := id) (.inl rfl) d.ne d.qne
  rw [List.map_id] at tjI
  have mne := mps_ne (b := b) (p := p) (small := small) (lw := lw) d.ne
  have snoc := joinL_snoc (mark b) _ mne []
  rw [List.append_nil] at snoc
  have hlen : (joinL (mark b) (mps b p small lw rows)).length ≤ 600 := by
    have := congrArg List.length tj
    rw [List.length_map, List.length_cons] at this
    have := d.page2 small b
    lia  
  have ml : (mark b).length ≤ 8 := by cases b <;> decide
  have tx1 : ((46 :: 46 :: joinL (61 :: end2 b) (pcs p small rows)).map lw).drop 3 = joinL (mark b) (mps b p small lw rows) := by
    rw [List.map_cons, List.map_cons, tj]; rfl
  have tasc : ∀ c ∈ joinL (mark b) (mps b p small lw rows), c < 128 := fun c hc => by
    have hm : c ∈ (joinL (61 :: end2 b) (pcs p small rows)).map lw := by rw [tj]; exact List.mem_cons_of_mem _ hc
    obtain ⟨e, he, rfl⟩ := List.mem_map.mp hm
    have := d.asc small b e he
    rcases hl with rfl | rfl
    · exact this
    · exact low_lt this
  have capLow : ∀ ps : List (List Nat), (joinL (mark b) (ps.map capL)).map lowC = (joinL (mark b) ps).map lowC := fun ps => by
    rw [joinL_map, joinL_map, List.map_map]
    congr 1
    exact List.map_congr_left fun l _ => low_cap l
  have capLen : ∀ ps : List (List Nat), (joinL (mark b) (ps.map capL)).length = (joinL (mark b) ps).length := fun ps => by
    have := congrArg List.length (capLow ps)
    simpa using this
  have capAsc : ∀ l : List Nat, (∀ c ∈ l, c < 128) → ∀ c ∈ capL l, c < 128 := fun l h => by
    cases l with
    | nil => exact h
    | cons e r =>
      intro c hc
      rcases List.mem_cons.mp hc with rfl | hc
      · exact up_lt (h e (by simp))
      · obtain ⟨f, hf, rfl⟩ := List.mem_map.mp hc
        exact low_lt (h f (by simp [hf]))
  refine ⟨_, _, tx1, by rw [tjI]; rfl, by lia  , ?_, tasc, rfl, ?_, ?_, ?_, ?_⟩
  · rw [← snoc]
    exact cut_mark hl d.octs
  · rw [capLen, snoc, List.length_append]; lia  
  · intro c hc
    rcases joinL_mem hc with q | ⟨x, hx, q⟩
    · exact mark_asc b c q
    · obtain ⟨y, hy, rfl⟩ := List.mem_map.mp hx
      refine capAsc y (fun e he => ?_) c q
      have hm := (cut_mem (cut_mark (b := b) (p := p) (small := small) hl d.octs) y hy).1 e he
      rw [snoc] at hm
      rcases List.mem_append.mp hm with q | q
      · exact tasc e q
      · exact mark_asc b e q
  · rw [capLow, snoc, List.map_append, mark_low, ← tx1]
    congr 1
    rw [← List.map_drop, List.map_map]
    congr 1
    funext c
    rcases hl with rfl | rfl
    · rfl
    · exact low_low c
  · rw [heads hl fun q hq => ⟨d.octs q hq, by rw [d.len q hq]; exact d.r2⟩, List.map_map]
    rfl
noncomputable def d0 : WS := (wSet "figures" (wLit (.str (Str.ofString "0123456789ABCDEF"))))
noncomputable def d1 : WS := (wSet "plain" (wMeth isS (wLit (.str (Str.ofString ""))) (wCons (wComp (wIter (wVar "ring")) ["figures"] (.one "octet") wTrue (wOp2 (wOp2 (wLit (.str (Str.ofString "="))) (wSub2 (wVar "figures") (wOp2 (wCall (wCons (wVar "octet") wNil) wOrd) (wLit (.int 16)) wFdiv)) wAdd) (wSub2 (wVar "figures") (wOp2 (wCall (wCons (wVar "octet") wNil) wOrd) (wLit (.int 16)) wMod)) wAdd)) wNil) wJoin))
noncomputable def d2 : WS := (wIf (wCmp (wMeth isS (wLit (.str (Str.ofString ""))) (wCons (wComp (wIter (wVar "ring")) [] (.one "octet") wTrue (wCall (wCons (wVar "octet") wNil) c_quote)) wNil) wJoin) (wVar "plain") wNe) (wSeq (wRet (wLit (.str (Str.ofString "")))) wSkip) wSkip)
noncomputable def d3 : WS := (wSet "more" (wOp2 (wLit (.str (Str.ofString "a"))) (wIte (wVal (wVar "small")) (wOp2 (wLit (.int 2)) (wVar "spare") wAdd) (wOp2 (wLit (.int 1)) (wVar "spare") wAdd)) wMul))
noncomputable def d4 : WS := (wSet "page" (wCall (wCons (wOp2 (wOp2 (wVar "ring") (wVar "row") wMul) (wVar "more") wAdd) (wCons (wOp2 (wOp2 (wOp2 (wLit (.int 3)) (wVar "row") wMul) (wLit (.int 1)) wAdd) (wVar "spare") wAdd) (wCons (wVar "end") wNil))) c_body))
noncomputable def d5 : WS := (wIf (wOrB (wCmp (wRepl1 (Str.ofString "=") (Str.ofString "") "end" (wVar "page")) (wOp2 (wOp2 (wVar "plain") (wVar "row") wMul) (wVar "more") wAdd) wNe) (wCmp (wMeth isS (wVar "page") (wCons (wVar "end") wNil) wCount) (wIte (wVal (wVar "small")) (wCall (wCons (wVar "ring") wNil) wLen) (wOp2 (wCall (wCons (wVar "ring") wNil) wLen) (wLit (.int 1)) wSub)) wNe)) (wSeq (wRet (wLit (.str (Str.ofString "")))) wSkip) wSkip)
noncomputable def d6 : WS := (wSet "sent" (wMeth isB (wCall (wCons (wMeth isS (wOp2 (wLit (.str (Str.ofString "."))) (wVar "page") wAdd) (wCons (wLit (.str (Str.ofString "ascii"))) wNil) wEncode) wNil) c_periods) (wCons (wLit (.str (Str.ofString "ascii"))) wNil) wDecode))
noncomputable def d7 : WS := (wSet "mark" (wOp2 (wRepl2 (Str.ofString "=") (Str.ofString "\n.") (Str.ofString "\n..") "end") (wLit (.str (Str.ofString "="))) wAdd))
noncomputable def d8 : WS := (wSet "told" (wCall (wCons (wOp2 (wSlice3 (wIte (wVal (wVar "small")) (wMeth isS (wVar "sent") wNil wLower) (wVar "sent")) (wLit (.int 3)) (wLit .none)) (wVar "mark") wAdd) (wCons (wVar "mark") wNil)) c_cap))
noncomputable def d9 : WS := (wIf (wOrB (wCmp (wSlice3 (wVar "sent") (wLit .none) (wLit (.int 3))) (wLit (.str (Str.ofString "..="))) wNe) (wCmp (wMeth isS (wVar "told") wNil wLower) (wOp2 (wMeth isS (wSlice3 (wVar "sent") (wLit (.int 3)) (wLit .none)) wNil wLower) (wVar "mark") wAdd) wNe)) (wSeq (wRet (wLit (.str (Str.ofString "")))) wSkip) wSkip)
noncomputable def d10 : WS := (wRet (wMeth isS (wLit (.str (Str.ofString ""))) (wCons (wComp (wIter (wMeth isS (wVar "told") (wCons (wLit (.str (Str.ofString "="))) wNil) wSplit)) [] (.one "part") (wChain3 (wLit (.str (Str.ofString "A"))) (wSlice3 (wVar "part") (wLit .none) (wLit (.int 1))) (wLit (.str (Str.ofString "Z"))) wLe wLe) (wCall (wCons (wCall (wCons (wSlice3 (wVar "part") (wLit .none) (wLit (.int 2))) (wCons (wLit (.int 16)) wNil)) wHex) wNil) wChr)) wNil) wJoin))
theorem t_dealt_eq : t_law_dealt c_quote c_body c_periods c_cap = (wSeq d0 (wSeq d1 (wSeq d2 (wSeq d3 (wSeq d4 (wSeq d5 (wSeq d6 (wSeq d7 (wSeq d8 (wSeq d9 (wSeq d10 wSkip))))))))))) := rfl
theorem wIte_b {x : String} {p q : WE} {V : Vs} {o : List AO} {K : VP} {b : Bool} (h : V.lookup x = some (.bool b)) (hp : b = true → p ⟨V, o⟩ K) (hq : b = false → q ⟨V, o⟩ K) : wIte (wVal (wVar x)) p q ⟨V, o⟩ K :=
  ⟨_, h, (fun x hx => by cases hx), b, rfl, hp, hq⟩
/-- the names of a deal -/
structure DV (V : Vs) (cs : List Nat) (r p : Nat) (b small : Bool) : Prop where
  ring : V.lookup "ring" = some (.str (tx cs))
  row : V.lookup "row" = some (.int r)
  spare : V.lookup "spare" = some (.int p)
  en : V.lookup "end" = some (.str (tx (end1 b)))
  sm : V.lookup "small" = some (.bool small)
theorem DV.put {V : Vs} {cs : List Nat} {r p : Nat} {b small : Bool} (h : DV V cs r p b small) {x : String} {a : AV} (hx : ["ring", "row", "spare", "end", "small"].contains x = false) : DV (V.put x a) cs r p b small := by
  have ne : ∀ y, y ∈ ["ring", "row", "spare", "end", "small"] → (V.put x a).lookup y = V.lookup y := fun y hy => by
    rw [vput_lookup, if_neg]
    rintro rfl
    rw [List.contains_eq_mem] at hx
    simp [hy] at hx
  exact ⟨(ne _ (by simp)).trans h.ring, (ne _ (by simp)).trans h.row, (ne _ (by simp)).trans h.spare, (ne _ (by simp)).trans h.en, (ne _ (by simp)).trans h.sm⟩
theorem look_ne {V : Vs} {x y : String} {a : AV} {v : Option AV} (h : V.lookup y = v) (n : ¬ y = x) : (V.put x a).lookup y = v := by rw [vput_lookup, if_neg n]; exact h
theorem look_eq {V : Vs} {x : String} {a : AV} : (V.put x a).lookup x = some a := by rw [vput_lookup, if_pos rfl]
theorem esc_sum (cs : List Nat) (h : cs.length ≤ 12) : ((cs.map esc).map List.length).sum + (cs.map esc).length * [].length (α := Nat) ≤ 16777216 := by
  have := sum_le (ps := cs.map esc) (b := 3) (fun q hq => by obtain ⟨c, _, rfl⟩ := List.mem_map.mp hq; exact Nat.le_refl _)
  rw [List.length_map] at this
  simp only [List.length_nil, Nat.mul_zero, Nat.add_zero]
  lia  
/-- figures, plain -/
theorem st0 {V : Vs} {os : List AO} {cs : List Nat} {r p : Nat} {b small : Bool} {R : WS} {K : VS} (hV : DV V cs r p b small) (cl : ∀ c ∈ cs, 160 ≤ c ∧ c < 256) (hl : cs.length ≤ 12) (hK : ∀ V' ex, DV V' cs r p b small → V'.lookup "plain" = some (.str (tx (E cs))) → R ⟨V', os ++ ex⟩ K) : wSeq d0 (wSeq d1 R) ⟨V, os⟩ K := by
  have hV2 : DV (V.put "figures" (.str (tx figL))) cs r p b small := hV.put (by decide)
  unfold d0 d1
  simp only [wSeq, wSet, wLit, set_eq, figS, emS, eqS, wMeth, isS, wCons, wNil]
  refine ⟨⟨_, rfl⟩, comp_str (l := cs) (f := fun c => .str (tx (esc c))) ?_ (fun K hK => ⟨_, hV2.ring, hK⟩) ?_ (by lia  ) ?_⟩
  · intro y hy
    rw [List.mem_singleton.mp hy, look_eq]; rfl
  · intro c hc K hK
    rw [capV_one (a := .str (tx figL)) look_eq]
    have cc := cl c hc
    obtain ⟨f1, f2⟩ := fig_items cc
    have l16 : figL.length = 16 := rfl
    have e1 : Int.fdiv (c : Int) 16 = ((c / 16 : Nat) : Int) := by rw [Int.fdiv_eq_ediv_of_nonneg _ (by decide)]; rfl
    have e2 : Int.fmod (c : Int) 16 = ((c % 16 : Nat) : Int) := by rw [Int.fmod_eq_emod_of_nonneg _ (by decide)]; rfl
    simp only [wSeq, wSkip, wSet, wRet, wIf, wCmp, wVal, wNotB, wAndB, wOrB, wVar, wLit, wOp1, wOp2, wIte, wCall, wMeth, wCons, wNil, wList, wTup, wSub2, wSlice3, wExpr, wLocCall, wAppAttr, wTrue, set_eq, vput_ro, vput_lookup, vlook_cons, String.reduceEq, if_true, if_false, ↓reduceIte, Option.some.injEq, exists_eq_left', AV.bool.injEq, wAdd_ii, wAdd_ss, wAdd_bb, wIAdd_ii, wSub_ii, wMul_ii, wMul_si, wFdiv_ii, wMod_ii, wPow_ii, wNeg_i, wLt_ii, wLe_ii, wLe_ss, wGt_ii, wGe_ii, wEq_ii, wEq_ss, wNe_ii, wNe_ss, wIn_ss, wItem_s, wCut_nn, wCut_ni, wCut_in, wCut_ii, wLen_s, wOrd_s, wChr_i, wMin_ii, wCount_ss, wLower_s, wUpper_s, wSplit_ss, wLines_s, wHex_si, truth_s, truth_b, iter_s]
    rw [f1, f2, e1, e2]
    simp only [wAdd_ss, l16]
    exact ⟨by decide, by unfold smallI; decide, by lia  , by lia  , by decide, by show 2 ≤ 16777216; decide, by decide, by lia  , by lia  , by decide, by show 3 ≤ 16777216; decide, hK⟩
  · refine wJoin_k (cs.map esc) (by simp) (esc_sum cs hl) ?_
    rw [join_E]
    exact hK _ _ (hV2.put (by decide)) look_eq
/-- the octets as quote writes them -/
theorem st2 {V : Vs} {os : List AO} {cs : List Nat} {r p : Nat} {b small : Bool} {R : WS} {K : VS} (hV : DV V cs r p b small) (hP : V.lookup "plain" = some (.str (tx (E cs)))) (cl : ∀ c ∈ cs, 160 ≤ c ∧ c < 256) (hl : cs.length ≤ 12) (hK : ∀ ex, R ⟨V, os ++ ex⟩ K) : wSeq d2 R ⟨V, os⟩ K := by
  unfold d2
  simp only [wSeq, wIf, wCmp, wOp2, wLit, emS, wMeth, isS, wCons, wNil]
  refine ⟨⟨_, rfl⟩, comp_str (l := cs) (f := fun c => .str (tx (esc c))) (by simp) (fun K hK => ⟨_, hV.ring, hK⟩) ?_ (by lia  ) ?_⟩
  · intro c hc K hK
    rw [capV_nil]
    simp only [wSeq, wSkip, wSet, wRet, wIf, wCmp, wVal, wNotB, wAndB, wOrB, wVar, wLit, wOp1, wOp2, wIte, wCall, wMeth, wCons, wNil, wList, wTup, wSub2, wSlice3, wExpr, wLocCall, wAppAttr, wTrue, set_eq, vput_ro, vput_lookup, vlook_cons, String.reduceEq, if_true, if_false, ↓reduceIte, Option.some.injEq, exists_eq_left', AV.bool.injEq, wAdd_ii, wAdd_ss, wAdd_bb, wIAdd_ii, wSub_ii, wMul_ii, wMul_si, wFdiv_ii, wMod_ii, wPow_ii, wNeg_i, wLt_ii, wLe_ii, wLe_ss, wGt_ii, wGe_ii, wEq_ii, wEq_ss, wNe_ii, wNe_ss, wIn_ss, wItem_s, wCut_nn, wCut_ni, wCut_in, wCut_ii, wLen_s, wOrd_s, wChr_i, wMin_ii, wCount_ss, wLower_s, wUpper_s, wSplit_ss, wLines_s, wHex_si, truth_s, truth_b, iter_s]
    exact c_quote_s (cl c hc).2 hK
  · refine wJoin_k (cs.map esc) (by simp) (esc_sum cs hl) ?_
    refine ⟨_, hP, ?_⟩
    dsimp only
    rw [join_E, wNe_ss]
    exact ⟨_, rfl, fun h => by simp at h, fun _ => hK _⟩
theorem rep_len {cs : List Nat} (r : Nat) : (List.replicate r cs).flatten.length = cs.length * r := by simp [Nat.mul_comm]
theorem A_len (m : Nat) : (A m).length = m := by simp [A]
theorem tailA_le {p : Nat} (h : p < 3) (small : Bool) : tailA p small ≤ 4 := by unfold tailA; split <;> lia  
/-- more -/
theorem st3 {V : Vs} {os : List AO} {cs : List Nat} {r p : Nat} {b small : Bool} {R : WS} {K : VS} (hV : DV V cs r p b small) (hp : p < 3) (hK : R ⟨V.put "more" (.str (tx (A (tailA p small)))), os⟩ K) : wSeq d3 R ⟨V, os⟩ K := by
  have fin : ∀ m : Nat, m = tailA p small → m ≤ 4 → wMul [.str (tx [97]), .int (m : Int)] os fun a o => R (St.set ⟨V, o⟩ "more" a) K := fun m hm h4 => by
    rw [wMul_si, Int.toNat_natCast, rep_A, hm]
    rw [hm] at h4
    refine ⟨?_, ?_, ?_, hK⟩
    · rw [List.length_singleton]; lia  
    · lia  
    · lia  
  unfold d3
  simp only [wSeq, wSet, wOp2, wLit, aS]
  refine wIte_b hV.sm (fun h => ?_) fun h => ?_
  · refine ⟨_, hV.spare, ?_⟩
    dsimp only
    rw [wAdd_ii]
    have := fin (2 + p) (by rw [h]; rfl) (by lia  )
    rwa [show ((2 + p : Nat) : Int) = 2 + (p : Int) by lia  ] at this
  · refine ⟨_, hV.spare, ?_⟩
    dsimp only
    rw [wAdd_ii]
    have := fin (1 + p) (by rw [h]; rfl) (by lia  )
    rwa [show ((1 + p : Nat) : Int) = 1 + (p : Int) by lia  ] at this
/-- page -/
theorem st4 {V : Vs} {os : List AO} {cs : List Nat} {r p : Nat} {b small : Bool} {rows : List (List Nat)} {R : WS} {K : VS} (hV : DV V cs r p b small) (d : Deal cs r p rows) (hM : V.lookup "more" = some (.str (tx (A (tailA p small))))) (hK : ∀ ex, R ⟨V.put "page" (.str (tx (joinL (61 :: end1 b) (pcs p small rows)))), os ++ ex⟩ K) : wSeq d4 R ⟨V, os⟩ K := by
  have hsz := d.size
  have h4 := tailA_le d.p3 small
  have r12 := d.r12
  unfold d4
  simp only [wSeq, wSet, wCall, wCons, wNil, wOp2, wVar, wLit, hV.ring, hV.row, hV.spare, hV.en, hM, Option.some.injEq, exists_eq_left', wMul_si, wMul_ii, wAdd_ss, wAdd_ii, Int.toNat_natCast]
  have s3 : smallI 3 := by unfold smallI; decide
  rw [rep_len] at hsz
  refine ⟨by lia  , by lia  , by lia  , ?_, .inl s3, page_ok d rfl hK⟩
  rw [rep_len, A_len]; lia  
theorem cnt_ok {V : Vs} {os : List AO} {cs : List Nat} {r p : Nat} {b small : Bool} {rows : List (List Nat)} {Q : Bool → List AO → Prop} (hV : DV V cs r p b small) (d : Deal cs r p rows) (hG : V.lookup "page" = some (.str (tx (joinL (61 :: end1 b) (pcs p small rows))))) (hQ : Q false os) :
    wCmp (wMeth isS (wVar "page") (wCons (wVar "end") wNil) wCount) (wIte (wVal (wVar "small")) (wCall (wCons (wVar "ring") wNil) wLen) (wOp2 (wCall (wCons (wVar "ring") wNil) wLen) (wLit (.int 1)) wSub)) wNe ⟨V, os⟩ Q := by
  have cnt := count_end (b := b) (pcs_ne (p := p) (small := small) d.ne) (d.wr' small)
  have pl := pcs_len (p := p) (small := small) d.ne
  rw [d.num] at pl
  have lo := d.lo
  have hi := d.hi
  rw [pl] at cnt
  have fin : ∀ m : Int, m = ((cs.length + (if small then 1 else 0) - 1 : Nat) : Int) → wNe [.int ((cs.length + (if small then 1 else 0) - 1 : Nat) : Int), .int m] os fun a o => ∃ b, a = .bool b ∧ Q b o := fun m hm => by
    rw [wNe_ii, hm, decide_eq_true rfl]; exact ⟨_, rfl, hQ⟩
  simp only [wCmp, wOp2, wMeth, isS, wCons, wNil, wCall]
  refine ⟨_, hG, ⟨_, rfl⟩, _, hV.en, ?_⟩
  dsimp only
  rw [wCount_ss, cnt]
  refine wIte_b hV.sm (fun h => ?_) fun h => ?_
  · refine ⟨_, hV.ring, ?_⟩
    simp only [wNil, wLit]
    rw [wLen_s]
    exact ⟨by lia  , fin _ (by rw [h]; simp)⟩
  · refine ⟨_, hV.ring, ?_⟩
    simp only [wNil, wLit]
    rw [wLen_s]
    refine ⟨by lia  , ?_⟩
    exact fin (cs.length - 1 : Int) (by rw [h]; simp; lia  )
/-- the page as body_encode writes it -/
theorem st5 {V : Vs} {os : List AO} {cs : List Nat} {r p : Nat} {b small : Bool} {rows : List (List Nat)} {R : WS} {K : VS} (hV : DV V cs r p b small) (d : Deal cs r p rows) (hP : V.lookup "plain" = some (.str (tx (E cs)))) (hM : V.lookup "more" = some (.str (tx (A (tailA p small))))) (hG : V.lookup "page" = some (.str (tx (joinL (61 :: end1 b) (pcs p small rows))))) (hK : R ⟨V, os⟩ K) : wSeq d5 R ⟨V, os⟩ K := by
  have hsz := d.size
  have hpg := d.page small b
  have h4 := tailA_le d.p3 small
  have r12 := d.r12
  have hi := d.hi
  have hel := end1_len b
  have hE : (E cs).length * r ≤ 440 := by
    rw [rep_len] at hsz
    rw [E_len, Nat.mul_assoc]; lia  
  have hps := pcs_ne (p := p) (small := small) d.ne
  unfold d5
  simp only [wSeq, wIf, wOrB, eqS, emS]
  unfold wCmp wOp2
  refine wRepl1_ok (x := joinL (61 :: end1 b) (pcs p small rows)) (e := end1 b) (fun K hK => ⟨_, hG, hK⟩) hV.en (by simp) (end1_ne b) (by simp) (by simp; lia  ) (by simp; lia  ) (cut_soft hps (pcs_SF d.octs)) ?_
  rw [joinL_nil, pcs_flat d.ne, d.flat]
  refine ⟨_, hP, _, hV.row, ?_⟩
  dsimp only
  rw [wMul_si, Int.toNat_natCast, rep_E]
  refine ⟨by lia  , by lia  , by lia  , _, hM, ?_⟩
  dsimp only
  rw [wAdd_ss]
  refine ⟨by rw [E_len, A_len]; lia  , ?_⟩
  rw [wNe_ss, decide_eq_true rfl]
  refine ⟨_, rfl, fun h => by simp at h, fun _ => ?_⟩
  exact cnt_ok hV d hG ⟨fun h => by simp at h, fun _ => hK⟩
noncomputable def S2 (b small : Bool) (p : Nat) (rows : List (List Nat)) : List Nat := 46 :: 46 :: joinL (61 :: end2 b) (pcs p small rows)
theorem Deal.pasc {cs : List Nat} {r p : Nat} {rows : List (List Nat)} (d : Deal cs r p rows) (small b : Bool) : ∀ c ∈ [46] ++ joinL (61 :: end1 b) (pcs p small rows), c < 128 := fun c hc => by
  rcases List.mem_append.mp hc with q | q
  · rw [List.mem_singleton.mp q]; decide
  · rcases joinL_mem q with q | ⟨x, hx, q⟩
    · exact mark1_asc b c q
    · exact (wr_lt (d.wr' small x hx c q)).1
theorem Deal.sasc {cs : List Nat} {r p : Nat} {rows : List (List Nat)} (d : Deal cs r p rows) (small b : Bool) : ∀ c ∈ S2 b small p rows, c < 128 := fun c hc => by
  rcases List.mem_cons.mp hc with rfl | hc
  · decide
  · rcases List.mem_cons.mp hc with rfl | hc
    · decide
    · exact d.asc small b c hc
theorem Deal.slen {cs : List Nat} {r p : Nat} {rows : List (List Nat)} (d : Deal cs r p rows) (small b : Bool) : (S2 b small p rows).length ≤ 602 := by have := d.page2 small b; unfold S2; simp; lia  
theorem Deal.est {cs : List Nat} {r p : Nat} {rows : List (List Nat)} (d : Deal cs r p rows) (small b : Bool) : stuffR 10 ([46] ++ joinL (61 :: end1 b) (pcs p small rows)) = S2 b small p rows := by
  unfold S2
  rw [← joinL_softs, ← joinL_softs]
  exact sent_eq (softs_wr (d.wr' small))
/-- sent -/
theorem st6 {V : Vs} {os : List AO} {cs : List Nat} {r p : Nat} {b small : Bool} {rows : List (List Nat)} {R : WS} {K : VS} (d : Deal cs r p rows) (hG : V.lookup "page" = some (.str (tx (joinL (61 :: end1 b) (pcs p small rows))))) (hK : R ⟨V.put "sent" (.str (tx (S2 b small p rows))), os⟩ K) : wSeq d6 R ⟨V, os⟩ K := by
  have hpg := d.page small b
  unfold d6
  simp only [wSeq, wSet, wMeth, isS, wCall, wCons, wNil, wOp2, wLit, dotS]
  refine ⟨_, hG, ?_⟩
  dsimp only
  rw [wAdd_ss]
  refine ⟨by simp; lia  , ⟨_, rfl⟩, sent_ok (d.pasc small b) (by simp; lia  ) (by simp) ?_⟩
  rw [d.est]
  exact hK
/-- mark -/
theorem st7 {V : Vs} {os : List AO} {b : Bool} {R : WS} {K : VS} (hE : V.lookup "end" = some (.str (tx (end1 b)))) (hK : R ⟨V.put "mark" (.str (tx (mark b))), os⟩ K) : wSeq d7 R ⟨V, os⟩ K := by
  have ml : (61 :: end2 b).length ≤ 7 := by cases b <;> decide
  unfold d7
  simp only [wSeq, wSet, wOp2, wLit, eqS]
  refine wRepl2_ok hE ?_
  rw [wAdd_ss]
  exact ⟨by simp at ml ⊢; lia  , hK⟩
theorem st8a {V : Vs} {os : List AO} {cs : List Nat} {r p : Nat} {b small : Bool} {rows : List (List Nat)} {lw : Nat → Nat} {K : VP} (d : Deal cs r p rows) (hl : LW lw) (hM : V.lookup "mark" = some (.str (tx (mark b)))) (hK : ∀ T told ex, Told cs r p rows small b lw T told → K (.str (tx told)) (os ++ ex)) :
    wCut (.str (tx ((S2 b small p rows).map lw))) (.int 3) .none os fun a o => wVar "mark" ⟨V, o⟩ fun m o => wAdd [a, m] o fun x o => wVar "mark" ⟨V, o⟩ fun m o => c_cap [x, m] o K := by
  obtain ⟨T, told, tt⟩ := told_ok d small b hl
  have ttext := tt.text
  have tlen := tt.len
  have ml : (mark b).length ≤ 8 := by cases b <;> decide
  have sl := d.slen small b
  have hi := d.hi
  rw [wCut_in, slice_f3]
  refine ⟨by rw [List.length_map]; lia  , ?_⟩
  have e : ((S2 b small p rows).map lw).drop 3 = T := ttext
  rw [e]
  refine ⟨_, hM, ?_⟩
  dsimp only
  rw [wAdd_ss]
  refine ⟨by lia  , _, hM, ?_⟩
  refine ⟨_, _, mps b p small lw rows ++ [[]], rfl, by cases b <;> decide, tt.cut, ?_, mark_asc b, by rw [List.length_append]; lia  , by lia  , ?_, fun ex => ?_⟩
  · intro c hc
    rcases List.mem_append.mp hc with q | q
    · exact tt.asc c q
    · exact mark_asc b c q
  · rw [List.length_append, mps_len, d.num]; simp; lia  
  · rw [← tt.eq]
    exact hK T told ex tt
/-- told -/
theorem st8 {V : Vs} {os : List AO} {cs : List Nat} {r p : Nat} {b small : Bool} {rows : List (List Nat)} {R : WS} {K : VS} (hV : DV V cs r p b small) (d : Deal cs r p rows) (hM : V.lookup "mark" = some (.str (tx (mark b)))) (hS : V.lookup "sent" = some (.str (tx (S2 b small p rows)))) (hK : ∀ lw T told ex, Told cs r p rows small b lw T told → R ⟨V.put "told" (.str (tx told)), os ++ ex⟩ K) : wSeq d8 R ⟨V, os⟩ K := by
  have sl := d.slen small b
  unfold d8
  simp only [wSeq, wSet, wCall, wCons, wNil, wOp2, wSlice3]
  refine wIte_b hV.sm (fun h => ?_) fun h => ?_
  · refine ⟨_, hS, ⟨_, rfl⟩, ?_⟩
    simp only [wNil, wLit]
    rw [wLower_s, tx_lower (d.sasc small b)]
    exact ⟨by lia  , st8a d (.inr rfl) hM fun T told ex tt => hK lowC T told ex tt⟩
  · refine ⟨_, hS, ?_⟩
    have := st8a (os := os) (lw := id) (K := fun a o => R (St.set ⟨V, o⟩ "told" a) K) d (.inl rfl) hM fun T told ex tt => hK id T told ex tt
    rw [List.map_id] at this
    exact this
/-- nothing lost -/
theorem st9 {V : Vs} {os : List AO} {cs : List Nat} {r p : Nat} {b small : Bool} {rows : List (List Nat)} {R : WS} {K : VS} {lw : Nat → Nat} {T told : List Nat} (d : Deal cs r p rows) (tt : Told cs r p rows small b lw T told) (hM : V.lookup "mark" = some (.str (tx (mark b)))) (hS : V.lookup "sent" = some (.str (tx (S2 b small p rows)))) (hT : V.lookup "told" = some (.str (tx told))) (hK : R ⟨V, os⟩ K) : wSeq d9 R ⟨V, os⟩ K := by
  have sl := d.slen small b
  have ttl := tt.tlen
  have ml : (mark b).length ≤ 8 := by cases b <;> decide
  have take : (S2 b small p rows).take 3 = [46, 46, 61] := tt.take
  have low : told.map lowC = ((S2 b small p rows).drop 3).map lowC ++ mark b := tt.low
  have dasc : ∀ c ∈ (S2 b small p rows).drop 3, c < 128 := fun c hc => d.sasc small b c (List.mem_of_mem_drop hc)
  have dl : ((S2 b small p rows).drop 3).length ≤ 602 := by rw [List.length_drop]; lia  
  unfold d9
  simp only [wSeq, wIf, wOrB, wCmp, wOp2, wSlice3, wLit, wMeth, isS, wCons, wNil, ddeS]
  refine ⟨_, hS, ?_⟩
  dsimp only
  rw [wCut_ni, slice_t3, take]
  refine ⟨by lia  , ?_⟩
  rw [wNe_ss, decide_eq_true rfl]
  refine ⟨_, rfl, fun h => by simp at h, fun _ => ⟨_, hT, ⟨_, rfl⟩, ?_⟩⟩
  dsimp only
  rw [wLower_s, tx_lower tt.tasc]
  refine ⟨by lia  , _, hS, ?_⟩
  dsimp only
  rw [wCut_in, slice_f3]
  refine ⟨by lia  , ⟨_, rfl⟩, ?_⟩
  rw [wLower_s, tx_lower dasc]
  refine ⟨by lia  , _, hM, ?_⟩
  dsimp only
  rw [wAdd_ss, ← low]
  refine ⟨by rw [List.length_map]; lia  , ?_⟩
  rw [wNe_ss, decide_eq_true rfl]
  exact ⟨_, rfl, fun h => by simp at h, fun _ => hK⟩
theorem dealt_ok {cs : List Nat} {r p : Nat} {b small : Bool} {os : List AO} {Q : VP} {rows : List (List Nat)} (d : Deal cs r p rows)
    (hQ : ∀ ex, Q (.str (tx (rows.map fun q => q.headD 0))) (os ++ ex)) :
    t_law_dealt c_quote c_body c_periods c_cap ⟨⟨[("ring", .str (tx cs)), ("row", .int r), ("spare", .int p), ("end", .str (tx (end1 b))), ("small", .bool small)], os.length⟩, os⟩ fun fl σ' => Q (retOf fl) σ'.objs := by
  have hi := d.hi
  rw [t_dealt_eq]
  refine st0 (cs := cs) (r := r) (p := p) (b := b) (small := small) (V := ⟨[("ring", .str (tx cs)), ("row", .int r), ("spare", .int p), ("end", .str (tx (end1 b))), ("small", .bool small)], os.length⟩) ⟨by simp only [vlook_cons, String.reduceEq, if_true, if_false], by simp only [vlook_cons, String.reduceEq, if_true, if_false], by simp only [vlook_cons, String.reduceEq, if_true, if_false], by simp only [vlook_cons, String.reduceEq, if_true, if_false], by simp only [vlook_cons, String.reduceEq, if_true, if_false]⟩ d.oct d.hi fun V ex hV hP => ?_
  refine st2 hV hP d.oct d.hi fun ex2 => ?_
  refine st3 hV d.p3 ?_
  have hV3 := hV.put (x := "more") (a := .str (tx (A (tailA p small)))) (by decide)
  refine st4 hV3 d look_eq fun ex3 => ?_
  have hV4 := hV3.put (x := "page") (a := .str (tx (joinL (61 :: end1 b) (pcs p small rows)))) (by decide)
  refine st5 hV4 d (look_ne (look_ne hP (by decide)) (by decide)) (look_ne look_eq (by decide)) look_eq ?_
  refine st6 (small := small) d look_eq ?_
  have hV6 := hV4.put (x := "sent") (a := .str (tx (S2 b small p rows))) (by decide)
  refine st7 hV6.en ?_
  have hV7 := hV6.put (x := "mark") (a := .str (tx (mark b))) (by decide)
  refine st8 hV7 d look_eq (look_ne look_eq (by decide)) fun lw T told ex4 tt => ?_
  refine st9 d tt (look_ne look_eq (by decide)) (look_ne (look_ne look_eq (by decide)) (by decide)) look_eq ?_
  unfold d10
  simp only [wSeq, wRet, wMeth, isS, wLit, wCons, wNil, emS, eqS, bigA, bigZ]
  refine ⟨⟨_, rfl⟩, read_ok (l := told) (cs := rows.map fun q => q.headD 0) look_eq (Nat.le_trans tt.tlen (by decide)) ?_ tt.heads (by rw [List.length_map, d.num]; lia  ) fun ex' => ?_⟩
  · intro c hc
    obtain ⟨q, hq, rfl⟩ := List.mem_map.mp hc
    have ho := d.octs q hq
    have hn := d.qne q hq
    cases q with
    | nil => exact absurd rfl hn
    | cons e r' => exact ho e (by simp)
  · have := hQ (ex ++ ex2 ++ ex3 ++ ex4 ++ ex')
    rw [← List.append_assoc, ← List.append_assoc, ← List.append_assoc, ← List.append_assoc] at this
    exact this
end Mine
end P40
section P41
set_option maxRecDepth 100000
set_option Elab.async false
set_option autoImplicit false
set_option linter.unusedVariables false
set_option linter.unusedSimpArgs false
namespace Mine
open PySem
noncomputable def szs : List Nat := [4, 5, 6, 7, 8, 9, 10, 12]
noncomputable def invs (n r : Nat) : List Nat := (List.range n).filter fun one => decide (one * r % n = 1)
noncomputable def unitsL (n : Nat) : List Nat := ((List.range (n - 2)).map (· + 2)).filter fun r => decide (invs n r ≠ [])
noncomputable def alone (n : Nat) : List Nat := (List.range n).filter fun one => decide (one * one % n = 1)
noncomputable def prodL (l : List Nat) : Nat := l.foldr (· * ·) 1
theorem wilson : ∀ n ∈ szs, prodL (unitsL n) % n = (if 2 < (alone n).length then 1 else n - 1) := by decide
theorem units_mem {n r : Nat} (h : r ∈ unitsL n) : 2 ≤ r ∧ r < n := by
  obtain ⟨h1, _⟩ := List.mem_filter.mp h
  obtain ⟨j, hj, rfl⟩ := List.mem_map.mp h1
  have : j < n - 2 := by simpa using hj
  lia  
/-- the ring, turned by q -/
noncomputable def perm (cs : List Nat) (q : Nat) : List Nat := (List.range cs.length).map fun k => cs.getD (k * q % cs.length) 0
theorem perm_len (cs : List Nat) (q : Nat) : (perm cs q).length = cs.length := by simp [perm]
theorem perm_oct {cs : List Nat} (h : Oct cs) (q : Nat) : Oct (perm cs q) := fun c hc => by
  obtain ⟨k, hk, rfl⟩ := List.mem_map.mp hc
  have hk' : k < cs.length := by simpa using hk
  have : k * q % cs.length < cs.length := Nat.mod_lt _ (by lia  )
  rw [List.getD_eq_getElem?_getD, List.getElem?_eq_getElem this]
  exact h _ (List.getElem_mem _)
theorem perm_get (cs : List Nat) (q : Nat) {k : Nat} (h : k < cs.length) : (perm cs q).getD k 0 = cs.getD (k * q % cs.length) 0 := by simp [perm, h]
theorem perm_perm (cs : List Nat) (q r : Nat) : perm (perm cs q) r = perm cs (q * r) := by
  show (List.range (perm cs q).length).map (fun k => (perm cs q).getD (k * r % (perm cs q).length) 0) = _
  rw [perm_len]
  refine List.map_congr_left fun k hk => ?_
  have hk' : k < cs.length := by simpa using hk
  have : k * r % cs.length < cs.length := Nat.mod_lt _ (by lia  )
  rw [perm_get _ _ this]
  congr 1
  rw [Nat.mul_mod, Nat.mod_mod, ← Nat.mul_mod, Nat.mul_assoc, Nat.mul_comm r q]
theorem perm_one (cs : List Nat) : perm cs 1 = cs := by
  refine List.ext_getElem (perm_len _ _) fun i h1 h2 => ?_
  simp [perm, Nat.mod_eq_of_lt h2, h2]
theorem perm_mod (cs : List Nat) (q : Nat) : perm cs (q % cs.length) = perm cs q := by
  refine List.map_congr_left fun k hk => ?_
  congr 1
  rw [Nat.mul_mod, Nat.mod_mod, ← Nat.mul_mod]
theorem prod_erase {l : List Nat} {j : Nat} (h : j < l.length) : prodL l = l[j] * prodL (l.eraseIdx j) := by
  induction l generalizing j with
  | nil => simp at h
  | cons a r ih =>
    cases j with
    | zero => rfl
    | succ j =>
      have := ih (j := j) (by simpa using h)
      have hj : j < r.length := by simpa using h
      show a * prodL r = r[j] * (a * prodL (r.eraseIdx j))
      rw [this, Nat.mul_left_comm]
noncomputable def chunks (R : List Nat) (r n : Nat) : List (List Nat) := (List.range n).map fun k => (R.drop (k * r)).take r
theorem chunks_flat (r : Nat) : ∀ (n : Nat) (R : List Nat), R.length = n * r → (chunks R r n).flatten = R
  | 0, R, h => by simp at h; subst h; rfl
  | n + 1, R, h => by
    have h' : R.length = n * r + r := by rw [h, Nat.succ_mul]
    unfold chunks
    rw [List.range_succ, List.map_append, List.flatten_append]
    have e : ((List.range n).map fun k => (R.drop (k * r)).take r) = chunks (R.take (n * r)) r n := by
      refine List.map_congr_left fun k hk => ?_
      have hk' : k < n := by simpa using hk
      have : k * r + r ≤ n * r := by rw [← Nat.succ_mul]; exact Nat.mul_le_mul_right r hk'
      rw [List.drop_take, List.take_take, Nat.min_eq_left (by lia  )]
    rw [e, chunks_flat r n _ (by rw [List.length_take]; lia  )]
    simp only [List.map_cons, List.map_nil, List.flatten_cons, List.flatten_nil, List.append_nil]
    rw [List.take_of_length_le (l := R.drop (n * r)) (by rw [List.length_drop]; lia  ), List.take_append_drop]
theorem rep_get {cs : List Nat} (h : 0 < cs.length) : ∀ (m i : Nat), i < m * cs.length → (List.replicate m cs).flatten[i]? = cs[i % cs.length]?
  | 0, i, hi => by simp at hi
  | m + 1, i, hi => by
    rw [List.replicate_succ, List.flatten_cons]
    by_cases h1 : i < cs.length
    · rw [List.getElem?_append_left h1, Nat.mod_eq_of_lt h1]
    · rw [List.getElem?_append_right (by lia  ), rep_get h m (i - cs.length) (by rw [Nat.succ_mul] at hi; lia  ), ← Nat.mod_eq_sub_mod (by lia  )]
theorem chunk_head {cs : List Nat} {r : Nat} (h : 0 < cs.length) (hr : 0 < r) : (chunks (List.replicate r cs).flatten r cs.length).map (fun q => q.headD 0) = perm cs r := by
  unfold chunks perm
  rw [List.map_map]
  refine List.map_congr_left fun k hk => ?_
  have hk' : k < cs.length := by simpa using hk
  show (((List.replicate r cs).flatten.drop (k * r)).take r).headD 0 = _
  have : k * r < r * cs.length := by rw [Nat.mul_comm]; exact Nat.mul_lt_mul_of_pos_left hk' hr
  have e : (((List.replicate r cs).flatten.drop (k * r)).take r).headD 0 = ((List.replicate r cs).flatten[k * r]?).getD 0 := by
    rw [List.headD_eq_head?_getD, List.head?_eq_getElem?, List.getElem?_take_of_lt hr, List.getElem?_drop, Nat.add_zero]
  rw [e, rep_get h r (k * r) this, List.getD_eq_getElem?_getD]
theorem chunk_len {R : List Nat} {r n : Nat} (h : R.length = n * r) : ∀ q ∈ chunks R r n, q.length = r := fun q hq => by
  obtain ⟨k, hk, rfl⟩ := List.mem_map.mp hq
  have hk' : k < n := by simpa using hk
  have : k * r + r ≤ n * r := by rw [← Nat.succ_mul]; exact Nat.mul_le_mul_right r hk'
  rw [List.length_take, List.length_drop]; lia  
/-- turned about -/
theorem perm_back : ∀ n ∈ szs, ∀ k, k < n → k * (n - 1) % n = (Int.fmod (-(k : Int)) (n : Int)).toNat ∧ 0 ≤ Int.fmod (-(k : Int)) (n : Int) ∧ Int.fmod (-(k : Int)) (n : Int) < n := by decide
end Mine
end P41
section P42
set_option maxRecDepth 100000
set_option Elab.async false
set_option autoImplicit false
set_option linter.unusedVariables false
set_option linter.unusedSimpArgs false
namespace Mine
open PySem
noncomputable def c_dealt (as : List AV) (os : List AO) (Q : VP) : Prop := ∃ cs rn pn b small rows, as = [.str (tx cs), .int ((rn : Nat) : Int), .int ((pn : Nat) : Int), .str (tx (end1 b)), .bool small] ∧ Deal cs rn pn rows ∧ ∀ ex, Q (.str (tx (rows.map fun q => q.headD 0))) (os ++ ex)
theorem c_dealt_perm {cs : List Nat} {r p : Nat} {b small : Bool} {os : List AO} {Q : VP} (ho : Oct cs) (h4 : 4 ≤ cs.length) (h12 : cs.length ≤ 12) (hr : 2 ≤ r) (hr2 : r ≤ 12) (hp : p < 3) (hQ : ∀ ex, Q (.str (tx (perm cs r))) (os ++ ex)) :
    c_dealt [.str (tx cs), .int (r : Int), .int (p : Int), .str (tx (end1 b)), .bool small] os Q := by
  have hl : (List.replicate r cs).flatten.length = cs.length * r := by simp [Nat.mul_comm]
  refine ⟨cs, r, p, b, small, chunks (List.replicate r cs).flatten r cs.length, rfl, ⟨ho, h4, h12, hr, hr2, hp, chunks_flat r cs.length _ hl, chunk_len hl, by simp [chunks]⟩, ?_⟩
  rw [chunk_head (by lia  ) (by lia  )]
  exact hQ
theorem endA (c : Bool) : (if c then Str.ofString "\r\n.\r." else Str.ofString "\n.\r.") = tx (end1 c) := by cases c <;> decide +kernel
noncomputable def u0 : WS := (wSet "cells" (wList (wCons (wLit (.int 1)) (wCons (wLit (.int 5)) (wCons (wLit (.int 23)) wNil)))))
noncomputable def u1 : WS := (wFor (wEnum (wCons (wVar "script") wNil)) (.two "place" "number") (wSeq (wAugItem2 (wVar "cells") (wOp2 (wVar "place") (wLit (.int 3)) wMod) (wOp2 (wVar "number") (wLit (.int 1000000)) wMod) wIAdd) wSkip))
noncomputable def u2 : WS := (wSet "size" (wSub2 (wTup (wCons (wLit (.int 4)) (wCons (wLit (.int 5)) (wCons (wLit (.int 6)) (wCons (wLit (.int 7)) (wCons (wLit (.int 8)) (wCons (wLit (.int 9)) (wCons (wLit (.int 10)) (wCons (wLit (.int 12)) wNil))))))))) (wOp2 (wSub2 (wVar "cells") (wLit (.int 0))) (wLit (.int 8)) wMod)))
noncomputable def u3 : WS := (wSet "end" (wIte (wCmp (wOp2 (wOp2 (wSub2 (wVar "cells") (wLit (.int 0))) (wLit (.int 8)) wFdiv) (wLit (.int 2)) wMod) (wLit (.int 1)) wEq) (wLit (.str (Str.ofString "\r\n.\r."))) (wLit (.str (Str.ofString "\n.\r.")))))
noncomputable def u4 : WS := (wSet "numbers" (wComp (wRange1 (wCons (wVar "size") wNil)) ["script"] (.one "place") wTrue (wIte (wCmp (wVar "place") (wCall (wCons (wVar "script") wNil) wLen) wLt) (wSub2 (wVar "script") (wVar "place")) (wLit (.int 0)))))
noncomputable def u5 : WS := (wSet "first" (wMeth isS (wLit (.str (Str.ofString ""))) (wCons (wComp (wEnum (wCons (wVar "numbers") wNil)) [] (.two "place" "number") wTrue (wCall (wCons (wOp2 (wLit (.int 160)) (wOp2 (wOp2 (wOp2 (wLit (.int 37)) (wVar "place") wMul) (wVar "number") wAdd) (wLit (.int 96)) wMod) wAdd) wNil) wChr)) wNil) wJoin))
noncomputable def u6 : WS := (wSet "units" (wComp (wRange2 (wCons (wLit (.int 2)) (wCons (wVar "size") wNil))) ["size"] (.one "row") (wCmp (wComp (wRange1 (wCons (wVar "size") wNil)) ["row", "size"] (.one "one") (wCmp (wOp2 (wOp2 (wVar "one") (wVar "row") wMul) (wVar "size") wMod) (wLit (.int 1)) wEq) (wVar "one")) (wList wNil) wNe) (wVar "row")))
noncomputable def u7 : WS := (wSet "ring" (wVar "first"))
noncomputable def u8 : WS := (wSet "rest" (wSub2 (wVar "cells") (wLit (.int 2))))
noncomputable def u9 (c_law_dealt : List AV → List AO → VP → Prop) : WS := (wFor (wRange1 (wCons (wCall (wCons (wVar "units") wNil) wLen) wNil)) (.one "turn") (wSeq (wSet "left" (wCall (wCons (wVar "units") wNil) wLen)) (wSeq (wSet "row" (wMethV (wVar "units") (wCons (wOp2 (wVar "rest") (wVar "left") wMod) wNil) wPop)) (wSeq (wSet "rest" (wOp2 (wVar "rest") (wVar "left") wFdiv)) (wSeq (wSet "ring" (wCall (wCons (wVar "ring") (wCons (wVar "row") (wCons (wOp2 (wOp2 (wSub2 (wVar "cells") (wLit (.int 1))) (wVar "turn") wAdd) (wLit (.int 3)) wMod) (wCons (wVar "end") (wCons (wOp2 (wOp2 (wOp2 (wOp2 (wSub2 (wVar "cells") (wLit (.int 1))) (wLit (.int 3)) wFdiv) (wVar "turn") wAdd) (wLit (.int 2)) wMod) (wLit (.int 1)) wEq) wNil))))) c_law_dealt)) wSkip)))))
noncomputable def u10 : WS := (wSet "alone" (wComp (wRange1 (wCons (wVar "size") wNil)) ["size"] (.one "one") (wCmp (wOp2 (wOp2 (wVar "one") (wVar "one") wMul) (wVar "size") wMod) (wLit (.int 1)) wEq) (wVar "one")))
noncomputable def u11 : WS := (wIf (wCmp (wCall (wCons (wVar "alone") wNil) wLen) (wLit (.int 2)) wGt) (wSeq (wRet (wOp2 (wVar "ring") (wVar "first") wEq)) wSkip) wSkip)
noncomputable def u12 : WS := (wRet (wOp2 (wVar "ring") (wMeth isS (wLit (.str (Str.ofString ""))) (wCons (wComp (wRange1 (wCons (wVar "size") wNil)) ["first", "size"] (.one "place") wTrue (wSub2 (wVar "first") (wOp2 (wOp1 (wVar "place") wNeg) (wVar "size") wMod))) wNil) wJoin) wEq))
theorem t_law_eq (c : List AV → List AO → VP → Prop) : t_law c = (wSeq u0 (wSeq u1 (wSeq u2 (wSeq u3 (wSeq u4 (wSeq u5 (wSeq u6 (wSeq u7 (wSeq u8 (wSeq (u9 c) (wSeq u10 (wSeq u11 (wSeq u12 wSkip))))))))))))) := rfl
theorem fmod_range (a : Int) {n : Int} (h : 0 < n) : 0 ≤ a.fmod n ∧ a.fmod n < n := by
  rw [Int.fmod_eq_emod_of_nonneg _ (by lia  )]
  exact ⟨Int.emod_nonneg _ (by lia  ), Int.emod_lt_of_pos _ h⟩
theorem item_int {os : List AO} {k : Nat} {xs : List Int} {i : Int} {Q : VP} (hk : os[k]? = some (.list (xs.map .int)) ∨ os[k]? = some (.tup (xs.map .int))) (h0 : 0 ≤ i) (h1 : i < xs.length) (hl : xs.length < 1000000) (hQ : Q (.int (xs.getD i.toNat 0)) os) : wItem (.ref k) (.int i) os Q := by
  have hi : i.toNat < xs.length := by lia  
  rw [wItem_r]
  refine ⟨xs.map .int, i.toNat, _, hk, by rw [List.length_map]; lia  , StrLaws.seqIndex_nonneg h0 (by rw [List.length_map]; exact h1), ?_, hQ⟩
  simp [hi]
structure SV (V : Vs) (n : Nat) (b : Bool) : Prop where
  script : V.lookup "script" = some (.ref 0)
  cells : V.lookup "cells" = some (.ref 1)
  size : V.lookup "size" = some (.int (n : Int))
  en : V.lookup "end" = some (.str (tx (end1 b)))
  ro : V.ro = 1
theorem stA {sc : List Int} (hsc : sc.length ≤ 63) {R : WS} {K : VS} (hK : ∀ (V : Vs) (os : List AO) (n : Nat) (b : Bool) (xs : List Int), SV V n b → n ∈ szs → xs.length = 3 → os[0]? = some (.list (sc.map .int)) → os[1]? = some (.list (xs.map .int)) → R ⟨V, os⟩ K) :
    wSeq u0 (wSeq u1 (wSeq u2 (wSeq u3 R))) ⟨⟨[("script", .ref 0)], 1⟩, [.list (sc.map .int)]⟩ K := by
  unfold u0
  simp only [wSeq, wSkip, wSet, wRet, wIf, wCmp, wVal, wNotB, wAndB, wOrB, wVar, wLit, wOp1, wOp2, wIte, wCall, wMeth, wCons, wNil, wList, wTup, wSub2, wSlice3, wExpr, wLocCall, wAppAttr, wTrue, set_eq, vput_ro, vput_lookup, vlook_cons, String.reduceEq, if_true, if_false, ↓reduceIte, Option.some.injEq, exists_eq_left', AV.bool.injEq, wAdd_ii, wAdd_ss, wAdd_bb, wIAdd_ii, wSub_ii, wMul_ii, wMul_si, wFdiv_ii, wMod_ii, wPow_ii, wNeg_i, wLt_ii, wLe_ii, wLe_ss, wGt_ii, wGe_ii, wEq_ii, wEq_ss, wNe_ii, wNe_ss, wIn_ss, wItem_s, wCut_nn, wCut_ni, wCut_in, wCut_ii, wLen_s, wOrd_s, wChr_i, wMin_ii, wCount_ss, wLower_s, wUpper_s, wSplit_ss, wLines_s, wHex_si, truth_s, truth_b, iter_s]
  refine ⟨by decide, ?_⟩
  unfold u1 wFor wEnum
  simp only [wSeq, wSkip, wSet, wRet, wIf, wCmp, wVal, wNotB, wAndB, wOrB, wVar, wLit, wOp1, wOp2, wIte, wCall, wMeth, wCons, wNil, wList, wTup, wSub2, wSlice3, wExpr, wLocCall, wAppAttr, wTrue, set_eq, vput_ro, vput_lookup, vlook_cons, String.reduceEq, if_true, if_false, ↓reduceIte, Option.some.injEq, exists_eq_left', AV.bool.injEq, wAdd_ii, wAdd_ss, wAdd_bb, wIAdd_ii, wSub_ii, wMul_ii, wMul_si, wFdiv_ii, wMod_ii, wPow_ii, wNeg_i, wLt_ii, wLe_ii, wLe_ss, wGt_ii, wGe_ii, wEq_ii, wEq_ss, wNe_ii, wNe_ss, wIn_ss, wItem_s, wCut_nn, wCut_ni, wCut_in, wCut_ii, wLen_s, wOrd_s, wChr_i, wMin_ii, wCount_ss, wLower_s, wUpper_s, wSplit_ss, wLines_s, wHex_si, truth_s, truth_b, iter_s]
  refine ⟨0, sc.map .int, rfl, rfl, ?_⟩
  refine for_run (n := sc.length) (fun i σ => ∃ (V : Vs) (xs : List Int), σ = ⟨V, [.list (sc.map .int), .list (xs.map .int)]⟩ ∧ xs.length = 3 ∧ V.lookup "script" = some (.ref 0) ∧ V.lookup "cells" = some (.ref 1) ∧ V.ro = 1) ?_ ?_ ⟨_, [1, 5, 23], rfl, rfl, by simp [vput_lookup, vlook_cons], by simp [vput_lookup], rfl⟩
  · rintro σ ⟨V, xs, rfl, hx, h1, h2, h3⟩
    refine ⟨⟨_, rfl⟩, ?_, ?_⟩
    · show ((sc.map AV.int)[sc.length]?.map _) = none
      rw [List.getElem?_eq_none (by simp)]; rfl
    · dsimp only
      unfold u2
      simp only [wSeq, wSkip, wSet, wRet, wIf, wCmp, wVal, wNotB, wAndB, wOrB, wVar, wLit, wOp1, wOp2, wIte, wCall, wMeth, wCons, wNil, wList, wTup, wSub2, wSlice3, wExpr, wLocCall, wAppAttr, wTrue, set_eq, vput_ro, vput_lookup, vlook_cons, String.reduceEq, if_true, if_false, ↓reduceIte, Option.some.injEq, exists_eq_left', AV.bool.injEq, wAdd_ii, wAdd_ss, wAdd_bb, wIAdd_ii, wSub_ii, wMul_ii, wMul_si, wFdiv_ii, wMod_ii, wPow_ii, wNeg_i, wLt_ii, wLe_ii, wLe_ss, wGt_ii, wGe_ii, wEq_ii, wEq_ss, wNe_ii, wNe_ss, wIn_ss, wItem_s, wCut_nn, wCut_ni, wCut_in, wCut_ii, wLen_s, wOrd_s, wChr_i, wMin_ii, wCount_ss, wLower_s, wUpper_s, wSplit_ss, wLines_s, wHex_si, truth_s, truth_b, iter_s, h2]
      refine ⟨by decide, ?_⟩
      obtain ⟨m0, m1⟩ := fmod_range (xs.getD (0 : Int).toNat 0) (n := 8) (by decide)
      refine item_int (xs := xs) (.inl rfl) (by decide) (by lia  ) (by lia  ) ?_
      simp only [wSeq, wSkip, wSet, wRet, wIf, wCmp, wVal, wNotB, wAndB, wOrB, wVar, wLit, wOp1, wOp2, wIte, wCall, wMeth, wCons, wNil, wList, wTup, wSub2, wSlice3, wExpr, wLocCall, wAppAttr, wTrue, set_eq, vput_ro, vput_lookup, vlook_cons, String.reduceEq, if_true, if_false, ↓reduceIte, Option.some.injEq, exists_eq_left', AV.bool.injEq, wAdd_ii, wAdd_ss, wAdd_bb, wIAdd_ii, wSub_ii, wMul_ii, wMul_si, wFdiv_ii, wMod_ii, wPow_ii, wNeg_i, wLt_ii, wLe_ii, wLe_ss, wGt_ii, wGe_ii, wEq_ii, wEq_ss, wNe_ii, wNe_ss, wIn_ss, wItem_s, wCut_nn, wCut_ni, wCut_in, wCut_ii, wLen_s, wOrd_s, wChr_i, wMin_ii, wCount_ss, wLower_s, wUpper_s, wSplit_ss, wLines_s, wHex_si, truth_s, truth_b, iter_s]
      refine ⟨by decide, ?_⟩
      refine item_int (xs := [4, 5, 6, 7, 8, 9, 10, 12]) (.inr rfl) m0 (by simpa using m1) (by decide) ?_
      unfold u3
      simp only [wSeq, wSkip, wSet, wRet, wIf, wCmp, wVal, wNotB, wAndB, wOrB, wVar, wLit, wOp1, wOp2, wIte, wCall, wMeth, wCons, wNil, wList, wTup, wSub2, wSlice3, wExpr, wLocCall, wAppAttr, wTrue, set_eq, vput_ro, vput_lookup, vlook_cons, String.reduceEq, if_true, if_false, ↓reduceIte, Option.some.injEq, exists_eq_left', AV.bool.injEq, wAdd_ii, wAdd_ss, wAdd_bb, wIAdd_ii, wSub_ii, wMul_ii, wMul_si, wFdiv_ii, wMod_ii, wPow_ii, wNeg_i, wLt_ii, wLe_ii, wLe_ss, wGt_ii, wGe_ii, wEq_ii, wEq_ss, wNe_ii, wNe_ss, wIn_ss, wItem_s, wCut_nn, wCut_ni, wCut_in, wCut_ii, wLen_s, wOrd_s, wChr_i, wMin_ii, wCount_ss, wLower_s, wUpper_s, wSplit_ss, wLines_s, wHex_si, truth_s, truth_b, iter_s, h2]
      refine item_int (xs := xs) (.inl rfl) (by decide) (by lia  ) (by lia  ) ?_
      simp only [wSeq, wSkip, wSet, wRet, wIf, wCmp, wVal, wNotB, wAndB, wOrB, wVar, wLit, wOp1, wOp2, wIte, wCall, wMeth, wCons, wNil, wList, wTup, wSub2, wSlice3, wExpr, wLocCall, wAppAttr, wTrue, set_eq, vput_ro, vput_lookup, vlook_cons, String.reduceEq, if_true, if_false, ↓reduceIte, Option.some.injEq, exists_eq_left', AV.bool.injEq, wAdd_ii, wAdd_ss, wAdd_bb, wIAdd_ii, wSub_ii, wMul_ii, wMul_si, wFdiv_ii, wMod_ii, wPow_ii, wNeg_i, wLt_ii, wLe_ii, wLe_ss, wGt_ii, wGe_ii, wEq_ii, wEq_ss, wNe_ii, wNe_ss, wIn_ss, wItem_s, wCut_nn, wCut_ni, wCut_in, wCut_ii, wLen_s, wOrd_s, wChr_i, wMin_ii, wCount_ss, wLower_s, wUpper_s, wSplit_ss, wLines_s, wHex_si, truth_s, truth_b, iter_s]
      refine ⟨by decide, by unfold smallI; decide, by decide, ?_⟩
      generalize hk : (Int.fmod (xs.getD (0 : Int).toNat 0) 8) = k at *
      generalize hsz : ([4, 5, 6, 7, 8, 9, 10, 12] : List Int).getD k.toNat 0 = sz
      have hn : ∃ n : Nat, n ∈ szs ∧ sz = (n : Int) := by
        have : k = 0 ∨ k = 1 ∨ k = 2 ∨ k = 3 ∨ k = 4 ∨ k = 5 ∨ k = 6 ∨ k = 7 := by lia  
        rcases this with rfl | rfl | rfl | rfl | rfl | rfl | rfl | rfl <;> (subst hsz; simp [szs])
      obtain ⟨n, hn, rfl⟩ := hn
      have fin : ∀ b, R ⟨(V.put "size" (.int (n : Int))).put "end" (.str (tx (end1 b))), [.list (sc.map .int), .list (xs.map .int), .tup [.int 4, .int 5, .int 6, .int 7, .int 8, .int 9, .int 10, .int 12]]⟩ K := fun b =>
        hK _ _ n b xs ⟨by simp only [vput_lookup, String.reduceEq, if_false, h1], by simp only [vput_lookup, String.reduceEq, if_false, h2], by simp only [vput_lookup, String.reduceEq, if_false, if_true], by simp only [vput_lookup, if_true], h3⟩ hn hx rfl rfl
      have eT := endA true
      have eF := endA false
      simp only [if_true, Bool.false_eq_true, if_false] at eT eF
      refine ⟨fun _ => ?_, fun _ => ?_⟩
      · rw [eT]; exact fin true
      · rw [eF]; exact fin false
  · rintro i σ hi ⟨V, xs, rfl, hx, h1, h2, h3⟩
    refine ⟨⟨_, rfl⟩, .pair (.int (i : Int)) (.int sc[i]), _, ?_, rfl, fun K hK' => ?_⟩
    · show ((sc.map AV.int)[i]?.map fun v => It.pair (.int i) v) = _
      simp [hi]
    · obtain ⟨m0, m1⟩ := fmod_range (i : Int) (n := 3) (by decide)
      simp only [wSeq, wSkip, wSet, wRet, wIf, wCmp, wVal, wNotB, wAndB, wOrB, wVar, wLit, wOp1, wOp2, wIte, wCall, wMeth, wCons, wNil, wList, wTup, wSub2, wSlice3, wExpr, wLocCall, wAppAttr, wTrue, set_eq, vput_ro, vput_lookup, vlook_cons, String.reduceEq, if_true, if_false, ↓reduceIte, Option.some.injEq, exists_eq_left', AV.bool.injEq, wAdd_ii, wAdd_ss, wAdd_bb, wIAdd_ii, wSub_ii, wMul_ii, wMul_si, wFdiv_ii, wMod_ii, wPow_ii, wNeg_i, wLt_ii, wLe_ii, wLe_ss, wGt_ii, wGe_ii, wEq_ii, wEq_ss, wNe_ii, wNe_ss, wIn_ss, wItem_s, wCut_nn, wCut_ni, wCut_in, wCut_ii, wLen_s, wOrd_s, wChr_i, wMin_ii, wCount_ss, wLower_s, wUpper_s, wSplit_ss, wLines_s, wHex_si, truth_s, truth_b, iter_s, wAugItem2, h2]
      refine ⟨⟨_, rfl⟩, by decide, item_int (xs := xs) (.inl rfl) m0 (by lia  ) (by lia  ) ?_⟩
      refine ⟨by decide, ?_⟩
      simp only [wSeq, wSkip, wSet, wRet, wIf, wCmp, wVal, wNotB, wAndB, wOrB, wVar, wLit, wOp1, wOp2, wIte, wCall, wMeth, wCons, wNil, wList, wTup, wSub2, wSlice3, wExpr, wLocCall, wAppAttr, wTrue, set_eq, vput_ro, vput_lookup, vlook_cons, String.reduceEq, if_true, if_false, ↓reduceIte, Option.some.injEq, exists_eq_left', AV.bool.injEq, wAdd_ii, wAdd_ss, wAdd_bb, wIAdd_ii, wSub_ii, wMul_ii, wMul_si, wFdiv_ii, wMod_ii, wPow_ii, wNeg_i, wLt_ii, wLe_ii, wLe_ss, wGt_ii, wGe_ii, wEq_ii, wEq_ss, wNe_ii, wNe_ss, wIn_ss, wItem_s, wCut_nn, wCut_ni, wCut_in, wCut_ii, wLen_s, wOrd_s, wChr_i, wMin_ii, wCount_ss, wLower_s, wUpper_s, wSplit_ss, wLines_s, wHex_si, truth_s, truth_b, iter_s]
      rw [wStore_ri]
      refine ⟨xs.map .int, rfl, by rw [vput_ro, vput_ro, h3]; decide, m0, by rw [List.length_map]; lia  , by rw [List.length_map]; lia  , ?_⟩
      refine hK' _ ⟨(V.put "place" (.int (i : Int))).put "number" (.int sc[i]), xs.set ((i : Int).fmod 3).toNat (xs.getD ((i : Int).fmod 3).toNat 0 + (sc[i]).fmod 1000000), ?_, by rw [List.length_set]; exact hx, by simp only [vput_lookup, String.reduceEq, if_false, h1], by simp only [vput_lookup, String.reduceEq, if_false, h2], h3⟩
      rw [List.map_set]; rfl
/-- the k-th octet of the ring -/
noncomputable def num (sc : List Int) (j : Nat) : Int := if j < sc.length then sc.getD j 0 else 0
noncomputable def ring0 (sc : List Int) (n : Nat) : List Nat := (List.range n).map fun j : Nat => (160 + (37 * (j : Int) + num sc j).fmod 96).toNat
theorem ring0_oct (sc : List Int) (n : Nat) : Oct (ring0 sc n) := fun c hc => by
  obtain ⟨j, _, rfl⟩ := List.mem_map.mp hc
  obtain ⟨m0, m1⟩ := fmod_range (37 * (j : Int) + num sc j) (n := 96) (by decide)
  lia  
theorem ring0_len (sc : List Int) (n : Nat) : (ring0 sc n).length = n := by simp [ring0]
theorem szs_range {n : Nat} (h : n ∈ szs) : 4 ≤ n ∧ n ≤ 12 := by revert n; decide
structure RV2 (V : Vs) (n : Nat) (b : Bool) (cs : List Nat) (u : Nat) : Prop where
  sv : SV V n b
  first : V.lookup "first" = some (.str (tx cs))
  units : V.lookup "units" = some (.ref u)
theorem invs_inner {V : Vs} {n r : Nat} {os : List AO} {K : Bool → List AO → Prop} (hn : n ∈ szs) (h1 : V.lookup "row" = some (.int (r : Int))) (h2 : V.lookup "size" = some (.int (n : Int))) (hK : ∀ ex, K (decide (invs n r ≠ [])) (os ++ ex)) :
    wCmp (wComp (wRange1 (wCons (wVar "size") wNil)) ["row", "size"] (.one "one") (wCmp (wOp2 (wOp2 (wVar "one") (wVar "row") wMul) (wVar "size") wMod) (wLit (.int 1)) wEq) (wVar "one")) (wList wNil) wNe ⟨V, os⟩ K := by
  obtain ⟨n4, n12⟩ := szs_range hn
  have cap : capV ["row", "size"] V os.length = ⟨[("row", .int (r : Int)), ("size", .int (n : Int))], os.length⟩ := by unfold capV; simp [h1, h2]
  unfold wCmp wOp2 wComp wRange1
  refine ⟨fun y hy => ?_, ?_⟩
  · simp at hy; rcases hy with rfl | rfl
    · rw [h1]; rfl
    · rw [h2]; rfl
  simp only [wSeq, wSkip, wSet, wRet, wIf, wCmp, wVal, wNotB, wAndB, wOrB, wVar, wLit, wOp1, wOp2, wIte, wCall, wMeth, wCons, wNil, wList, wTup, wSub2, wSlice3, wExpr, wLocCall, wAppAttr, wTrue, set_eq, vput_ro, vput_lookup, vlook_cons, String.reduceEq, if_true, if_false, ↓reduceIte, Option.some.injEq, exists_eq_left', AV.bool.injEq, wAdd_ii, wAdd_ss, wAdd_bb, wIAdd_ii, wSub_ii, wMul_ii, wMul_si, wFdiv_ii, wMod_ii, wPow_ii, wNeg_i, wLt_ii, wLe_ii, wLe_ss, wGt_ii, wGe_ii, wEq_ii, wEq_ss, wNe_ii, wNe_ss, wIn_ss, wItem_s, wCut_nn, wCut_ni, wCut_in, wCut_ii, wLen_s, wOrd_s, wChr_i, wMin_ii, wCount_ss, wLower_s, wUpper_s, wSplit_ss, wLines_s, wHex_si, truth_s, truth_b, iter_s, h2]
  refine ⟨_, rfl, by unfold fitR; lia  , ?_⟩
  rw [cap]
  have e : ((n : Int) - 0).toNat = n := by lia  
  rw [e]
  refine comp_range (t := fun i => decide (i * r % n = 1)) (f := fun i => .int (i : Int)) ?_ ?_ (by lia  ) ?_
  · intro j hj ex K' hK'
    simp only [wSeq, wSkip, wSet, wRet, wIf, wCmp, wVal, wNotB, wAndB, wOrB, wVar, wLit, wOp1, wOp2, wIte, wCall, wMeth, wCons, wNil, wList, wTup, wSub2, wSlice3, wExpr, wLocCall, wAppAttr, wTrue, set_eq, vput_ro, vput_lookup, vlook_cons, String.reduceEq, if_true, if_false, ↓reduceIte, Option.some.injEq, exists_eq_left', AV.bool.injEq, wAdd_ii, wAdd_ss, wAdd_bb, wIAdd_ii, wSub_ii, wMul_ii, wMul_si, wFdiv_ii, wMod_ii, wPow_ii, wNeg_i, wLt_ii, wLe_ii, wLe_ss, wGt_ii, wGe_ii, wEq_ii, wEq_ss, wNe_ii, wNe_ss, wIn_ss, wItem_s, wCut_nn, wCut_ni, wCut_in, wCut_ii, wLen_s, wOrd_s, wChr_i, wMin_ii, wCount_ss, wLower_s, wUpper_s, wSplit_ss, wLines_s, wHex_si, truth_s, truth_b, iter_s]
    have e1 : Int.fmod ((0 + (j : Int)) * (r : Int)) (n : Int) = ((j * r % n : Nat) : Int) := by
      rw [Int.zero_add, Int.fmod_eq_emod_of_nonneg _ (by lia  )]; norm_cast
    rw [e1]
    refine ⟨.inl (by unfold smallI; lia  ), by lia  , ?_⟩
    have e2 : decide (((j * r % n : Nat) : Int) = 1) = decide (j * r % n = 1) := by
      rw [decide_eq_decide]; lia  
    rw [e2]
    simpa using hK' []
  · intro j hj ht ex K' hK'
    simp only [wSeq, wSkip, wSet, wRet, wIf, wCmp, wVal, wNotB, wAndB, wOrB, wVar, wLit, wOp1, wOp2, wIte, wCall, wMeth, wCons, wNil, wList, wTup, wSub2, wSlice3, wExpr, wLocCall, wAppAttr, wTrue, set_eq, vput_ro, vput_lookup, vlook_cons, String.reduceEq, if_true, if_false, ↓reduceIte, Option.some.injEq, exists_eq_left', AV.bool.injEq, wAdd_ii, wAdd_ss, wAdd_bb, wIAdd_ii, wSub_ii, wMul_ii, wMul_si, wFdiv_ii, wMod_ii, wPow_ii, wNeg_i, wLt_ii, wLe_ii, wLe_ss, wGt_ii, wGe_ii, wEq_ii, wEq_ss, wNe_ii, wNe_ss, wIn_ss, wItem_s, wCut_nn, wCut_ni, wCut_in, wCut_ii, wLen_s, wOrd_s, wChr_i, wMin_ii, wCount_ss, wLower_s, wUpper_s, wSplit_ss, wLines_s, wHex_si, truth_s, truth_b, iter_s, Int.zero_add]
    simpa using hK' []
  · intro ex
    refine ⟨by decide, ?_⟩
    rw [wNe_rr]
    have hget : (os ++ ex ++ [AO.list (List.map (fun i : Nat => AV.int (i : Int)) ((List.range n).filter fun i => decide (i * r % n = 1)))] ++ [AO.list []])[(os ++ ex).length]? = some (.list (((invs n r).map fun i : Nat => (i : Int)).map .int)) := by
      rw [List.map_map]; simp [invs]
    refine ⟨_, ([] : List Int).map .int, _, hget, by simp, .ofI _ _, _, rfl, ?_⟩
    have e3 : (!decide ((invs n r).map (fun i : Nat => (i : Int)) = [])) = decide (invs n r ≠ []) := by
      rw [Bool.eq_iff_iff]; simp
    rw [e3]
    have := hK (ex ++ ([AO.list (List.map (fun i : Nat => AV.int (i : Int)) ((List.range n).filter fun i => decide (i * r % n = 1)))] ++ [AO.list []]))
    simpa [List.append_assoc] using this
theorem stB {sc : List Int} (hsc : sc.length ≤ 63) {V : Vs} {os : List AO} {n : Nat} {b : Bool} {xs : List Int} {R : WS} {K : VS} (hV : SV V n b) (hn : n ∈ szs) (hx : xs.length = 3) (h0 : os[0]? = some (.list (sc.map .int))) (h1 : os[1]? = some (.list (xs.map .int)))
    (hK : ∀ V' os' u, RV2 V' n b (ring0 sc n) u → 2 ≤ u → os'[1]? = some (.list (xs.map .int)) → os'[u]? = some (.list ((unitsL n).map fun r : Nat => .int (r : Int))) → V'.lookup "ring" = some (.str (tx (ring0 sc n))) → (∃ c, V'.lookup "rest" = some (.int c)) → R ⟨V', os'⟩ K) :
    wSeq u4 (wSeq u5 (wSeq u6 (wSeq u7 (wSeq u8 R)))) ⟨V, os⟩ K := by
  obtain ⟨n4, n12⟩ := szs_range hn
  have len2 : 2 ≤ os.length := by have := (List.getElem?_eq_some_iff.mp h1).1; lia  
  unfold u4 wComp wRange1
  simp only [wSeq, wSkip, wSet, wRet, wIf, wCmp, wVal, wNotB, wAndB, wOrB, wVar, wLit, wOp1, wOp2, wIte, wCall, wMeth, wCons, wNil, wList, wTup, wSub2, wSlice3, wExpr, wLocCall, wAppAttr, wTrue, set_eq, vput_ro, vput_lookup, vlook_cons, String.reduceEq, if_true, if_false, ↓reduceIte, Option.some.injEq, exists_eq_left', AV.bool.injEq, wAdd_ii, wAdd_ss, wAdd_bb, wIAdd_ii, wSub_ii, wMul_ii, wMul_si, wFdiv_ii, wMod_ii, wPow_ii, wNeg_i, wLt_ii, wLe_ii, wLe_ss, wGt_ii, wGe_ii, wEq_ii, wEq_ss, wNe_ii, wNe_ss, wIn_ss, wItem_s, wCut_nn, wCut_ni, wCut_in, wCut_ii, wLen_s, wOrd_s, wChr_i, wMin_ii, wCount_ss, wLower_s, wUpper_s, wSplit_ss, wLines_s, wHex_si, truth_s, truth_b, iter_s, hV.size]
  have e : ((n : Int) - 0).toNat = n := by lia  
  refine ⟨fun y hy => by simp at hy; subst hy; rw [hV.script]; rfl, _, rfl, by unfold fitR; lia  , ?_⟩
  rw [capV_one hV.script, e]
  refine comp_range (t := fun _ => true) (f := fun j => .int (num sc j)) ?_ ?_ (by lia  ) ?_
  · intro j hj ex K' hK'
    unfold wTrue
    simpa using hK' []
  · intro j hj _ ex K' hK'
    have hk' := hK' []
    rw [List.append_nil] at hk'
    have g0 : (os ++ ex)[0]? = some (.list (sc.map .int)) := get_app h0
    simp only [wSeq, wSkip, wSet, wRet, wIf, wCmp, wVal, wNotB, wAndB, wOrB, wVar, wLit, wOp1, wOp2, wIte, wCall, wMeth, wCons, wNil, wList, wTup, wSub2, wSlice3, wExpr, wLocCall, wAppAttr, wTrue, set_eq, vput_ro, vput_lookup, vlook_cons, String.reduceEq, if_true, if_false, ↓reduceIte, Option.some.injEq, exists_eq_left', AV.bool.injEq, wAdd_ii, wAdd_ss, wAdd_bb, wIAdd_ii, wSub_ii, wMul_ii, wMul_si, wFdiv_ii, wMod_ii, wPow_ii, wNeg_i, wLt_ii, wLe_ii, wLe_ss, wGt_ii, wGe_ii, wEq_ii, wEq_ss, wNe_ii, wNe_ss, wIn_ss, wItem_s, wCut_nn, wCut_ni, wCut_in, wCut_ii, wLen_s, wOrd_s, wChr_i, wMin_ii, wCount_ss, wLower_s, wUpper_s, wSplit_ss, wLines_s, wHex_si, truth_s, truth_b, iter_s, wIte, Int.zero_add]
    rw [wLen_r]
    refine ⟨_, g0, by rw [List.length_map]; lia  , ?_⟩
    rw [List.length_map]
    simp only [wSeq, wSkip, wSet, wRet, wIf, wCmp, wVal, wNotB, wAndB, wOrB, wVar, wLit, wOp1, wOp2, wIte, wCall, wMeth, wCons, wNil, wList, wTup, wSub2, wSlice3, wExpr, wLocCall, wAppAttr, wTrue, set_eq, vput_ro, vput_lookup, vlook_cons, String.reduceEq, if_true, if_false, ↓reduceIte, Option.some.injEq, exists_eq_left', AV.bool.injEq, wAdd_ii, wAdd_ss, wAdd_bb, wIAdd_ii, wSub_ii, wMul_ii, wMul_si, wFdiv_ii, wMod_ii, wPow_ii, wNeg_i, wLt_ii, wLe_ii, wLe_ss, wGt_ii, wGe_ii, wEq_ii, wEq_ss, wNe_ii, wNe_ss, wIn_ss, wItem_s, wCut_nn, wCut_ni, wCut_in, wCut_ii, wLen_s, wOrd_s, wChr_i, wMin_ii, wCount_ss, wLower_s, wUpper_s, wSplit_ss, wLines_s, wHex_si, truth_s, truth_b, iter_s]
    have dec : decide ((j : Int) < (sc.length : Int)) = decide (j < sc.length) := by rw [decide_eq_decide]; lia  
    rw [dec]
    refine ⟨fun h => ?_, fun h => ?_⟩
    · rw [decide_eq_true_iff] at h
      refine item_int (xs := sc) (.inl g0) (by lia  ) (by lia  ) (by lia  ) ?_
      have : num sc j = sc.getD (j : Int).toNat 0 := by unfold num; rw [if_pos h]; rfl
      rw [← this]; exact hk'
    · rw [decide_eq_false_iff_not] at h
      have : num sc j = 0 := by unfold num; rw [if_neg h]
      rw [this] at hk'; exact hk'
  intro ex
  -- first
  rw [List.filter_eq_self.mpr (fun _ _ => rfl)]
  unfold u5 wComp wEnum
  simp only [wSeq, wSkip, wSet, wRet, wIf, wCmp, wVal, wNotB, wAndB, wOrB, wVar, wLit, wOp1, wOp2, wIte, wCall, wMeth, wCons, wNil, wList, wTup, wSub2, wSlice3, wExpr, wLocCall, wAppAttr, wTrue, set_eq, vput_ro, vput_lookup, vlook_cons, String.reduceEq, if_true, if_false, ↓reduceIte, Option.some.injEq, exists_eq_left', AV.bool.injEq, wAdd_ii, wAdd_ss, wAdd_bb, wIAdd_ii, wSub_ii, wMul_ii, wMul_si, wFdiv_ii, wMod_ii, wPow_ii, wNeg_i, wLt_ii, wLe_ii, wLe_ss, wGt_ii, wGe_ii, wEq_ii, wEq_ss, wNe_ii, wNe_ss, wIn_ss, wItem_s, wCut_nn, wCut_ni, wCut_in, wCut_ii, wLen_s, wOrd_s, wChr_i, wMin_ii, wCount_ss, wLower_s, wUpper_s, wSplit_ss, wLines_s, wHex_si, truth_s, truth_b, iter_s, emS, isS]
  have hk : (os ++ ex ++ [AO.list ((List.range n).map fun j => AV.int (num sc j))])[(os ++ ex).length]? = some (.list ((List.range n).map fun j => AV.int (num sc j))) := by simp
  refine ⟨⟨_, rfl⟩, fun y hy => by simp at hy, (os ++ ex).length, _, rfl, hk, ?_⟩
  rw [capV_nil]
  have lenN : ((List.range n).map fun j => AV.int (num sc j)).length = n := by simp
  refine comp_enum (by decide) hk (t := fun _ => true) (f := fun j => .str (tx [(160 + (37 * (j : Int) + num sc j).fmod 96).toNat])) ?_ ?_ (by rw [lenN]; lia  ) ?_
  · intro j hj ex2 K' hK'
    unfold wTrue
    simpa using hK' []
  · intro j hj _ ex2 K' hK'
    have hk' := hK' []
    rw [List.append_nil] at hk'
    obtain ⟨m0, m1⟩ := fmod_range (37 * (j : Int) + num sc j) (n := 96) (by decide)
    have ej : ((List.range n).map fun j => AV.int (num sc j))[j] = .int (num sc j) := by simp
    rw [ej]
    simp only [wSeq, wSkip, wSet, wRet, wIf, wCmp, wVal, wNotB, wAndB, wOrB, wVar, wLit, wOp1, wOp2, wIte, wCall, wMeth, wCons, wNil, wList, wTup, wSub2, wSlice3, wExpr, wLocCall, wAppAttr, wTrue, set_eq, vput_ro, vput_lookup, vlook_cons, String.reduceEq, if_true, if_false, ↓reduceIte, Option.some.injEq, exists_eq_left', AV.bool.injEq, wAdd_ii, wAdd_ss, wAdd_bb, wIAdd_ii, wSub_ii, wMul_ii, wMul_si, wFdiv_ii, wMod_ii, wPow_ii, wNeg_i, wLt_ii, wLe_ii, wLe_ss, wGt_ii, wGe_ii, wEq_ii, wEq_ss, wNe_ii, wNe_ss, wIn_ss, wItem_s, wCut_nn, wCut_ni, wCut_in, wCut_ii, wLen_s, wOrd_s, wChr_i, wMin_ii, wCount_ss, wLower_s, wUpper_s, wSplit_ss, wLines_s, wHex_si, truth_s, truth_b, iter_s]
    exact ⟨.inl (by unfold smallI; decide), by decide, by lia  , by lia  , hk'⟩
  intro ex2
  rw [lenN, List.filter_eq_self.mpr (fun _ _ => rfl)]
  refine wJoin_k ((ring0 sc n).map fun c => [c]) (by simp [ring0]) ?_ ?_
  · have := sum_le (ps := (ring0 sc n).map fun c => [c]) (b := 1) (fun p hp => by obtain ⟨c, _, rfl⟩ := List.mem_map.mp hp; exact Nat.le_refl _)
    rw [List.length_map, ring0_len] at this
    simp only [List.length_nil, Nat.mul_zero, Nat.add_zero]; lia  
  rw [joinL_nil, flat1]
  -- units
  generalize hO : os ++ ex ++ [AO.list ((List.range n).map fun j => AV.int (num sc j))] ++ ex2 ++ [AO.list ((List.range n).map fun j : Nat => AV.str (tx [(160 + (37 * (j : Int) + num sc j).fmod 96).toNat]))] = O
  have o1 : O[1]? = some (.list (xs.map .int)) := by rw [← hO]; exact get_app (get_app (get_app (get_app h1)))
  have oLen : 2 ≤ O.length := by have := (List.getElem?_eq_some_iff.mp o1).1; lia  
  unfold u6 wComp wRange2
  simp only [wSeq, wSkip, wSet, wRet, wIf, wCmp, wVal, wNotB, wAndB, wOrB, wVar, wLit, wOp1, wOp2, wIte, wCall, wMeth, wCons, wNil, wList, wTup, wSub2, wSlice3, wExpr, wLocCall, wAppAttr, wTrue, set_eq, vput_ro, vput_lookup, vlook_cons, String.reduceEq, if_true, if_false, ↓reduceIte, Option.some.injEq, exists_eq_left', AV.bool.injEq, wAdd_ii, wAdd_ss, wAdd_bb, wIAdd_ii, wSub_ii, wMul_ii, wMul_si, wFdiv_ii, wMod_ii, wPow_ii, wNeg_i, wLt_ii, wLe_ii, wLe_ss, wGt_ii, wGe_ii, wEq_ii, wEq_ss, wNe_ii, wNe_ss, wIn_ss, wItem_s, wCut_nn, wCut_ni, wCut_in, wCut_ii, wLen_s, wOrd_s, wChr_i, wMin_ii, wCount_ss, wLower_s, wUpper_s, wSplit_ss, wLines_s, wHex_si, truth_s, truth_b, iter_s, hV.size]
  refine ⟨fun y hy => by simp at hy; subst hy; simp only [vput_lookup, String.reduceEq, if_false, hV.size]; rfl, _, _, rfl, by unfold fitR; decide, by unfold fitR; lia  , ?_⟩
  rw [capV_one (a := .int (n : Int)) (by simp only [vput_lookup, String.reduceEq, if_false, hV.size])]
  have e2 : ((n : Int) - 2).toNat = n - 2 := by lia  
  rw [e2]
  have e2j : ∀ j : Nat, (2 : Int) + (j : Int) = ((j + 2 : Nat) : Int) := fun j => by lia  
  refine comp_range (t := fun j => decide (invs n (j + 2) ≠ [])) (f := fun j => .int ((j + 2 : Nat) : Int)) ?_ ?_ (by lia  ) ?_
  · intro j hj ex3 K' hK'
    rw [e2j]
    have := invs_inner (V := ({ l := [("size", AV.int (n : Int))], ro := O.length } : Vs).put "row" (.int ((j + 2 : Nat) : Int))) (n := n) (r := j + 2) (os := O ++ ex3) (K := K') hn (by rw [vput_lookup, if_pos rfl]) (by simp only [vput_lookup, vlook_cons, String.reduceEq, if_false, if_true]) hK'
    unfold wCmp wOp2 at this
    exact this
  · intro j hj _ ex3 K' hK'
    rw [e2j]
    simp only [wSeq, wSkip, wSet, wRet, wIf, wCmp, wVal, wNotB, wAndB, wOrB, wVar, wLit, wOp1, wOp2, wIte, wCall, wMeth, wCons, wNil, wList, wTup, wSub2, wSlice3, wExpr, wLocCall, wAppAttr, wTrue, set_eq, vput_ro, vput_lookup, vlook_cons, String.reduceEq, if_true, if_false, ↓reduceIte, Option.some.injEq, exists_eq_left', AV.bool.injEq, wAdd_ii, wAdd_ss, wAdd_bb, wIAdd_ii, wSub_ii, wMul_ii, wMul_si, wFdiv_ii, wMod_ii, wPow_ii, wNeg_i, wLt_ii, wLe_ii, wLe_ss, wGt_ii, wGe_ii, wEq_ii, wEq_ss, wNe_ii, wNe_ss, wIn_ss, wItem_s, wCut_nn, wCut_ni, wCut_in, wCut_ii, wLen_s, wOrd_s, wChr_i, wMin_ii, wCount_ss, wLower_s, wUpper_s, wSplit_ss, wLines_s, wHex_si, truth_s, truth_b, iter_s]
    simpa using hK' []
  intro ex3
  have eu : ((List.range (n - 2)).filter fun j => decide (invs n (j + 2) ≠ [])).map (fun j : Nat => AV.int ((j + 2 : Nat) : Int)) = (unitsL n).map fun r : Nat => AV.int (r : Int) := by
    unfold unitsL
    rw [List.filter_map, List.map_map]
    rfl
  rw [eu]
  unfold u7 u8
  simp only [wSeq, wSkip, wSet, wRet, wIf, wCmp, wVal, wNotB, wAndB, wOrB, wVar, wLit, wOp1, wOp2, wIte, wCall, wMeth, wCons, wNil, wList, wTup, wSub2, wSlice3, wExpr, wLocCall, wAppAttr, wTrue, set_eq, vput_ro, vput_lookup, vlook_cons, String.reduceEq, if_true, if_false, ↓reduceIte, Option.some.injEq, exists_eq_left', AV.bool.injEq, wAdd_ii, wAdd_ss, wAdd_bb, wIAdd_ii, wSub_ii, wMul_ii, wMul_si, wFdiv_ii, wMod_ii, wPow_ii, wNeg_i, wLt_ii, wLe_ii, wLe_ss, wGt_ii, wGe_ii, wEq_ii, wEq_ss, wNe_ii, wNe_ss, wIn_ss, wItem_s, wCut_nn, wCut_ni, wCut_in, wCut_ii, wLen_s, wOrd_s, wChr_i, wMin_ii, wCount_ss, wLower_s, wUpper_s, wSplit_ss, wLines_s, wHex_si, truth_s, truth_b, iter_s, hV.cells]
  refine item_int (xs := xs) (.inl (get_app (get_app o1))) (by decide) (by lia  ) (by lia  ) ?_
  refine hK _ _ (O ++ ex3).length ⟨⟨?_, ?_, ?_, ?_, ?_⟩, ?_, ?_⟩ (by rw [List.length_append]; lia  ) (get_app (get_app o1)) (by simp) ?_ ⟨xs.getD (Int.toNat 2) 0, ?_⟩
  all_goals first | rfl | (simp only [vput_lookup, String.reduceEq, if_false, if_true, vput_ro, hV.script, hV.cells, hV.size, hV.en, hV.ro])
theorem map_erase {α β : Type} (f : α → β) : ∀ (l : List α) (j : Nat), (l.map f).eraseIdx j = (l.eraseIdx j).map f
  | [], _ => rfl
  | _ :: _, 0 => rfl
  | a :: r, j + 1 => by show f a :: (r.map f).eraseIdx j = f a :: (r.eraseIdx j).map f; rw [map_erase f r j]
theorem SV.put {V : Vs} {n : Nat} {b : Bool} (h : SV V n b) {x : String} {a : AV} (hx : ["script", "cells", "size", "end"].contains x = false) : SV (V.put x a) n b := by
  have ne : ∀ y, y ∈ ["script", "cells", "size", "end"] → (V.put x a).lookup y = V.lookup y := fun y hy => by
    rw [vput_lookup, if_neg]
    rintro rfl
    rw [List.contains_eq_mem] at hx
    simp [hy] at hx
  exact ⟨(ne _ (by simp)).trans h.script, (ne _ (by simp)).trans h.cells, (ne _ (by simp)).trans h.size, (ne _ (by simp)).trans h.en, h.ro⟩
theorem RV2.put {V : Vs} {n : Nat} {b : Bool} {cs : List Nat} {u : Nat} (h : RV2 V n b cs u) {x : String} {a : AV} (hx : ["script", "cells", "size", "end", "first", "units"].contains x = false) : RV2 (V.put x a) n b cs u := by
  have hm : ∀ y ∈ ["script", "cells", "size", "end", "first", "units"], ¬ y = x := fun y hy e => by
    subst e
    rw [List.contains_eq_mem] at hx
    simp [hy] at hx
  refine ⟨h.sv.put ?_, by rw [vput_lookup, if_neg (hm _ (by simp))]; exact h.first, by rw [vput_lookup, if_neg (hm _ (by simp))]; exact h.units⟩
  rw [List.contains_eq_mem, decide_eq_false_iff_not]
  intro q
  exact hm x (List.mem_append_left ["first", "units"] q) rfl
noncomputable def TurnI (n : Nat) (b : Bool) (cs : List Nat) (u : Nat) (xs : List Int) (i : Nat) (σ : St) : Prop :=
  ∃ (us : List Nat) (p : Nat), RV2 σ.vars n b cs u ∧ σ.objs[1]? = some (.list (xs.map .int)) ∧ σ.objs[u]? = some (.list (us.map fun r : Nat => .int (r : Int))) ∧ us.length + i = (unitsL n).length ∧ (∀ r ∈ us, 2 ≤ r ∧ r < n) ∧ (p * prodL us) % n = prodL (unitsL n) % n ∧
    σ.vars.lookup "ring" = some (.str (tx (perm cs p))) ∧ ∃ c, σ.vars.lookup "rest" = some (.int c)
noncomputable def v0 : WS := (wSet "left" (wCall (wCons (wVar "units") wNil) wLen))
noncomputable def v1 : WS := (wSet "row" (wMethV (wVar "units") (wCons (wOp2 (wVar "rest") (wVar "left") wMod) wNil) wPop))
noncomputable def v2 : WS := (wSet "rest" (wOp2 (wVar "rest") (wVar "left") wFdiv))
noncomputable def v3 (c : List AV → List AO → VP → Prop) : WS := (wSet "ring" (wCall (wCons (wVar "ring") (wCons (wVar "row") (wCons (wOp2 (wOp2 (wSub2 (wVar "cells") (wLit (.int 1))) (wVar "turn") wAdd) (wLit (.int 3)) wMod) (wCons (wVar "end") (wCons (wOp2 (wOp2 (wOp2 (wOp2 (wSub2 (wVar "cells") (wLit (.int 1))) (wLit (.int 3)) wFdiv) (wVar "turn") wAdd) (wLit (.int 2)) wMod) (wLit (.int 1)) wEq) wNil))))) c))
theorem u9_eq (c : List AV → List AO → VP → Prop) : u9 c = (wFor (wRange1 (wCons (wCall (wCons (wVar "units") wNil) wLen) wNil)) (.one "turn") (wSeq v0 (wSeq v1 (wSeq v2 (wSeq (v3 c) wSkip))))) := rfl
theorem tv012 {V : Vs} {os : List AO} {us : List Nat} {u : Nat} {c : Int} {R : WS} {K : VS} (hU : V.lookup "units" = some (.ref u)) (hr : V.lookup "rest" = some (.int c)) (ho : os[u]? = some (.list (us.map fun r : Nat => .int (r : Int)))) (h0 : 0 < us.length) (hl : us.length ≤ 12) (hro : V.ro ≤ u)
    (hK : ∀ (j : Nat) (hj : j < us.length), R ⟨((V.put "left" (.int (us.length : Int))).put "row" (.int ((us[j] : Nat) : Int))).put "rest" (.int (c.fdiv us.length)), os.set u (.list ((us.eraseIdx j).map fun r : Nat => .int (r : Int)))⟩ K) : wSeq v0 (wSeq v1 (wSeq v2 R)) ⟨V, os⟩ K := by
  obtain ⟨m0, m1⟩ := fmod_range c (n := (us.length : Int)) (by lia  )
  have hj : (c.fmod us.length).toNat < us.length := by lia  
  refine ⟨_, hU, ?_⟩
  unfold wNil
  dsimp only
  rw [wLen_r]
  refine ⟨_, ho, by rw [List.length_map]; lia  , ?_⟩
  rw [List.length_map]
  refine ⟨_, by rw [set_eq]; exact vneq hU (by decide), ⟨_, _, rfl, ho⟩, _, vneq hr (by decide), _, veq, ?_⟩
  dsimp only
  rw [wMod_ii]
  refine ⟨by lia  , ?_⟩
  unfold wNil
  dsimp only
  rw [wPop_ri]
  refine ⟨_, (c.fmod us.length).toNat, .int ((us[(c.fmod us.length).toNat] : Nat) : Int), ho, hro, by rw [List.length_map]; lia  , StrLaws.seqIndex_nonneg m0 (by rw [List.length_map]; exact m1), by simp [hj], ?_⟩
  refine ⟨_, vneq (vneq hr (by decide)) (by decide), _, vneq veq (by decide), ?_⟩
  dsimp only
  rw [wFdiv_ii, map_erase]
  exact ⟨by lia  , by unfold smallI; lia  , hK _ hj⟩
theorem tv3 {V : Vs} {os : List AO} {xs : List Int} {cs : List Nat} {n p r : Nat} {b : Bool} {i : Nat} {K : VS} (hV : V.lookup "cells" = some (.ref 1)) (hE : V.lookup "end" = some (.str (tx (end1 b)))) (hx : xs.length = 3) (h1 : os[1]? = some (.list (xs.map .int))) (ho : Oct cs) (h4 : 4 ≤ cs.length) (h12 : cs.length ≤ 12) (hR : V.lookup "ring" = some (.str (tx cs))) (hr : V.lookup "row" = some (.int (r : Int))) (ht : V.lookup "turn" = some (.int (0 + (i : Int)))) (r2 : 2 ≤ r) (r12 : r ≤ 12)
    (hK : ∀ ex, K .next ⟨V.put "ring" (.str (tx (perm cs r))), os ++ ex⟩) : v3 c_dealt ⟨V, os⟩ K := by
  refine ⟨_, hR, _, hr, _, hV, ?_⟩
  unfold wLit
  dsimp only
  refine item_int (xs := xs) (i := 1) (.inl h1) (by decide) (by lia  ) (by lia  ) ?_
  refine ⟨_, ht, by decide, _, hE, _, hV, ?_⟩
  dsimp only
  refine item_int (xs := xs) (i := 1) (.inl h1) (by decide) (by lia  ) (by lia  ) ?_
  refine ⟨by decide, by unfold smallI; decide, _, ht, by decide, ?_⟩
  unfold wNil
  dsimp only
  rw [wEq_ii]
  obtain ⟨s0, s1⟩ := fmod_range (xs.getD (1 : Int).toNat 0 + (0 + (i : Int))) (n := 3) (by decide)
  generalize Int.fmod (xs.getD (1 : Int).toNat 0 + (0 + (i : Int))) 3 = sp at *
  obtain ⟨spn, rfl⟩ := Int.eq_ofNat_of_zero_le s0
  exact c_dealt_perm ho h4 h12 r2 r12 (by lia  ) hK
theorem stC {V : Vs} {os : List AO} {n : Nat} {b : Bool} {xs : List Int} {cs : List Nat} {u : Nat} {K : VS} (hn : n ∈ szs) (hx : xs.length = 3) (ho : Oct cs) (hl : cs.length = n) (hV : RV2 V n b cs u) (hu : 2 ≤ u) (h1 : os[1]? = some (.list (xs.map .int))) (h2 : os[u]? = some (.list ((unitsL n).map fun r : Nat => .int (r : Int))))
    (hr : V.lookup "ring" = some (.str (tx cs))) (hc : ∃ c, V.lookup "rest" = some (.int c)) (hK : ∀ σ, TurnI n b cs u xs (unitsL n).length σ → K .next σ) : u9 c_dealt ⟨V, os⟩ K := by
  obtain ⟨n4, n12⟩ := szs_range hn
  have ulen : (unitsL n).length ≤ 12 := by
    have : (unitsL n).length ≤ ((List.range (n - 2)).map (· + 2)).length := List.length_filter_le _ _
    rw [List.length_map, List.length_range] at this
    lia  
  rw [u9_eq]
  refine ⟨_, hV.units, ?_⟩
  unfold wNil
  dsimp only
  rw [wLen_r]
  refine ⟨_, h2, by rw [List.length_map]; lia  , _, rfl, by unfold fitR; rw [List.length_map]; lia  , ?_⟩
  rw [List.length_map, Int.sub_zero, Int.toNat_natCast]
  refine for_run (n := (unitsL n).length) (TurnI n b cs u xs) ?_ ?_ ?_
  · intro σ hI
    refine ⟨trivial, ?_, hK σ hI⟩
    show (if (unitsL n).length < (unitsL n).length then _ else none) = none
    rw [if_neg (Nat.lt_irrefl _)]
  · rintro i ⟨V1, o1⟩ hi ⟨us, p, hV1, c1, cu, hlen, hus, hp, hring, c, hrest⟩
    refine ⟨trivial, .av (.int (0 + (i : Int))), ⟨V1.put "turn" (.int (0 + (i : Int))), o1⟩, ?_, rfl, fun K' hK' => ?_⟩
    · show (if i < (unitsL n).length then some (It.av (.int (0 + (i : Int)))) else none) = _
      rw [if_pos hi]
    · refine tv012 (us := us) (vneq hV1.units (by decide)) (vneq hrest (by decide)) cu (by lia  ) (by lia  ) (Nat.le_trans (Nat.le_of_eq hV1.sv.ro) (Nat.le_trans (by decide) hu)) fun j hj => ?_
      have row := hus _ (List.getElem_mem hj)
      have c1' : (o1.set u (.list ((us.eraseIdx j).map fun r : Nat => AV.int (r : Int))))[1]? = some (.list (xs.map .int)) := by rw [List.getElem?_set_ne (by lia  )]; exact c1
      refine tv3 (cs := perm cs p) (xs := xs) (b := b) (r := us[j]) (n := n) (p := p) (i := i) (vneq (vneq (vneq (vneq hV1.sv.cells (by decide)) (by decide)) (by decide)) (by decide)) (vneq (vneq (vneq (vneq hV1.sv.en (by decide)) (by decide)) (by decide)) (by decide)) hx c1' (perm_oct ho p) (by rw [perm_len]; lia  ) (by rw [perm_len]; lia  ) (vneq (vneq (vneq (vneq hring (by decide)) (by decide)) (by decide)) (by decide)) (vneq veq (by decide)) (vneq (vneq (vneq veq (by decide)) (by decide)) (by decide)) row.1 (by lia  ) fun ex => ?_
      rw [perm_perm]
      refine hK' _ ⟨us.eraseIdx j, p * us[j], ((((hV1.put (by decide)).put (by decide)).put (by decide)).put (by decide)).put (by decide), get_app c1', get_app (by rw [List.getElem?_set_self (List.getElem?_eq_some_iff.mp cu).1]), ?_, fun r hr => hus r (List.mem_of_mem_eraseIdx hr), ?_, veq, ⟨c.fdiv us.length, vneq veq (by decide)⟩⟩
      · rw [List.length_eraseIdx_of_lt hj]; lia  
      · rw [Nat.mul_assoc, ← prod_erase hj]; exact hp
  · exact ⟨unitsL n, 1, hV, h1, h2, by lia  , fun r hr => units_mem hr, by rw [Nat.one_mul], by rw [perm_one]; exact hr, hc⟩
theorem stD {V : Vs} {os : List AO} {n : Nat} {b : Bool} {xs : List Int} {cs : List Nat} {u : Nat} {Q : VP} (hn : n ∈ szs) (hl : cs.length = n) (hI : TurnI n b cs u xs (unitsL n).length ⟨V, os⟩) (hQ : ∀ ex, Q (.bool true) ex) :
    wSeq u10 (wSeq u11 (wSeq u12 wSkip)) ⟨V, os⟩ fun fl σ' => Q (retOf fl) σ'.objs := by
  obtain ⟨n4, n12⟩ := szs_range hn
  obtain ⟨us, p, hV, c1, cu, hlen, hus, hp, hring, c, hrest⟩ := hI
  replace hV : RV2 V n b cs u := hV
  replace hring : V.lookup "ring" = some (.str (tx (perm cs p))) := hring
  have us0 : us = [] := List.length_eq_zero_iff.mp (by lia  )
  subst us0
  have hp' : p % n = if 2 < (alone n).length then 1 else n - 1 := by
    rw [← wilson n hn, ← hp]
    show p % n = p * 1 % n
    rw [Nat.mul_one]
  have hperm : perm cs p = perm cs (p % n) := by rw [← hl, perm_mod]
  unfold u10 wComp wRange1
  simp only [wSeq, wSkip, wSet, wRet, wIf, wCmp, wVal, wNotB, wAndB, wOrB, wVar, wLit, wOp1, wOp2, wIte, wCall, wMeth, wCons, wNil, wList, wTup, wSub2, wSlice3, wExpr, wLocCall, wAppAttr, wTrue, set_eq, vput_ro, vput_lookup, vlook_cons, String.reduceEq, if_true, if_false, ↓reduceIte, Option.some.injEq, exists_eq_left', AV.bool.injEq, wAdd_ii, wAdd_ss, wAdd_bb, wIAdd_ii, wSub_ii, wMul_ii, wMul_si, wFdiv_ii, wMod_ii, wPow_ii, wNeg_i, wLt_ii, wLe_ii, wLe_ss, wGt_ii, wGe_ii, wEq_ii, wEq_ss, wNe_ii, wNe_ss, wIn_ss, wItem_s, wCut_nn, wCut_ni, wCut_in, wCut_ii, wLen_s, wOrd_s, wChr_i, wMin_ii, wCount_ss, wLower_s, wUpper_s, wSplit_ss, wLines_s, wHex_si, truth_s, truth_b, iter_s, hV.sv.size]
  have e : ((n : Int) - 0).toNat = n := by lia  
  refine ⟨fun y hy => by simp at hy; subst hy; rw [hV.sv.size]; rfl, _, rfl, by unfold fitR; lia  , ?_⟩
  rw [capV_one hV.sv.size, e]
  refine comp_range (t := fun i => decide (i * i % n = 1)) (f := fun i => .int (i : Int)) ?_ ?_ (by lia  ) ?_
  · intro j hj ex K' hK'
    simp only [wSeq, wSkip, wSet, wRet, wIf, wCmp, wVal, wNotB, wAndB, wOrB, wVar, wLit, wOp1, wOp2, wIte, wCall, wMeth, wCons, wNil, wList, wTup, wSub2, wSlice3, wExpr, wLocCall, wAppAttr, wTrue, set_eq, vput_ro, vput_lookup, vlook_cons, String.reduceEq, if_true, if_false, ↓reduceIte, Option.some.injEq, exists_eq_left', AV.bool.injEq, wAdd_ii, wAdd_ss, wAdd_bb, wIAdd_ii, wSub_ii, wMul_ii, wMul_si, wFdiv_ii, wMod_ii, wPow_ii, wNeg_i, wLt_ii, wLe_ii, wLe_ss, wGt_ii, wGe_ii, wEq_ii, wEq_ss, wNe_ii, wNe_ss, wIn_ss, wItem_s, wCut_nn, wCut_ni, wCut_in, wCut_ii, wLen_s, wOrd_s, wChr_i, wMin_ii, wCount_ss, wLower_s, wUpper_s, wSplit_ss, wLines_s, wHex_si, truth_s, truth_b, iter_s]
    have e1 : Int.fmod ((0 + (j : Int)) * (0 + (j : Int))) (n : Int) = ((j * j % n : Nat) : Int) := by
      rw [Int.zero_add, Int.fmod_eq_emod_of_nonneg _ (by lia  )]; norm_cast
    rw [e1]
    refine ⟨.inl (by unfold smallI; lia  ), by lia  , ?_⟩
    have e2 : decide (((j * j % n : Nat) : Int) = 1) = decide (j * j % n = 1) := by
      rw [decide_eq_decide]; lia  
    rw [e2]
    simpa using hK' []
  · intro j hj ht ex K' hK'
    simp only [wSeq, wSkip, wSet, wRet, wIf, wCmp, wVal, wNotB, wAndB, wOrB, wVar, wLit, wOp1, wOp2, wIte, wCall, wMeth, wCons, wNil, wList, wTup, wSub2, wSlice3, wExpr, wLocCall, wAppAttr, wTrue, set_eq, vput_ro, vput_lookup, vlook_cons, String.reduceEq, if_true, if_false, ↓reduceIte, Option.some.injEq, exists_eq_left', AV.bool.injEq, wAdd_ii, wAdd_ss, wAdd_bb, wIAdd_ii, wSub_ii, wMul_ii, wMul_si, wFdiv_ii, wMod_ii, wPow_ii, wNeg_i, wLt_ii, wLe_ii, wLe_ss, wGt_ii, wGe_ii, wEq_ii, wEq_ss, wNe_ii, wNe_ss, wIn_ss, wItem_s, wCut_nn, wCut_ni, wCut_in, wCut_ii, wLen_s, wOrd_s, wChr_i, wMin_ii, wCount_ss, wLower_s, wUpper_s, wSplit_ss, wLines_s, wHex_si, truth_s, truth_b, iter_s, Int.zero_add]
    simpa using hK' []
  intro ex
  have ha : (List.range n).filter (fun i => decide (i * i % n = 1)) = alone n := rfl
  rw [ha]
  have al : (alone n).length ≤ n := by
    have := List.length_filter_le (fun i => decide (i * i % n = 1)) (List.range n)
    rw [List.length_range] at this
    exact this
  unfold u11
  simp only [wSeq, wSkip, wSet, wRet, wIf, wCmp, wVal, wNotB, wAndB, wOrB, wVar, wLit, wOp1, wOp2, wIte, wCall, wMeth, wCons, wNil, wList, wTup, wSub2, wSlice3, wExpr, wLocCall, wAppAttr, wTrue, set_eq, vput_ro, vput_lookup, vlook_cons, String.reduceEq, if_true, if_false, ↓reduceIte, Option.some.injEq, exists_eq_left', AV.bool.injEq, wAdd_ii, wAdd_ss, wAdd_bb, wIAdd_ii, wSub_ii, wMul_ii, wMul_si, wFdiv_ii, wMod_ii, wPow_ii, wNeg_i, wLt_ii, wLe_ii, wLe_ss, wGt_ii, wGe_ii, wEq_ii, wEq_ss, wNe_ii, wNe_ss, wIn_ss, wItem_s, wCut_nn, wCut_ni, wCut_in, wCut_ii, wLen_s, wOrd_s, wChr_i, wMin_ii, wCount_ss, wLower_s, wUpper_s, wSplit_ss, wLines_s, wHex_si, truth_s, truth_b, iter_s]
  rw [wLen_r]
  refine ⟨(alone n).map fun i : Nat => AV.int (i : Int), by simp, by rw [List.length_map]; lia  , ?_⟩
  rw [List.length_map]
  simp only [wSeq, wSkip, wSet, wRet, wIf, wCmp, wVal, wNotB, wAndB, wOrB, wVar, wLit, wOp1, wOp2, wIte, wCall, wMeth, wCons, wNil, wList, wTup, wSub2, wSlice3, wExpr, wLocCall, wAppAttr, wTrue, set_eq, vput_ro, vput_lookup, vlook_cons, String.reduceEq, if_true, if_false, ↓reduceIte, Option.some.injEq, exists_eq_left', AV.bool.injEq, wAdd_ii, wAdd_ss, wAdd_bb, wIAdd_ii, wSub_ii, wMul_ii, wMul_si, wFdiv_ii, wMod_ii, wPow_ii, wNeg_i, wLt_ii, wLe_ii, wLe_ss, wGt_ii, wGe_ii, wEq_ii, wEq_ss, wNe_ii, wNe_ss, wIn_ss, wItem_s, wCut_nn, wCut_ni, wCut_in, wCut_ii, wLen_s, wOrd_s, wChr_i, wMin_ii, wCount_ss, wLower_s, wUpper_s, wSplit_ss, wLines_s, wHex_si, truth_s, truth_b, iter_s]
  have dec : decide (((alone n).length : Int) > 2) = decide (2 < (alone n).length) := by rw [decide_eq_decide]; lia  
  rw [dec]
  refine ⟨fun h => ?_, fun h => ?_⟩
  · rw [decide_eq_true_iff] at h
    rw [if_pos h] at hp'
    rw [hperm, hp', perm_one] at hring
    simp only [wSeq, wSkip, wSet, wRet, wIf, wCmp, wVal, wNotB, wAndB, wOrB, wVar, wLit, wOp1, wOp2, wIte, wCall, wMeth, wCons, wNil, wList, wTup, wSub2, wSlice3, wExpr, wLocCall, wAppAttr, wTrue, set_eq, vput_ro, vput_lookup, vlook_cons, String.reduceEq, if_true, if_false, ↓reduceIte, Option.some.injEq, exists_eq_left', AV.bool.injEq, wAdd_ii, wAdd_ss, wAdd_bb, wIAdd_ii, wSub_ii, wMul_ii, wMul_si, wFdiv_ii, wMod_ii, wPow_ii, wNeg_i, wLt_ii, wLe_ii, wLe_ss, wGt_ii, wGe_ii, wEq_ii, wEq_ss, wNe_ii, wNe_ss, wIn_ss, wItem_s, wCut_nn, wCut_ni, wCut_in, wCut_ii, wLen_s, wOrd_s, wChr_i, wMin_ii, wCount_ss, wLower_s, wUpper_s, wSplit_ss, wLines_s, wHex_si, truth_s, truth_b, iter_s, hring, hV.first, decide_true]
    exact hQ _
  · rw [decide_eq_false_iff_not] at h
    rw [if_neg h] at hp'
    rw [hperm, hp'] at hring
    unfold u12 wComp wRange1
    simp only [wSeq, wSkip, wSet, wRet, wIf, wCmp, wVal, wNotB, wAndB, wOrB, wVar, wLit, wOp1, wOp2, wIte, wCall, wMeth, wCons, wNil, wList, wTup, wSub2, wSlice3, wExpr, wLocCall, wAppAttr, wTrue, set_eq, vput_ro, vput_lookup, vlook_cons, String.reduceEq, if_true, if_false, ↓reduceIte, Option.some.injEq, exists_eq_left', AV.bool.injEq, wAdd_ii, wAdd_ss, wAdd_bb, wIAdd_ii, wSub_ii, wMul_ii, wMul_si, wFdiv_ii, wMod_ii, wPow_ii, wNeg_i, wLt_ii, wLe_ii, wLe_ss, wGt_ii, wGe_ii, wEq_ii, wEq_ss, wNe_ii, wNe_ss, wIn_ss, wItem_s, wCut_nn, wCut_ni, wCut_in, wCut_ii, wLen_s, wOrd_s, wChr_i, wMin_ii, wCount_ss, wLower_s, wUpper_s, wSplit_ss, wLines_s, wHex_si, truth_s, truth_b, iter_s, hring, emS, isS, hV.sv.size]
    have cap : ∀ m, capV ["first", "size"] (V.put "alone" (AV.ref (os ++ ex).length)) m = ⟨[("first", .str (tx cs)), ("size", .int (n : Int))], m⟩ := fun m => by unfold capV; simp [vput_lookup, hV.first, hV.sv.size]
    refine ⟨⟨_, rfl⟩, fun y hy => ?_, _, rfl, by unfold fitR; lia  , ?_⟩
    · simp at hy; rcases hy with rfl | rfl
      · simp [vput_lookup, hV.first]
      · simp [vput_lookup, hV.sv.size]
    rw [cap, e]
    refine comp_range (t := fun _ => true) (f := fun k => .str (tx [cs.getD (k * (n - 1) % n) 0])) ?_ ?_ (by lia  ) ?_
    · intro j hj ex2 K' hK'
      unfold wTrue
      simpa using hK' []
    · intro j hj _ ex2 K' hK'
      obtain ⟨b1, b2, b3⟩ := perm_back n hn j hj
      simp only [wSeq, wSkip, wSet, wRet, wIf, wCmp, wVal, wNotB, wAndB, wOrB, wVar, wLit, wOp1, wOp2, wIte, wCall, wMeth, wCons, wNil, wList, wTup, wSub2, wSlice3, wExpr, wLocCall, wAppAttr, wTrue, set_eq, vput_ro, vput_lookup, vlook_cons, String.reduceEq, if_true, if_false, ↓reduceIte, Option.some.injEq, exists_eq_left', AV.bool.injEq, wAdd_ii, wAdd_ss, wAdd_bb, wIAdd_ii, wSub_ii, wMul_ii, wMul_si, wFdiv_ii, wMod_ii, wPow_ii, wNeg_i, wLt_ii, wLe_ii, wLe_ss, wGt_ii, wGe_ii, wEq_ii, wEq_ss, wNe_ii, wNe_ss, wIn_ss, wItem_s, wCut_nn, wCut_ni, wCut_in, wCut_ii, wLen_s, wOrd_s, wChr_i, wMin_ii, wCount_ss, wLower_s, wUpper_s, wSplit_ss, wLines_s, wHex_si, truth_s, truth_b, iter_s, Int.zero_add]
      have hlt : j * (n - 1) % n < cs.length := by rw [hl]; exact Nat.mod_lt _ (by lia  )
      have ei : Int.fmod (-(j : Int)) (n : Int) = ((j * (n - 1) % n : Nat) : Int) := by rw [b1]; lia  
      have it := tx_item cs (i := j * (n - 1) % n) (c := cs.getD (j * (n - 1) % n) 0) (by simp [hlt])
      rw [ei, it, hl]
      refine ⟨by lia  , by lia  , by rw [hl] at hlt; lia  , by lia  , ?_⟩
      simpa using hK' []
    intro ex2
    rw [List.filter_eq_self.mpr (fun _ _ => rfl)]
    have ep : perm cs (n - 1) = (List.range n).map fun k => cs.getD (k * (n - 1) % n) 0 := by unfold perm; rw [hl]
    refine wJoin_k ((perm cs (n - 1)).map fun c => [c]) (by rw [ep]; simp) ?_ ?_
    · have := sum_le (ps := (perm cs (n - 1)).map fun c => [c]) (b := 1) (fun p hp => by obtain ⟨c, _, rfl⟩ := List.mem_map.mp hp; exact Nat.le_refl _)
      rw [List.length_map, perm_len] at this
      simp only [List.length_nil, Nat.mul_zero, Nat.add_zero]; lia  
    rw [joinL_nil, flat1]
    simp only [wSeq, wSkip, wSet, wRet, wIf, wCmp, wVal, wNotB, wAndB, wOrB, wVar, wLit, wOp1, wOp2, wIte, wCall, wMeth, wCons, wNil, wList, wTup, wSub2, wSlice3, wExpr, wLocCall, wAppAttr, wTrue, set_eq, vput_ro, vput_lookup, vlook_cons, String.reduceEq, if_true, if_false, ↓reduceIte, Option.some.injEq, exists_eq_left', AV.bool.injEq, wAdd_ii, wAdd_ss, wAdd_bb, wIAdd_ii, wSub_ii, wMul_ii, wMul_si, wFdiv_ii, wMod_ii, wPow_ii, wNeg_i, wLt_ii, wLe_ii, wLe_ss, wGt_ii, wGe_ii, wEq_ii, wEq_ss, wNe_ii, wNe_ss, wIn_ss, wItem_s, wCut_nn, wCut_ni, wCut_in, wCut_ii, wLen_s, wOrd_s, wChr_i, wMin_ii, wCount_ss, wLower_s, wUpper_s, wSplit_ss, wLines_s, wHex_si, truth_s, truth_b, iter_s, decide_true]
    exact hQ _
theorem law_ok {sc : List Int} (hsc : sc.length ≤ 63) {Q : VP} (hQ : ∀ ex, Q (.bool true) ex) :
    t_law c_dealt ⟨⟨[("script", .ref 0)], 1⟩, [.list (sc.map .int)]⟩ fun fl σ' => Q (retOf fl) σ'.objs := by
  rw [t_law_eq]
  refine stA hsc fun V os n b xs hV hn hx h0 h1 => ?_
  refine stB hsc hV hn hx h0 h1 fun V' os' u hV' hu h1' hu' hr hc => ?_
  exact stC hn hx (ring0_oct sc n) (ring0_len sc n) hV' hu h1' hu' hr hc fun σ hI => stD hn (ring0_len sc n) hI hQ
end Mine
end P42
section P43
open PySem PySem.W PyProof.Rows
set_option Elab.async false
set_option maxRecDepth 100000
set_option maxHeartbeats 0
lay_quick PySem.Challenge.pw_wo0024_03
namespace Mine
noncomputable abbrev tP : Program := PySem.W.Fast.tw11098687184913729384
noncomputable abbrev tT := PySem.W.Fast.tw14364793385576792824
noncomputable def fnA (i : Nat) : Arguments := match tP.main.body[i]? with | some (.FunctionDef _ a _ _ _ _ _ _ _ _) => a | _ => default
noncomputable def fnB (i : Nat) : List Stmt := match tP.main.body[i]? with | some (.FunctionDef _ _ b _ _ _ _ _ _ _) => b | _ => []
noncomputable def fnS (i : Nat) : Scope := match tP.main.body[i]? with | some (.FunctionDef _ _ _ _ _ _ s _ _ _) => s | _ => default
noncomputable def insAll : BT → List (Nat × Obj) → BT
  | t, [] => t
  | t, (i, o) :: r => insAll (t.ins i o) r
noncomputable def thrOf (x : Option (SharedT × Thread)) : Thread := match x with
  | some y => y.2
  | none => ⟨.unsupported "", .builtin "" {}, ⟨0,0,0,0⟩, []⟩
noncomputable abbrev kH := PyData.keyHash
noncomputable abbrev dI : Value := .type "dict"
noncomputable abbrev tU : Value := .type "tuple"
noncomputable abbrev lI : Value := .type "list"
noncomputable abbrev z0' : Str := ⟨⟨[97,98,99,100,101,102,103,104,105,106,107,108,109,110,111,112,113,114,115,116,117,118,119,120,121,122,65,66,67,68,69,70,71,72,73,74,75,76,77,78,79,80,81,82,83,84,85,86,87,88,89,90]⟩⟩
noncomputable abbrev z1' : Str := ⟨⟨[97,115,99,105,105,95,108,111,119,101,114,99,97,115,101]⟩⟩
noncomputable abbrev z2' : Str := ⟨⟨[97,115,99,105,105,95,117,112,112,101,114,99,97,115,101]⟩⟩
noncomputable abbrev z3' : Str := ⟨⟨[97,115,99,105,105,95,108,101,116,116,101,114,115]⟩⟩
noncomputable abbrev z4' : Str := ⟨⟨[97,98,99,100,101,102,103,104,105,106,107,108,109,110,111,112,113,114,115,116,117,118,119,120,121,122]⟩⟩
noncomputable abbrev z5' : Str := ⟨⟨[65,66,67,68,69,70,71,72,73,74,75,76,77,78,79,80,81,82,83,84,85,86,87,88,89,90]⟩⟩
noncomputable abbrev z6' : Str := ⟨⟨[100,105,103,105,116,115]⟩⟩
noncomputable abbrev z7' : Str := ⟨⟨[47,99,108,97,105,109,47,99,117,116,46,112,121]⟩⟩
noncomputable abbrev z8' : Str := ⟨⟨[48,49,50,51,52,53,54,55,56,57]⟩⟩
noncomputable abbrev z9' : Str := ⟨⟨[99]⟩⟩
noncomputable abbrev z10' : Str := ⟨⟨[95,95,112,97,99,107,97,103,101,95,95]⟩⟩
noncomputable abbrev z11' : Str := ⟨⟨[95,95,108,111,97,100,101,114,95,95]⟩⟩
noncomputable abbrev z12' : Str := ⟨⟨[95,95,100,111,99,95,95]⟩⟩
noncomputable abbrev z13' : Str := ⟨⟨[95,95,110,97,109,101,95,95]⟩⟩
noncomputable abbrev z14' : Str := ⟨⟨[95,95,115,112,101,99,95,95]⟩⟩
noncomputable abbrev q0' (P : Params) : List DictEntry := [⟨kH P ⟨⟨[99,111,112,121,114,105,103,104,116]⟩⟩, (.str ⟨⟨[99,111,112,121,114,105,103,104,116]⟩⟩ 269), (.str ⟨⟨[32,83,82,69,32,50,46,50,46,50,32,67,111,112,121,114,105,103,104,116,32,40,99,41,32,49,57,57,55,45,50,48,48,50,32,98,121,32,83,101,99,114,101,116,32,76,97,98,115,32,65,66,32]⟩⟩ 268)⟩]
noncomputable abbrev q1' (P : Params) : List DictEntry := [⟨kH P z13', (.str z13' 165), (.str ⟨⟨[99,112,121,51,49,51,46,115,116,114,105,110,103]⟩⟩ 282)⟩, ⟨kH P z12', (.str z12' 166), .none⟩, ⟨kH P z10', (.str z10' 167), .none⟩, ⟨kH P z11', (.str z11' 168), (.builtin "__main__.__loader__#opaque")⟩, ⟨kH P z14', (.str z14' 169), .none⟩, ⟨kH P ⟨⟨[95,95,97,110,110,111,116,97,116,105,111,110,115,95,95]⟩⟩, (.str ⟨⟨[95,95,97,110,110,111,116,97,116,105,111,110,115,95,95]⟩⟩ 170), (.ref 6)⟩, ⟨kH P ⟨⟨[95,95,98,117,105,108,116,105,110,115,95,95]⟩⟩, (.str ⟨⟨[95,95,98,117,105,108,116,105,110,115,95,95]⟩⟩ 171), (.ref 4)⟩, ⟨kH P ⟨⟨[95,95,102,105,108,101,95,95]⟩⟩, (.str ⟨⟨[95,95,102,105,108,101,95,95]⟩⟩ 173), (.str z7' 172)⟩]
noncomputable abbrev q2' : List Value := [(.str ⟨⟨[61,48,48]⟩⟩ 302), (.str ⟨⟨[61,48,49]⟩⟩ 306), (.str ⟨⟨[61,48,50]⟩⟩ 310), (.str ⟨⟨[61,48,51]⟩⟩ 314), (.str ⟨⟨[61,48,52]⟩⟩ 318), (.str ⟨⟨[61,48,53]⟩⟩ 322), (.str ⟨⟨[61,48,54]⟩⟩ 326), (.str ⟨⟨[61,48,55]⟩⟩ 330)]
noncomputable abbrev q3' : List Value := [(.str ⟨⟨[61,48,56]⟩⟩ 334), (.str ⟨⟨[61,48,57]⟩⟩ 338), (.str ⟨⟨[61,48,65]⟩⟩ 342), (.str ⟨⟨[61,48,66]⟩⟩ 346), (.str ⟨⟨[61,48,67]⟩⟩ 350), (.str ⟨⟨[61,48,68]⟩⟩ 354), (.str ⟨⟨[61,48,69]⟩⟩ 358), (.str ⟨⟨[61,48,70]⟩⟩ 362)]
noncomputable abbrev q4' : List Value := [(.str ⟨⟨[61,49,48]⟩⟩ 366), (.str ⟨⟨[61,49,49]⟩⟩ 370), (.str ⟨⟨[61,49,50]⟩⟩ 374), (.str ⟨⟨[61,49,51]⟩⟩ 378), (.str ⟨⟨[61,49,52]⟩⟩ 382), (.str ⟨⟨[61,49,53]⟩⟩ 386), (.str ⟨⟨[61,49,54]⟩⟩ 390), (.str ⟨⟨[61,49,55]⟩⟩ 394)]
noncomputable abbrev q5' : List Value := [(.str ⟨⟨[61,49,56]⟩⟩ 398), (.str ⟨⟨[61,49,57]⟩⟩ 402), (.str ⟨⟨[61,49,65]⟩⟩ 406), (.str ⟨⟨[61,49,66]⟩⟩ 410), (.str ⟨⟨[61,49,67]⟩⟩ 414), (.str ⟨⟨[61,49,68]⟩⟩ 418), (.str ⟨⟨[61,49,69]⟩⟩ 422), (.str ⟨⟨[61,49,70]⟩⟩ 426)]
noncomputable abbrev q6' : List Value := [(.str ⟨⟨[61,50,48]⟩⟩ 430), (.str ⟨⟨[61,50,49]⟩⟩ 434), (.str ⟨⟨[61,50,50]⟩⟩ 438), (.str ⟨⟨[61,50,51]⟩⟩ 442), (.str ⟨⟨[61,50,52]⟩⟩ 446), (.str ⟨⟨[61,50,53]⟩⟩ 450), (.str ⟨⟨[61,50,54]⟩⟩ 454), (.str ⟨⟨[61,50,55]⟩⟩ 458)]
noncomputable abbrev q7' : List Value := [(.str ⟨⟨[61,50,56]⟩⟩ 462), (.str ⟨⟨[61,50,57]⟩⟩ 466), (.str ⟨⟨[61,50,65]⟩⟩ 470), (.str ⟨⟨[61,50,66]⟩⟩ 474), (.str ⟨⟨[61,50,67]⟩⟩ 478), (.str ⟨⟨[61,50,68]⟩⟩ 482), (.str ⟨⟨[61,50,69]⟩⟩ 486), (.str ⟨⟨[61,50,70]⟩⟩ 490)]
noncomputable abbrev q8' : List Value := [(.str ⟨⟨[61,51,48]⟩⟩ 494), (.str ⟨⟨[61,51,49]⟩⟩ 498), (.str ⟨⟨[61,51,50]⟩⟩ 502), (.str ⟨⟨[61,51,51]⟩⟩ 506), (.str ⟨⟨[61,51,52]⟩⟩ 510), (.str ⟨⟨[61,51,53]⟩⟩ 514), (.str ⟨⟨[61,51,54]⟩⟩ 518), (.str ⟨⟨[61,51,55]⟩⟩ 522)]
noncomputable abbrev q9' : List Value := [(.str ⟨⟨[61,51,56]⟩⟩ 526), (.str ⟨⟨[61,51,57]⟩⟩ 530), (.str ⟨⟨[61,51,65]⟩⟩ 534), (.str ⟨⟨[61,51,66]⟩⟩ 538), (.str ⟨⟨[61,51,67]⟩⟩ 542), (.str ⟨⟨[61,51,68]⟩⟩ 546), (.str ⟨⟨[61,51,69]⟩⟩ 550), (.str ⟨⟨[61,51,70]⟩⟩ 554)]
noncomputable abbrev q10' : List Value := [(.str ⟨⟨[61,52,48]⟩⟩ 558), (.str ⟨⟨[61,52,49]⟩⟩ 562), (.str ⟨⟨[61,52,50]⟩⟩ 566), (.str ⟨⟨[61,52,51]⟩⟩ 570), (.str ⟨⟨[61,52,52]⟩⟩ 574), (.str ⟨⟨[61,52,53]⟩⟩ 578), (.str ⟨⟨[61,52,54]⟩⟩ 582), (.str ⟨⟨[61,52,55]⟩⟩ 586)]
noncomputable abbrev q11' : List Value := [(.str ⟨⟨[61,52,56]⟩⟩ 590), (.str ⟨⟨[61,52,57]⟩⟩ 594), (.str ⟨⟨[61,52,65]⟩⟩ 598), (.str ⟨⟨[61,52,66]⟩⟩ 602), (.str ⟨⟨[61,52,67]⟩⟩ 606), (.str ⟨⟨[61,52,68]⟩⟩ 610), (.str ⟨⟨[61,52,69]⟩⟩ 614), (.str ⟨⟨[61,52,70]⟩⟩ 618)]
noncomputable abbrev q12' : List Value := [(.str ⟨⟨[61,53,48]⟩⟩ 622), (.str ⟨⟨[61,53,49]⟩⟩ 626), (.str ⟨⟨[61,53,50]⟩⟩ 630), (.str ⟨⟨[61,53,51]⟩⟩ 634), (.str ⟨⟨[61,53,52]⟩⟩ 638), (.str ⟨⟨[61,53,53]⟩⟩ 642), (.str ⟨⟨[61,53,54]⟩⟩ 646), (.str ⟨⟨[61,53,55]⟩⟩ 650)]
noncomputable abbrev q13' : List Value := [(.str ⟨⟨[61,53,56]⟩⟩ 654), (.str ⟨⟨[61,53,57]⟩⟩ 658), (.str ⟨⟨[61,53,65]⟩⟩ 662), (.str ⟨⟨[61,53,66]⟩⟩ 666), (.str ⟨⟨[61,53,67]⟩⟩ 670), (.str ⟨⟨[61,53,68]⟩⟩ 674), (.str ⟨⟨[61,53,69]⟩⟩ 678), (.str ⟨⟨[61,53,70]⟩⟩ 682)]
noncomputable abbrev q14' : List Value := [(.str ⟨⟨[61,54,48]⟩⟩ 686), (.str ⟨⟨[61,54,49]⟩⟩ 690), (.str ⟨⟨[61,54,50]⟩⟩ 694), (.str ⟨⟨[61,54,51]⟩⟩ 698), (.str ⟨⟨[61,54,52]⟩⟩ 702), (.str ⟨⟨[61,54,53]⟩⟩ 706), (.str ⟨⟨[61,54,54]⟩⟩ 710), (.str ⟨⟨[61,54,55]⟩⟩ 714)]
noncomputable abbrev q15' : List Value := [(.str ⟨⟨[61,54,56]⟩⟩ 718), (.str ⟨⟨[61,54,57]⟩⟩ 722), (.str ⟨⟨[61,54,65]⟩⟩ 726), (.str ⟨⟨[61,54,66]⟩⟩ 730), (.str ⟨⟨[61,54,67]⟩⟩ 734), (.str ⟨⟨[61,54,68]⟩⟩ 738), (.str ⟨⟨[61,54,69]⟩⟩ 742), (.str ⟨⟨[61,54,70]⟩⟩ 746)]
noncomputable abbrev q16' : List Value := [(.str ⟨⟨[61,55,48]⟩⟩ 750), (.str ⟨⟨[61,55,49]⟩⟩ 754), (.str ⟨⟨[61,55,50]⟩⟩ 758), (.str ⟨⟨[61,55,51]⟩⟩ 762), (.str ⟨⟨[61,55,52]⟩⟩ 766), (.str ⟨⟨[61,55,53]⟩⟩ 770), (.str ⟨⟨[61,55,54]⟩⟩ 774), (.str ⟨⟨[61,55,55]⟩⟩ 778)]
noncomputable abbrev q17' : List Value := [(.str ⟨⟨[61,55,56]⟩⟩ 782), (.str ⟨⟨[61,55,57]⟩⟩ 786), (.str ⟨⟨[61,55,65]⟩⟩ 790), (.str ⟨⟨[61,55,66]⟩⟩ 794), (.str ⟨⟨[61,55,67]⟩⟩ 798), (.str ⟨⟨[61,55,68]⟩⟩ 802), (.str ⟨⟨[61,55,69]⟩⟩ 806), (.str ⟨⟨[61,55,70]⟩⟩ 810)]
noncomputable abbrev q18' : List Value := [(.str ⟨⟨[61,56,48]⟩⟩ 814), (.str ⟨⟨[61,56,49]⟩⟩ 818), (.str ⟨⟨[61,56,50]⟩⟩ 822), (.str ⟨⟨[61,56,51]⟩⟩ 826), (.str ⟨⟨[61,56,52]⟩⟩ 830), (.str ⟨⟨[61,56,53]⟩⟩ 834), (.str ⟨⟨[61,56,54]⟩⟩ 838), (.str ⟨⟨[61,56,55]⟩⟩ 842)]
noncomputable abbrev q19' : List Value := [(.str ⟨⟨[61,56,56]⟩⟩ 846), (.str ⟨⟨[61,56,57]⟩⟩ 850), (.str ⟨⟨[61,56,65]⟩⟩ 854), (.str ⟨⟨[61,56,66]⟩⟩ 858), (.str ⟨⟨[61,56,67]⟩⟩ 862), (.str ⟨⟨[61,56,68]⟩⟩ 866), (.str ⟨⟨[61,56,69]⟩⟩ 870), (.str ⟨⟨[61,56,70]⟩⟩ 874)]
noncomputable abbrev q20' : List Value := [(.str ⟨⟨[61,57,48]⟩⟩ 878), (.str ⟨⟨[61,57,49]⟩⟩ 882), (.str ⟨⟨[61,57,50]⟩⟩ 886), (.str ⟨⟨[61,57,51]⟩⟩ 890), (.str ⟨⟨[61,57,52]⟩⟩ 894), (.str ⟨⟨[61,57,53]⟩⟩ 898), (.str ⟨⟨[61,57,54]⟩⟩ 902), (.str ⟨⟨[61,57,55]⟩⟩ 906)]
noncomputable abbrev q21' : List Value := [(.str ⟨⟨[61,57,56]⟩⟩ 910), (.str ⟨⟨[61,57,57]⟩⟩ 914), (.str ⟨⟨[61,57,65]⟩⟩ 918), (.str ⟨⟨[61,57,66]⟩⟩ 922), (.str ⟨⟨[61,57,67]⟩⟩ 926), (.str ⟨⟨[61,57,68]⟩⟩ 930), (.str ⟨⟨[61,57,69]⟩⟩ 934), (.str ⟨⟨[61,57,70]⟩⟩ 938)]
noncomputable abbrev q22' : List Value := [(.str ⟨⟨[61,65,48]⟩⟩ 942), (.str ⟨⟨[61,65,49]⟩⟩ 946), (.str ⟨⟨[61,65,50]⟩⟩ 950), (.str ⟨⟨[61,65,51]⟩⟩ 954), (.str ⟨⟨[61,65,52]⟩⟩ 958), (.str ⟨⟨[61,65,53]⟩⟩ 962), (.str ⟨⟨[61,65,54]⟩⟩ 966), (.str ⟨⟨[61,65,55]⟩⟩ 970)]
noncomputable abbrev q23' : List Value := [(.str ⟨⟨[61,65,56]⟩⟩ 974), (.str ⟨⟨[61,65,57]⟩⟩ 978), (.str ⟨⟨[61,65,65]⟩⟩ 982), (.str ⟨⟨[61,65,66]⟩⟩ 986), (.str ⟨⟨[61,65,67]⟩⟩ 990), (.str ⟨⟨[61,65,68]⟩⟩ 994), (.str ⟨⟨[61,65,69]⟩⟩ 998), (.str ⟨⟨[61,65,70]⟩⟩ 1002)]
noncomputable abbrev q24' : List Value := [(.str ⟨⟨[61,66,48]⟩⟩ 1006), (.str ⟨⟨[61,66,49]⟩⟩ 1010), (.str ⟨⟨[61,66,50]⟩⟩ 1014), (.str ⟨⟨[61,66,51]⟩⟩ 1018), (.str ⟨⟨[61,66,52]⟩⟩ 1022), (.str ⟨⟨[61,66,53]⟩⟩ 1026), (.str ⟨⟨[61,66,54]⟩⟩ 1030), (.str ⟨⟨[61,66,55]⟩⟩ 1034)]
noncomputable abbrev q25' : List Value := [(.str ⟨⟨[61,66,56]⟩⟩ 1038), (.str ⟨⟨[61,66,57]⟩⟩ 1042), (.str ⟨⟨[61,66,65]⟩⟩ 1046), (.str ⟨⟨[61,66,66]⟩⟩ 1050), (.str ⟨⟨[61,66,67]⟩⟩ 1054), (.str ⟨⟨[61,66,68]⟩⟩ 1058), (.str ⟨⟨[61,66,69]⟩⟩ 1062), (.str ⟨⟨[61,66,70]⟩⟩ 1066)]
noncomputable abbrev q26' : List Value := [(.str ⟨⟨[61,67,48]⟩⟩ 1070), (.str ⟨⟨[61,67,49]⟩⟩ 1074), (.str ⟨⟨[61,67,50]⟩⟩ 1078), (.str ⟨⟨[61,67,51]⟩⟩ 1082), (.str ⟨⟨[61,67,52]⟩⟩ 1086), (.str ⟨⟨[61,67,53]⟩⟩ 1090), (.str ⟨⟨[61,67,54]⟩⟩ 1094), (.str ⟨⟨[61,67,55]⟩⟩ 1098)]
noncomputable abbrev q27' : List Value := [(.str ⟨⟨[61,67,56]⟩⟩ 1102), (.str ⟨⟨[61,67,57]⟩⟩ 1106), (.str ⟨⟨[61,67,65]⟩⟩ 1110), (.str ⟨⟨[61,67,66]⟩⟩ 1114), (.str ⟨⟨[61,67,67]⟩⟩ 1118), (.str ⟨⟨[61,67,68]⟩⟩ 1122), (.str ⟨⟨[61,67,69]⟩⟩ 1126), (.str ⟨⟨[61,67,70]⟩⟩ 1130)]
noncomputable abbrev q28' : List Value := [(.str ⟨⟨[61,68,48]⟩⟩ 1134), (.str ⟨⟨[61,68,49]⟩⟩ 1138), (.str ⟨⟨[61,68,50]⟩⟩ 1142), (.str ⟨⟨[61,68,51]⟩⟩ 1146), (.str ⟨⟨[61,68,52]⟩⟩ 1150), (.str ⟨⟨[61,68,53]⟩⟩ 1154), (.str ⟨⟨[61,68,54]⟩⟩ 1158), (.str ⟨⟨[61,68,55]⟩⟩ 1162)]
noncomputable abbrev q29' : List Value := [(.str ⟨⟨[61,68,56]⟩⟩ 1166), (.str ⟨⟨[61,68,57]⟩⟩ 1170), (.str ⟨⟨[61,68,65]⟩⟩ 1174), (.str ⟨⟨[61,68,66]⟩⟩ 1178), (.str ⟨⟨[61,68,67]⟩⟩ 1182), (.str ⟨⟨[61,68,68]⟩⟩ 1186), (.str ⟨⟨[61,68,69]⟩⟩ 1190), (.str ⟨⟨[61,68,70]⟩⟩ 1194)]
noncomputable abbrev q30' : List Value := [(.str ⟨⟨[61,69,48]⟩⟩ 1198), (.str ⟨⟨[61,69,49]⟩⟩ 1202), (.str ⟨⟨[61,69,50]⟩⟩ 1206), (.str ⟨⟨[61,69,51]⟩⟩ 1210), (.str ⟨⟨[61,69,52]⟩⟩ 1214), (.str ⟨⟨[61,69,53]⟩⟩ 1218), (.str ⟨⟨[61,69,54]⟩⟩ 1222), (.str ⟨⟨[61,69,55]⟩⟩ 1226)]
noncomputable abbrev q31' : List Value := [(.str ⟨⟨[61,69,56]⟩⟩ 1230), (.str ⟨⟨[61,69,57]⟩⟩ 1234), (.str ⟨⟨[61,69,65]⟩⟩ 1238), (.str ⟨⟨[61,69,66]⟩⟩ 1242), (.str ⟨⟨[61,69,67]⟩⟩ 1246), (.str ⟨⟨[61,69,68]⟩⟩ 1250), (.str ⟨⟨[61,69,69]⟩⟩ 1254), (.str ⟨⟨[61,69,70]⟩⟩ 1258)]
noncomputable abbrev q32' : List Value := [(.str ⟨⟨[61,70,48]⟩⟩ 1262), (.str ⟨⟨[61,70,49]⟩⟩ 1266), (.str ⟨⟨[61,70,50]⟩⟩ 1270), (.str ⟨⟨[61,70,51]⟩⟩ 1274), (.str ⟨⟨[61,70,52]⟩⟩ 1278), (.str ⟨⟨[61,70,53]⟩⟩ 1282), (.str ⟨⟨[61,70,54]⟩⟩ 1286), (.str ⟨⟨[61,70,55]⟩⟩ 1290)]
noncomputable abbrev q33' : List Value := [(.str ⟨⟨[61,70,56]⟩⟩ 1294), (.str ⟨⟨[61,70,57]⟩⟩ 1298), (.str ⟨⟨[61,70,65]⟩⟩ 1302), (.str ⟨⟨[61,70,66]⟩⟩ 1306), (.str ⟨⟨[61,70,67]⟩⟩ 1310), (.str ⟨⟨[61,70,68]⟩⟩ 1314), (.str ⟨⟨[61,70,69]⟩⟩ 1318), (.str ⟨⟨[61,70,70]⟩⟩ 1322)]
noncomputable abbrev q34' (P : Params) : List DictEntry := [⟨kH P z13', (.str z13' 165), (.str ⟨⟨[99,112,121,51,49,51,46,101,109,97,105,108,46,113,117,111,112,114,105,109,105,109,101]⟩⟩ 1334)⟩, ⟨kH P z12', (.str z12' 166), .none⟩, ⟨kH P z10', (.str z10' 167), .none⟩, ⟨kH P z11', (.str z11' 168), (.builtin "__main__.__loader__#opaque")⟩, ⟨kH P z14', (.str z14' 169), .none⟩, ⟨kH P ⟨⟨[95,95,97,110,110,111,116,97,116,105,111,110,115,95,95]⟩⟩, (.str ⟨⟨[95,95,97,110,110,111,116,97,116,105,111,110,115,95,95]⟩⟩ 170), (.ref 6)⟩, ⟨kH P ⟨⟨[95,95,98,117,105,108,116,105,110,115,95,95]⟩⟩, (.str ⟨⟨[95,95,98,117,105,108,116,105,110,115,95,95]⟩⟩ 171), (.ref 4)⟩, ⟨kH P ⟨⟨[95,95,102,105,108,101,95,95]⟩⟩, (.str ⟨⟨[95,95,102,105,108,101,95,95]⟩⟩ 173), (.str z7' 172)⟩]
noncomputable abbrev q35' (P : Params) : List DictEntry := [⟨kH P ⟨⟨[95,95,99,97,99,104,101,100,95,95]⟩⟩, (.str ⟨⟨[95,95,99,97,99,104,101,100,95,95]⟩⟩ 174), .none⟩, ⟨kH P ⟨⟨[95,115,114,101]⟩⟩, (.str ⟨⟨[95,115,114,101]⟩⟩ 275), (.ref 12)⟩, ⟨kH P ⟨⟨[99,97,112,119,111,114,100,115]⟩⟩, (.str ⟨⟨[99,97,112,119,111,114,100,115]⟩⟩ 291), (.ref 39)⟩, ⟨kH P ⟨⟨[67,82,76,70]⟩⟩, (.str ⟨⟨[67,82,76,70]⟩⟩ 293), (.str ⟨⟨[13,10]⟩⟩ 292)⟩, ⟨kH P ⟨⟨[78,76]⟩⟩, (.str ⟨⟨[78,76]⟩⟩ 295), (.str ⟨⟨[10]⟩⟩ 294)⟩, ⟨kH P ⟨⟨[95,81,85,79,80,82,73,95,77,65,80]⟩⟩, (.str ⟨⟨[95,81,85,79,80,82,73,95,77,65,80]⟩⟩ 1323), (.ref 42)⟩, ⟨kH P ⟨⟨[95,81,85,79,80,82,73,95,72,69,65,68,69,82,95,77,65,80]⟩⟩, (.str ⟨⟨[95,81,85,79,80,82,73,95,72,69,65,68,69,82,95,77,65,80]⟩⟩ 1324), (.ref 47)⟩, ⟨kH P ⟨⟨[95,81,85,79,80,82,73,95,66,79,68,89,95,77,65,80]⟩⟩, (.str ⟨⟨[95,81,85,79,80,82,73,95,66,79,68,89,95,77,65,80]⟩⟩ 1325), (.ref 49)⟩]
noncomputable abbrev q36' : List Value := [(.str ⟨⟨[61,50,48]⟩⟩ 430), (.str ⟨⟨[33]⟩⟩ 1348), (.str ⟨⟨[61,50,50]⟩⟩ 438), (.str ⟨⟨[61,50,51]⟩⟩ 442), (.str ⟨⟨[61,50,52]⟩⟩ 446), (.str ⟨⟨[61,50,53]⟩⟩ 450), (.str ⟨⟨[61,50,54]⟩⟩ 454), (.str ⟨⟨[61,50,55]⟩⟩ 458)]
noncomputable abbrev q37' : List Value := [(.str ⟨⟨[61,50,56]⟩⟩ 462), (.str ⟨⟨[61,50,57]⟩⟩ 466), (.str ⟨⟨[42]⟩⟩ 1351), (.str ⟨⟨[43]⟩⟩ 1354), (.str ⟨⟨[61,50,67]⟩⟩ 478), (.str ⟨⟨[45]⟩⟩ 1345), (.str ⟨⟨[61,50,69]⟩⟩ 486), (.str ⟨⟨[47]⟩⟩ 1357)]
noncomputable abbrev q38' : List Value := [(.str ⟨⟨[61,54,48]⟩⟩ 686), (.str ⟨⟨[97]⟩⟩ 1360), (.str ⟨⟨[98]⟩⟩ 1363), (.str z9' 1366), (.str ⟨⟨[100]⟩⟩ 1369), (.str ⟨⟨[101]⟩⟩ 1372), (.str ⟨⟨[102]⟩⟩ 1375), (.str ⟨⟨[103]⟩⟩ 1378)]
noncomputable abbrev q39' : List Value := [(.str ⟨⟨[104]⟩⟩ 1381), (.str ⟨⟨[105]⟩⟩ 1384), (.str ⟨⟨[106]⟩⟩ 1387), (.str ⟨⟨[107]⟩⟩ 1390), (.str ⟨⟨[108]⟩⟩ 1393), (.str ⟨⟨[109]⟩⟩ 1396), (.str ⟨⟨[110]⟩⟩ 1399), (.str ⟨⟨[111]⟩⟩ 1402)]
noncomputable abbrev q40' : List Value := [(.str ⟨⟨[61,52,48]⟩⟩ 558), (.str ⟨⟨[65]⟩⟩ 1438), (.str ⟨⟨[66]⟩⟩ 1441), (.str ⟨⟨[67]⟩⟩ 1444), (.str ⟨⟨[68]⟩⟩ 1447), (.str ⟨⟨[69]⟩⟩ 1450), (.str ⟨⟨[70]⟩⟩ 1453), (.str ⟨⟨[71]⟩⟩ 1456)]
noncomputable abbrev q41' : List Value := [(.str ⟨⟨[112]⟩⟩ 1405), (.str ⟨⟨[113]⟩⟩ 1408), (.str ⟨⟨[114]⟩⟩ 1411), (.str ⟨⟨[115]⟩⟩ 1414), (.str ⟨⟨[116]⟩⟩ 1417), (.str ⟨⟨[117]⟩⟩ 1420), (.str ⟨⟨[118]⟩⟩ 1423), (.str ⟨⟨[119]⟩⟩ 1426)]
noncomputable abbrev q42' : List Value := [(.str ⟨⟨[120]⟩⟩ 1429), (.str ⟨⟨[121]⟩⟩ 1432), (.str ⟨⟨[122]⟩⟩ 1435), (.str ⟨⟨[61,55,66]⟩⟩ 794), (.str ⟨⟨[61,55,67]⟩⟩ 798), (.str ⟨⟨[61,55,68]⟩⟩ 802), (.str ⟨⟨[61,55,69]⟩⟩ 806), (.str ⟨⟨[61,55,70]⟩⟩ 810)]
noncomputable abbrev q43' : List Value := [(.str ⟨⟨[72]⟩⟩ 1459), (.str ⟨⟨[73]⟩⟩ 1462), (.str ⟨⟨[74]⟩⟩ 1465), (.str ⟨⟨[75]⟩⟩ 1468), (.str ⟨⟨[76]⟩⟩ 1471), (.str ⟨⟨[77]⟩⟩ 1474), (.str ⟨⟨[78]⟩⟩ 1477), (.str ⟨⟨[79]⟩⟩ 1480)]
noncomputable abbrev q44' : List Value := [(.str ⟨⟨[80]⟩⟩ 1483), (.str ⟨⟨[81]⟩⟩ 1486), (.str ⟨⟨[82]⟩⟩ 1489), (.str ⟨⟨[83]⟩⟩ 1492), (.str ⟨⟨[84]⟩⟩ 1495), (.str ⟨⟨[85]⟩⟩ 1498), (.str ⟨⟨[86]⟩⟩ 1501), (.str ⟨⟨[87]⟩⟩ 1504)]
noncomputable abbrev q45' : List Value := [(.str ⟨⟨[88]⟩⟩ 1507), (.str ⟨⟨[89]⟩⟩ 1510), (.str ⟨⟨[90]⟩⟩ 1513), (.str ⟨⟨[61,53,66]⟩⟩ 666), (.str ⟨⟨[61,53,67]⟩⟩ 670), (.str ⟨⟨[61,53,68]⟩⟩ 674), (.str ⟨⟨[61,53,69]⟩⟩ 678), (.str ⟨⟨[61,53,70]⟩⟩ 682)]
noncomputable abbrev q46' : List Value := [(.str ⟨⟨[48]⟩⟩ 1516), (.str ⟨⟨[49]⟩⟩ 1519), (.str ⟨⟨[50]⟩⟩ 1522), (.str ⟨⟨[51]⟩⟩ 1525), (.str ⟨⟨[52]⟩⟩ 1528), (.str ⟨⟨[53]⟩⟩ 1531), (.str ⟨⟨[54]⟩⟩ 1534), (.str ⟨⟨[55]⟩⟩ 1537)]
noncomputable abbrev q47' : List Value := [(.str ⟨⟨[56]⟩⟩ 1540), (.str ⟨⟨[57]⟩⟩ 1543), (.str ⟨⟨[61,51,65]⟩⟩ 534), (.str ⟨⟨[61,51,66]⟩⟩ 538), (.str ⟨⟨[61,51,67]⟩⟩ 542), (.str ⟨⟨[61,51,68]⟩⟩ 546), (.str ⟨⟨[61,51,69]⟩⟩ 550), (.str ⟨⟨[61,51,70]⟩⟩ 554)]
noncomputable abbrev q48' : List Value := [(.str ⟨⟨[32]⟩⟩ 1550), (.str ⟨⟨[33]⟩⟩ 1553), (.str ⟨⟨[34]⟩⟩ 1556), (.str ⟨⟨[35]⟩⟩ 1559), (.str ⟨⟨[36]⟩⟩ 1562), (.str ⟨⟨[37]⟩⟩ 1565), (.str ⟨⟨[38]⟩⟩ 1568), (.str ⟨⟨[39]⟩⟩ 1571)]
noncomputable abbrev q49' : List Value := [(.str ⟨⟨[40]⟩⟩ 1574), (.str ⟨⟨[41]⟩⟩ 1577), (.str ⟨⟨[42]⟩⟩ 1580), (.str ⟨⟨[43]⟩⟩ 1583), (.str ⟨⟨[44]⟩⟩ 1586), (.str ⟨⟨[45]⟩⟩ 1589), (.str ⟨⟨[46]⟩⟩ 1592), (.str ⟨⟨[47]⟩⟩ 1595)]
noncomputable abbrev q50' : List Value := [(.str ⟨⟨[48]⟩⟩ 1598), (.str ⟨⟨[49]⟩⟩ 1601), (.str ⟨⟨[50]⟩⟩ 1604), (.str ⟨⟨[51]⟩⟩ 1607), (.str ⟨⟨[52]⟩⟩ 1610), (.str ⟨⟨[53]⟩⟩ 1613), (.str ⟨⟨[54]⟩⟩ 1616), (.str ⟨⟨[55]⟩⟩ 1619)]
noncomputable abbrev q51' : List Value := [(.str ⟨⟨[56]⟩⟩ 1622), (.str ⟨⟨[57]⟩⟩ 1625), (.str ⟨⟨[58]⟩⟩ 1628), (.str ⟨⟨[59]⟩⟩ 1631), (.str ⟨⟨[60]⟩⟩ 1634), (.str ⟨⟨[61,51,68]⟩⟩ 546), (.str ⟨⟨[62]⟩⟩ 1637), (.str ⟨⟨[63]⟩⟩ 1640)]
noncomputable abbrev q52' : List Value := [(.str ⟨⟨[64]⟩⟩ 1643), (.str ⟨⟨[65]⟩⟩ 1646), (.str ⟨⟨[66]⟩⟩ 1649), (.str ⟨⟨[67]⟩⟩ 1652), (.str ⟨⟨[68]⟩⟩ 1655), (.str ⟨⟨[69]⟩⟩ 1658), (.str ⟨⟨[70]⟩⟩ 1661), (.str ⟨⟨[71]⟩⟩ 1664)]
noncomputable abbrev q53' : List Value := [(.str ⟨⟨[72]⟩⟩ 1667), (.str ⟨⟨[73]⟩⟩ 1670), (.str ⟨⟨[74]⟩⟩ 1673), (.str ⟨⟨[75]⟩⟩ 1676), (.str ⟨⟨[76]⟩⟩ 1679), (.str ⟨⟨[77]⟩⟩ 1682), (.str ⟨⟨[78]⟩⟩ 1685), (.str ⟨⟨[79]⟩⟩ 1688)]
noncomputable abbrev q54' : List Value := [(.str ⟨⟨[80]⟩⟩ 1691), (.str ⟨⟨[81]⟩⟩ 1694), (.str ⟨⟨[82]⟩⟩ 1697), (.str ⟨⟨[83]⟩⟩ 1700), (.str ⟨⟨[84]⟩⟩ 1703), (.str ⟨⟨[85]⟩⟩ 1706), (.str ⟨⟨[86]⟩⟩ 1709), (.str ⟨⟨[87]⟩⟩ 1712)]
noncomputable abbrev q55' : List Value := [(.str ⟨⟨[88]⟩⟩ 1715), (.str ⟨⟨[89]⟩⟩ 1718), (.str ⟨⟨[90]⟩⟩ 1721), (.str ⟨⟨[91]⟩⟩ 1724), (.str ⟨⟨[92]⟩⟩ 1727), (.str ⟨⟨[93]⟩⟩ 1730), (.str ⟨⟨[94]⟩⟩ 1733), (.str ⟨⟨[95]⟩⟩ 1736)]
noncomputable abbrev q56' : List Value := [(.str ⟨⟨[96]⟩⟩ 1739), (.str ⟨⟨[97]⟩⟩ 1742), (.str ⟨⟨[98]⟩⟩ 1745), (.str z9' 1748), (.str ⟨⟨[100]⟩⟩ 1751), (.str ⟨⟨[101]⟩⟩ 1754), (.str ⟨⟨[102]⟩⟩ 1757), (.str ⟨⟨[103]⟩⟩ 1760)]
noncomputable abbrev q57' : List Value := [(.str ⟨⟨[104]⟩⟩ 1763), (.str ⟨⟨[105]⟩⟩ 1766), (.str ⟨⟨[106]⟩⟩ 1769), (.str ⟨⟨[107]⟩⟩ 1772), (.str ⟨⟨[108]⟩⟩ 1775), (.str ⟨⟨[109]⟩⟩ 1778), (.str ⟨⟨[110]⟩⟩ 1781), (.str ⟨⟨[111]⟩⟩ 1784)]
noncomputable abbrev q58' : List Value := [(.str ⟨⟨[61,48,56]⟩⟩ 334), (.str ⟨⟨[9]⟩⟩ 1832), (.str ⟨⟨[61,48,65]⟩⟩ 342), (.str ⟨⟨[61,48,66]⟩⟩ 346), (.str ⟨⟨[61,48,67]⟩⟩ 350), (.str ⟨⟨[61,48,68]⟩⟩ 354), (.str ⟨⟨[61,48,69]⟩⟩ 358), (.str ⟨⟨[61,48,70]⟩⟩ 362)]
noncomputable abbrev q59' : List Value := [(.str ⟨⟨[112]⟩⟩ 1787), (.str ⟨⟨[113]⟩⟩ 1790), (.str ⟨⟨[114]⟩⟩ 1793), (.str ⟨⟨[115]⟩⟩ 1796), (.str ⟨⟨[116]⟩⟩ 1799), (.str ⟨⟨[117]⟩⟩ 1802), (.str ⟨⟨[118]⟩⟩ 1805), (.str ⟨⟨[119]⟩⟩ 1808)]
noncomputable abbrev q60' : List Value := [(.str ⟨⟨[120]⟩⟩ 1811), (.str ⟨⟨[121]⟩⟩ 1814), (.str ⟨⟨[122]⟩⟩ 1817), (.str ⟨⟨[123]⟩⟩ 1820), (.str ⟨⟨[124]⟩⟩ 1823), (.str ⟨⟨[125]⟩⟩ 1826), (.str ⟨⟨[126]⟩⟩ 1829), (.str ⟨⟨[61,55,70]⟩⟩ 810)]
noncomputable abbrev V (a : Bool) (w : World) := w.withFollow "special-get-raises" a
noncomputable abbrev V2 (a b : Bool) (w : World) := (w.withFollow "special-get-raises" a).withFollow "comprehension-iter-twice" b
noncomputable def t_z (P : Params) : BT := insAll .nil []
noncomputable def S_z (w : World) (os : OsState) : SharedT := ⟨t_z w.params, 0, {}, ⟨[]⟩, {}, 1, os⟩
noncomputable def t_e (P : Params) : BT := insAll (t_z P) [(0, ⟨dI, none, (.dict ⟨[⟨kH P z13', (.str z13' 1), (.str ⟨⟨[98,117,105,108,116,105,110,115]⟩⟩ 160)⟩, ⟨kH P z12', (.str z12' 2), (.builtin "builtins.__doc__:str#opaque")⟩, ⟨kH P z10', (.str z10' 3), (.builtin "builtins.__package__:str#opaque")⟩, ⟨kH P z11', (.str z11' 4), (.builtin "builtins.__loader__:shared#opaque")⟩, ⟨kH P z14', (.str z14' 5), (.builtin "builtins.__spec__#opaque")⟩, ⟨kH P ⟨⟨[95,95,98,117,105,108,100,95,99,108,97,115,115,95,95]⟩⟩, (.str ⟨⟨[95,95,98,117,105,108,100,95,99,108,97,115,115,95,95]⟩⟩ 6), (.builtin "__build_class__")⟩, ⟨kH P ⟨⟨[95,95,105,109,112,111,114,116,95,95]⟩⟩, (.str ⟨⟨[95,95,105,109,112,111,114,116,95,95]⟩⟩ 7), (.builtin "__import__")⟩, ⟨kH P ⟨⟨[97,98,115]⟩⟩, (.str ⟨⟨[97,98,115]⟩⟩ 8), (.builtin "abs")⟩, ⟨kH P ⟨⟨[97,108,108]⟩⟩, (.str ⟨⟨[97,108,108]⟩⟩ 9), (.builtin "all")⟩, ⟨kH P ⟨⟨[97,110,121]⟩⟩, (.str ⟨⟨[97,110,121]⟩⟩ 10), (.builtin "any")⟩, ⟨kH P ⟨⟨[97,115,99,105,105]⟩⟩, (.str ⟨⟨[97,115,99,105,105]⟩⟩ 11), (.builtin "ascii")⟩, ⟨kH P ⟨⟨[98,105,110]⟩⟩, (.str ⟨⟨[98,105,110]⟩⟩ 12), (.builtin "bin")⟩, ⟨kH P ⟨⟨[98,114,101,97,107,112,111,105,110,116]⟩⟩, (.str ⟨⟨[98,114,101,97,107,112,111,105,110,116]⟩⟩ 13), (.builtin "breakpoint")⟩, ⟨kH P ⟨⟨[99,97,108,108,97,98,108,101]⟩⟩, (.str ⟨⟨[99,97,108,108,97,98,108,101]⟩⟩ 14), (.builtin "callable")⟩, ⟨kH P ⟨⟨[99,104,114]⟩⟩, (.str ⟨⟨[99,104,114]⟩⟩ 15), (.builtin "chr")⟩, ⟨kH P ⟨⟨[99,111,109,112,105,108,101]⟩⟩, (.str ⟨⟨[99,111,109,112,105,108,101]⟩⟩ 16), (.builtin "compile")⟩, ⟨kH P ⟨⟨[100,101,108,97,116,116,114]⟩⟩, (.str ⟨⟨[100,101,108,97,116,116,114]⟩⟩ 17), (.builtin "delattr")⟩, ⟨kH P ⟨⟨[100,105,114]⟩⟩, (.str ⟨⟨[100,105,114]⟩⟩ 18), (.builtin "dir")⟩, ⟨kH P ⟨⟨[100,105,118,109,111,100]⟩⟩, (.str ⟨⟨[100,105,118,109,111,100]⟩⟩ 19), (.builtin "divmod")⟩, ⟨kH P ⟨⟨[101,118,97,108]⟩⟩, (.str ⟨⟨[101,118,97,108]⟩⟩ 20), (.builtin "eval")⟩, ⟨kH P ⟨⟨[101,120,101,99]⟩⟩, (.str ⟨⟨[101,120,101,99]⟩⟩ 21), (.builtin "exec")⟩, ⟨kH P ⟨⟨[102,111,114,109,97,116]⟩⟩, (.str ⟨⟨[102,111,114,109,97,116]⟩⟩ 22), (.builtin "format")⟩, ⟨kH P ⟨⟨[103,101,116,97,116,116,114]⟩⟩, (.str ⟨⟨[103,101,116,97,116,116,114]⟩⟩ 23), (.builtin "getattr")⟩, ⟨kH P ⟨⟨[103,108,111,98,97,108,115]⟩⟩, (.str ⟨⟨[103,108,111,98,97,108,115]⟩⟩ 24), (.builtin "globals")⟩, ⟨kH P ⟨⟨[104,97,115,97,116,116,114]⟩⟩, (.str ⟨⟨[104,97,115,97,116,116,114]⟩⟩ 25), (.builtin "hasattr")⟩, ⟨kH P ⟨⟨[104,97,115,104]⟩⟩, (.str ⟨⟨[104,97,115,104]⟩⟩ 26), (.builtin "hash")⟩, ⟨kH P ⟨⟨[104,101,120]⟩⟩, (.str ⟨⟨[104,101,120]⟩⟩ 27), (.builtin "hex")⟩, ⟨kH P ⟨⟨[105,100]⟩⟩, (.str ⟨⟨[105,100]⟩⟩ 28), (.builtin "id")⟩, ⟨kH P ⟨⟨[105,110,112,117,116]⟩⟩, (.str ⟨⟨[105,110,112,117,116]⟩⟩ 29), (.builtin "input")⟩, ⟨kH P ⟨⟨[105,115,105,110,115,116,97,110,99,101]⟩⟩, (.str ⟨⟨[105,115,105,110,115,116,97,110,99,101]⟩⟩ 30), (.builtin "isinstance")⟩, ⟨kH P ⟨⟨[105,115,115,117,98,99,108,97,115,115]⟩⟩, (.str ⟨⟨[105,115,115,117,98,99,108,97,115,115]⟩⟩ 31), (.builtin "issubclass")⟩, ⟨kH P ⟨⟨[105,116,101,114]⟩⟩, (.str ⟨⟨[105,116,101,114]⟩⟩ 32), (.builtin "iter")⟩, ⟨kH P ⟨⟨[97,105,116,101,114]⟩⟩, (.str ⟨⟨[97,105,116,101,114]⟩⟩ 33), (.builtin "aiter")⟩, ⟨kH P ⟨⟨[108,101,110]⟩⟩, (.str ⟨⟨[108,101,110]⟩⟩ 34), (.builtin "len")⟩, ⟨kH P ⟨⟨[108,111,99,97,108,115]⟩⟩, (.str ⟨⟨[108,111,99,97,108,115]⟩⟩ 35), (.builtin "locals")⟩, ⟨kH P ⟨⟨[109,97,120]⟩⟩, (.str ⟨⟨[109,97,120]⟩⟩ 36), (.builtin "max")⟩, ⟨kH P ⟨⟨[109,105,110]⟩⟩, (.str ⟨⟨[109,105,110]⟩⟩ 37), (.builtin "min")⟩, ⟨kH P ⟨⟨[110,101,120,116]⟩⟩, (.str ⟨⟨[110,101,120,116]⟩⟩ 38), (.builtin "next")⟩, ⟨kH P ⟨⟨[97,110,101,120,116]⟩⟩, (.str ⟨⟨[97,110,101,120,116]⟩⟩ 39), (.builtin "anext")⟩, ⟨kH P ⟨⟨[111,99,116]⟩⟩, (.str ⟨⟨[111,99,116]⟩⟩ 40), (.builtin "oct")⟩, ⟨kH P ⟨⟨[111,114,100]⟩⟩, (.str ⟨⟨[111,114,100]⟩⟩ 41), (.builtin "ord")⟩, ⟨kH P ⟨⟨[112,111,119]⟩⟩, (.str ⟨⟨[112,111,119]⟩⟩ 42), (.builtin "pow")⟩, ⟨kH P ⟨⟨[112,114,105,110,116]⟩⟩, (.str ⟨⟨[112,114,105,110,116]⟩⟩ 43), (.builtin "print")⟩, ⟨kH P ⟨⟨[114,101,112,114]⟩⟩, (.str ⟨⟨[114,101,112,114]⟩⟩ 44), (.builtin "repr")⟩, ⟨kH P ⟨⟨[114,111,117,110,100]⟩⟩, (.str ⟨⟨[114,111,117,110,100]⟩⟩ 45), (.builtin "round")⟩, ⟨kH P ⟨⟨[115,101,116,97,116,116,114]⟩⟩, (.str ⟨⟨[115,101,116,97,116,116,114]⟩⟩ 46), (.builtin "setattr")⟩, ⟨kH P ⟨⟨[115,111,114,116,101,100]⟩⟩, (.str ⟨⟨[115,111,114,116,101,100]⟩⟩ 47), (.builtin "sorted")⟩, ⟨kH P ⟨⟨[115,117,109]⟩⟩, (.str ⟨⟨[115,117,109]⟩⟩ 48), (.builtin "sum")⟩, ⟨kH P ⟨⟨[118,97,114,115]⟩⟩, (.str ⟨⟨[118,97,114,115]⟩⟩ 49), (.builtin "vars")⟩, ⟨kH P ⟨⟨[78,111,110,101]⟩⟩, (.str ⟨⟨[78,111,110,101]⟩⟩ 50), .none⟩, ⟨kH P ⟨⟨[69,108,108,105,112,115,105,115]⟩⟩, (.str ⟨⟨[69,108,108,105,112,115,105,115]⟩⟩ 51), .ellipsis⟩, ⟨kH P ⟨⟨[78,111,116,73,109,112,108,101,109,101,110,116,101,100]⟩⟩, (.str ⟨⟨[78,111,116,73,109,112,108,101,109,101,110,116,101,100]⟩⟩ 52), .notImplemented⟩, ⟨kH P ⟨⟨[70,97,108,115,101]⟩⟩, (.str ⟨⟨[70,97,108,115,101]⟩⟩ 53), (.bool false)⟩, ⟨kH P ⟨⟨[84,114,117,101]⟩⟩, (.str ⟨⟨[84,114,117,101]⟩⟩ 54), (.bool true)⟩, ⟨kH P ⟨⟨[98,111,111,108]⟩⟩, (.str ⟨⟨[98,111,111,108]⟩⟩ 55), (.type "bool")⟩, ⟨kH P ⟨⟨[109,101,109,111,114,121,118,105,101,119]⟩⟩, (.str ⟨⟨[109,101,109,111,114,121,118,105,101,119]⟩⟩ 56), (.type "memoryview")⟩, ⟨kH P ⟨⟨[98,121,116,101,97,114,114,97,121]⟩⟩, (.str ⟨⟨[98,121,116,101,97,114,114,97,121]⟩⟩ 57), (.type "bytearray")⟩, ⟨kH P ⟨⟨[98,121,116,101,115]⟩⟩, (.str ⟨⟨[98,121,116,101,115]⟩⟩ 58), (.type "bytes")⟩, ⟨kH P ⟨⟨[99,108,97,115,115,109,101,116,104,111,100]⟩⟩, (.str ⟨⟨[99,108,97,115,115,109,101,116,104,111,100]⟩⟩ 59), (.type "classmethod")⟩, ⟨kH P ⟨⟨[99,111,109,112,108,101,120]⟩⟩, (.str ⟨⟨[99,111,109,112,108,101,120]⟩⟩ 60), (.type "complex")⟩, ⟨kH P ⟨⟨[100,105,99,116]⟩⟩, (.str ⟨⟨[100,105,99,116]⟩⟩ 61), (.type "dict")⟩, ⟨kH P ⟨⟨[101,110,117,109,101,114,97,116,101]⟩⟩, (.str ⟨⟨[101,110,117,109,101,114,97,116,101]⟩⟩ 62), (.type "enumerate")⟩, ⟨kH P ⟨⟨[102,105,108,116,101,114]⟩⟩, (.str ⟨⟨[102,105,108,116,101,114]⟩⟩ 63), (.type "filter")⟩, ⟨kH P ⟨⟨[102,108,111,97,116]⟩⟩, (.str ⟨⟨[102,108,111,97,116]⟩⟩ 64), (.type "float")⟩, ⟨kH P ⟨⟨[102,114,111,122,101,110,115,101,116]⟩⟩, (.str ⟨⟨[102,114,111,122,101,110,115,101,116]⟩⟩ 65), (.type "frozenset")⟩, ⟨kH P ⟨⟨[112,114,111,112,101,114,116,121]⟩⟩, (.str ⟨⟨[112,114,111,112,101,114,116,121]⟩⟩ 66), (.type "property")⟩, ⟨kH P ⟨⟨[105,110,116]⟩⟩, (.str ⟨⟨[105,110,116]⟩⟩ 67), (.type "int")⟩, ⟨kH P ⟨⟨[108,105,115,116]⟩⟩, (.str ⟨⟨[108,105,115,116]⟩⟩ 68), (.type "list")⟩, ⟨kH P ⟨⟨[109,97,112]⟩⟩, (.str ⟨⟨[109,97,112]⟩⟩ 69), (.type "map")⟩, ⟨kH P ⟨⟨[111,98,106,101,99,116]⟩⟩, (.str ⟨⟨[111,98,106,101,99,116]⟩⟩ 70), (.type "object")⟩, ⟨kH P ⟨⟨[114,97,110,103,101]⟩⟩, (.str ⟨⟨[114,97,110,103,101]⟩⟩ 71), (.type "range")⟩, ⟨kH P ⟨⟨[114,101,118,101,114,115,101,100]⟩⟩, (.str ⟨⟨[114,101,118,101,114,115,101,100]⟩⟩ 72), (.type "reversed")⟩, ⟨kH P ⟨⟨[115,101,116]⟩⟩, (.str ⟨⟨[115,101,116]⟩⟩ 73), (.type "set")⟩, ⟨kH P ⟨⟨[115,108,105,99,101]⟩⟩, (.str ⟨⟨[115,108,105,99,101]⟩⟩ 74), (.type "slice")⟩, ⟨kH P ⟨⟨[115,116,97,116,105,99,109,101,116,104,111,100]⟩⟩, (.str ⟨⟨[115,116,97,116,105,99,109,101,116,104,111,100]⟩⟩ 75), (.type "staticmethod")⟩, ⟨kH P ⟨⟨[115,116,114]⟩⟩, (.str ⟨⟨[115,116,114]⟩⟩ 76), (.type "str")⟩, ⟨kH P ⟨⟨[115,117,112,101,114]⟩⟩, (.str ⟨⟨[115,117,112,101,114]⟩⟩ 77), (.type "super")⟩, ⟨kH P ⟨⟨[116,117,112,108,101]⟩⟩, (.str ⟨⟨[116,117,112,108,101]⟩⟩ 78), (.type "tuple")⟩, ⟨kH P ⟨⟨[116,121,112,101]⟩⟩, (.str ⟨⟨[116,121,112,101]⟩⟩ 79), (.type "type")⟩, ⟨kH P ⟨⟨[122,105,112]⟩⟩, (.str ⟨⟨[122,105,112]⟩⟩ 80), (.type "zip")⟩, ⟨kH P ⟨⟨[95,95,100,101,98,117,103,95,95]⟩⟩, (.str ⟨⟨[95,95,100,101,98,117,103,95,95]⟩⟩ 81), (.bool true)⟩, ⟨kH P ⟨⟨[66,97,115,101,69,120,99,101,112,116,105,111,110]⟩⟩, (.str ⟨⟨[66,97,115,101,69,120,99,101,112,116,105,111,110]⟩⟩ 82), (.type "BaseException")⟩, ⟨kH P ⟨⟨[66,97,115,101,69,120,99,101,112,116,105,111,110,71,114,111,117,112]⟩⟩, (.str ⟨⟨[66,97,115,101,69,120,99,101,112,116,105,111,110,71,114,111,117,112]⟩⟩ 83), (.type "BaseExceptionGroup")⟩, ⟨kH P ⟨⟨[69,120,99,101,112,116,105,111,110]⟩⟩, (.str ⟨⟨[69,120,99,101,112,116,105,111,110]⟩⟩ 84), (.type "Exception")⟩, ⟨kH P ⟨⟨[71,101,110,101,114,97,116,111,114,69,120,105,116]⟩⟩, (.str ⟨⟨[71,101,110,101,114,97,116,111,114,69,120,105,116]⟩⟩ 85), (.type "GeneratorExit")⟩, ⟨kH P ⟨⟨[75,101,121,98,111,97,114,100,73,110,116,101,114,114,117,112,116]⟩⟩, (.str ⟨⟨[75,101,121,98,111,97,114,100,73,110,116,101,114,114,117,112,116]⟩⟩ 86), (.type "KeyboardInterrupt")⟩, ⟨kH P ⟨⟨[83,121,115,116,101,109,69,120,105,116]⟩⟩, (.str ⟨⟨[83,121,115,116,101,109,69,120,105,116]⟩⟩ 87), (.type "SystemExit")⟩, ⟨kH P ⟨⟨[65,114,105,116,104,109,101,116,105,99,69,114,114,111,114]⟩⟩, (.str ⟨⟨[65,114,105,116,104,109,101,116,105,99,69,114,114,111,114]⟩⟩ 88), (.type "ArithmeticError")⟩, ⟨kH P ⟨⟨[65,115,115,101,114,116,105,111,110,69,114,114,111,114]⟩⟩, (.str ⟨⟨[65,115,115,101,114,116,105,111,110,69,114,114,111,114]⟩⟩ 89), (.type "AssertionError")⟩, ⟨kH P ⟨⟨[65,116,116,114,105,98,117,116,101,69,114,114,111,114]⟩⟩, (.str ⟨⟨[65,116,116,114,105,98,117,116,101,69,114,114,111,114]⟩⟩ 90), (.type "AttributeError")⟩, ⟨kH P ⟨⟨[66,117,102,102,101,114,69,114,114,111,114]⟩⟩, (.str ⟨⟨[66,117,102,102,101,114,69,114,114,111,114]⟩⟩ 91), (.type "BufferError")⟩, ⟨kH P ⟨⟨[69,79,70,69,114,114,111,114]⟩⟩, (.str ⟨⟨[69,79,70,69,114,114,111,114]⟩⟩ 92), (.type "EOFError")⟩, ⟨kH P ⟨⟨[73,109,112,111,114,116,69,114,114,111,114]⟩⟩, (.str ⟨⟨[73,109,112,111,114,116,69,114,114,111,114]⟩⟩ 93), (.type "ImportError")⟩, ⟨kH P ⟨⟨[76,111,111,107,117,112,69,114,114,111,114]⟩⟩, (.str ⟨⟨[76,111,111,107,117,112,69,114,114,111,114]⟩⟩ 94), (.type "LookupError")⟩, ⟨kH P ⟨⟨[77,101,109,111,114,121,69,114,114,111,114]⟩⟩, (.str ⟨⟨[77,101,109,111,114,121,69,114,114,111,114]⟩⟩ 95), (.type "MemoryError")⟩, ⟨kH P ⟨⟨[78,97,109,101,69,114,114,111,114]⟩⟩, (.str ⟨⟨[78,97,109,101,69,114,114,111,114]⟩⟩ 96), (.type "NameError")⟩, ⟨kH P ⟨⟨[79,83,69,114,114,111,114]⟩⟩, (.str ⟨⟨[79,83,69,114,114,111,114]⟩⟩ 97), (.type "OSError")⟩, ⟨kH P ⟨⟨[82,101,102,101,114,101,110,99,101,69,114,114,111,114]⟩⟩, (.str ⟨⟨[82,101,102,101,114,101,110,99,101,69,114,114,111,114]⟩⟩ 98), (.type "ReferenceError")⟩, ⟨kH P ⟨⟨[82,117,110,116,105,109,101,69,114,114,111,114]⟩⟩, (.str ⟨⟨[82,117,110,116,105,109,101,69,114,114,111,114]⟩⟩ 99), (.type "RuntimeError")⟩, ⟨kH P ⟨⟨[83,116,111,112,65,115,121,110,99,73,116,101,114,97,116,105,111,110]⟩⟩, (.str ⟨⟨[83,116,111,112,65,115,121,110,99,73,116,101,114,97,116,105,111,110]⟩⟩ 100), (.type "StopAsyncIteration")⟩, ⟨kH P ⟨⟨[83,116,111,112,73,116,101,114,97,116,105,111,110]⟩⟩, (.str ⟨⟨[83,116,111,112,73,116,101,114,97,116,105,111,110]⟩⟩ 101), (.type "StopIteration")⟩, ⟨kH P ⟨⟨[83,121,110,116,97,120,69,114,114,111,114]⟩⟩, (.str ⟨⟨[83,121,110,116,97,120,69,114,114,111,114]⟩⟩ 102), (.type "SyntaxError")⟩, ⟨kH P ⟨⟨[83,121,115,116,101,109,69,114,114,111,114]⟩⟩, (.str ⟨⟨[83,121,115,116,101,109,69,114,114,111,114]⟩⟩ 103), (.type "SystemError")⟩, ⟨kH P ⟨⟨[84,121,112,101,69,114,114,111,114]⟩⟩, (.str ⟨⟨[84,121,112,101,69,114,114,111,114]⟩⟩ 104), (.type "TypeError")⟩, ⟨kH P ⟨⟨[86,97,108,117,101,69,114,114,111,114]⟩⟩, (.str ⟨⟨[86,97,108,117,101,69,114,114,111,114]⟩⟩ 105), (.type "ValueError")⟩, ⟨kH P ⟨⟨[87,97,114,110,105,110,103]⟩⟩, (.str ⟨⟨[87,97,114,110,105,110,103]⟩⟩ 106), (.type "Warning")⟩, ⟨kH P ⟨⟨[70,108,111,97,116,105,110,103,80,111,105,110,116,69,114,114,111,114]⟩⟩, (.str ⟨⟨[70,108,111,97,116,105,110,103,80,111,105,110,116,69,114,114,111,114]⟩⟩ 107), (.type "FloatingPointError")⟩, ⟨kH P ⟨⟨[79,118,101,114,102,108,111,119,69,114,114,111,114]⟩⟩, (.str ⟨⟨[79,118,101,114,102,108,111,119,69,114,114,111,114]⟩⟩ 108), (.type "OverflowError")⟩, ⟨kH P ⟨⟨[90,101,114,111,68,105,118,105,115,105,111,110,69,114,114,111,114]⟩⟩, (.str ⟨⟨[90,101,114,111,68,105,118,105,115,105,111,110,69,114,114,111,114]⟩⟩ 109), (.type "ZeroDivisionError")⟩, ⟨kH P ⟨⟨[66,121,116,101,115,87,97,114,110,105,110,103]⟩⟩, (.str ⟨⟨[66,121,116,101,115,87,97,114,110,105,110,103]⟩⟩ 110), (.type "BytesWarning")⟩, ⟨kH P ⟨⟨[68,101,112,114,101,99,97,116,105,111,110,87,97,114,110,105,110,103]⟩⟩, (.str ⟨⟨[68,101,112,114,101,99,97,116,105,111,110,87,97,114,110,105,110,103]⟩⟩ 111), (.type "DeprecationWarning")⟩, ⟨kH P ⟨⟨[69,110,99,111,100,105,110,103,87,97,114,110,105,110,103]⟩⟩, (.str ⟨⟨[69,110,99,111,100,105,110,103,87,97,114,110,105,110,103]⟩⟩ 112), (.type "EncodingWarning")⟩, ⟨kH P ⟨⟨[70,117,116,117,114,101,87,97,114,110,105,110,103]⟩⟩, (.str ⟨⟨[70,117,116,117,114,101,87,97,114,110,105,110,103]⟩⟩ 113), (.type "FutureWarning")⟩, ⟨kH P ⟨⟨[73,109,112,111,114,116,87,97,114,110,105,110,103]⟩⟩, (.str ⟨⟨[73,109,112,111,114,116,87,97,114,110,105,110,103]⟩⟩ 114), (.type "ImportWarning")⟩, ⟨kH P ⟨⟨[80,101,110,100,105,110,103,68,101,112,114,101,99,97,116,105,111,110,87,97,114,110,105,110,103]⟩⟩, (.str ⟨⟨[80,101,110,100,105,110,103,68,101,112,114,101,99,97,116,105,111,110,87,97,114,110,105,110,103]⟩⟩ 115), (.type "PendingDeprecationWarning")⟩, ⟨kH P ⟨⟨[82,101,115,111,117,114,99,101,87,97,114,110,105,110,103]⟩⟩, (.str ⟨⟨[82,101,115,111,117,114,99,101,87,97,114,110,105,110,103]⟩⟩ 116), (.type "ResourceWarning")⟩, ⟨kH P ⟨⟨[82,117,110,116,105,109,101,87,97,114,110,105,110,103]⟩⟩, (.str ⟨⟨[82,117,110,116,105,109,101,87,97,114,110,105,110,103]⟩⟩ 117), (.type "RuntimeWarning")⟩, ⟨kH P ⟨⟨[83,121,110,116,97,120,87,97,114,110,105,110,103]⟩⟩, (.str ⟨⟨[83,121,110,116,97,120,87,97,114,110,105,110,103]⟩⟩ 118), (.type "SyntaxWarning")⟩, ⟨kH P ⟨⟨[85,110,105,99,111,100,101,87,97,114,110,105,110,103]⟩⟩, (.str ⟨⟨[85,110,105,99,111,100,101,87,97,114,110,105,110,103]⟩⟩ 119), (.type "UnicodeWarning")⟩, ⟨kH P ⟨⟨[85,115,101,114,87,97,114,110,105,110,103]⟩⟩, (.str ⟨⟨[85,115,101,114,87,97,114,110,105,110,103]⟩⟩ 120), (.type "UserWarning")⟩, ⟨kH P ⟨⟨[66,108,111,99,107,105,110,103,73,79,69,114,114,111,114]⟩⟩, (.str ⟨⟨[66,108,111,99,107,105,110,103,73,79,69,114,114,111,114]⟩⟩ 121), (.type "BlockingIOError")⟩, ⟨kH P ⟨⟨[67,104,105,108,100,80,114,111,99,101,115,115,69,114,114,111,114]⟩⟩, (.str ⟨⟨[67,104,105,108,100,80,114,111,99,101,115,115,69,114,114,111,114]⟩⟩ 122), (.type "ChildProcessError")⟩, ⟨kH P ⟨⟨[67,111,110,110,101,99,116,105,111,110,69,114,114,111,114]⟩⟩, (.str ⟨⟨[67,111,110,110,101,99,116,105,111,110,69,114,114,111,114]⟩⟩ 123), (.type "ConnectionError")⟩, ⟨kH P ⟨⟨[70,105,108,101,69,120,105,115,116,115,69,114,114,111,114]⟩⟩, (.str ⟨⟨[70,105,108,101,69,120,105,115,116,115,69,114,114,111,114]⟩⟩ 124), (.type "FileExistsError")⟩, ⟨kH P ⟨⟨[70,105,108,101,78,111,116,70,111,117,110,100,69,114,114,111,114]⟩⟩, (.str ⟨⟨[70,105,108,101,78,111,116,70,111,117,110,100,69,114,114,111,114]⟩⟩ 125), (.type "FileNotFoundError")⟩, ⟨kH P ⟨⟨[73,110,116,101,114,114,117,112,116,101,100,69,114,114,111,114]⟩⟩, (.str ⟨⟨[73,110,116,101,114,114,117,112,116,101,100,69,114,114,111,114]⟩⟩ 126), (.type "InterruptedError")⟩, ⟨kH P ⟨⟨[73,115,65,68,105,114,101,99,116,111,114,121,69,114,114,111,114]⟩⟩, (.str ⟨⟨[73,115,65,68,105,114,101,99,116,111,114,121,69,114,114,111,114]⟩⟩ 127), (.type "IsADirectoryError")⟩, ⟨kH P ⟨⟨[78,111,116,65,68,105,114,101,99,116,111,114,121,69,114,114,111,114]⟩⟩, (.str ⟨⟨[78,111,116,65,68,105,114,101,99,116,111,114,121,69,114,114,111,114]⟩⟩ 128), (.type "NotADirectoryError")⟩, ⟨kH P ⟨⟨[80,101,114,109,105,115,115,105,111,110,69,114,114,111,114]⟩⟩, (.str ⟨⟨[80,101,114,109,105,115,115,105,111,110,69,114,114,111,114]⟩⟩ 129), (.type "PermissionError")⟩, ⟨kH P ⟨⟨[80,114,111,99,101,115,115,76,111,111,107,117,112,69,114,114,111,114]⟩⟩, (.str ⟨⟨[80,114,111,99,101,115,115,76,111,111,107,117,112,69,114,114,111,114]⟩⟩ 130), (.type "ProcessLookupError")⟩, ⟨kH P ⟨⟨[84,105,109,101,111,117,116,69,114,114,111,114]⟩⟩, (.str ⟨⟨[84,105,109,101,111,117,116,69,114,114,111,114]⟩⟩ 131), (.type "TimeoutError")⟩, ⟨kH P ⟨⟨[73,110,100,101,110,116,97,116,105,111,110,69,114,114,111,114]⟩⟩, (.str ⟨⟨[73,110,100,101,110,116,97,116,105,111,110,69,114,114,111,114]⟩⟩ 132), (.type "IndentationError")⟩, ⟨kH P ⟨⟨[95,73,110,99,111,109,112,108,101,116,101,73,110,112,117,116,69,114,114,111,114]⟩⟩, (.str ⟨⟨[95,73,110,99,111,109,112,108,101,116,101,73,110,112,117,116,69,114,114,111,114]⟩⟩ 133), (.type "_IncompleteInputError")⟩, ⟨kH P ⟨⟨[73,110,100,101,120,69,114,114,111,114]⟩⟩, (.str ⟨⟨[73,110,100,101,120,69,114,114,111,114]⟩⟩ 134), (.type "IndexError")⟩, ⟨kH P ⟨⟨[75,101,121,69,114,114,111,114]⟩⟩, (.str ⟨⟨[75,101,121,69,114,114,111,114]⟩⟩ 135), (.type "KeyError")⟩, ⟨kH P ⟨⟨[77,111,100,117,108,101,78,111,116,70,111,117,110,100,69,114,114,111,114]⟩⟩, (.str ⟨⟨[77,111,100,117,108,101,78,111,116,70,111,117,110,100,69,114,114,111,114]⟩⟩ 136), (.type "ModuleNotFoundError")⟩, ⟨kH P ⟨⟨[78,111,116,73,109,112,108,101,109,101,110,116,101,100,69,114,114,111,114]⟩⟩, (.str ⟨⟨[78,111,116,73,109,112,108,101,109,101,110,116,101,100,69,114,114,111,114]⟩⟩ 137), (.type "NotImplementedError")⟩, ⟨kH P ⟨⟨[80,121,116,104,111,110,70,105,110,97,108,105,122,97,116,105,111,110,69,114,114,111,114]⟩⟩, (.str ⟨⟨[80,121,116,104,111,110,70,105,110,97,108,105,122,97,116,105,111,110,69,114,114,111,114]⟩⟩ 138), (.type "PythonFinalizationError")⟩, ⟨kH P ⟨⟨[82,101,99,117,114,115,105,111,110,69,114,114,111,114]⟩⟩, (.str ⟨⟨[82,101,99,117,114,115,105,111,110,69,114,114,111,114]⟩⟩ 139), (.type "RecursionError")⟩, ⟨kH P ⟨⟨[85,110,98,111,117,110,100,76,111,99,97,108,69,114,114,111,114]⟩⟩, (.str ⟨⟨[85,110,98,111,117,110,100,76,111,99,97,108,69,114,114,111,114]⟩⟩ 140), (.type "UnboundLocalError")⟩, ⟨kH P ⟨⟨[85,110,105,99,111,100,101,69,114,114,111,114]⟩⟩, (.str ⟨⟨[85,110,105,99,111,100,101,69,114,114,111,114]⟩⟩ 141), (.type "UnicodeError")⟩, ⟨kH P ⟨⟨[66,114,111,107,101,110,80,105,112,101,69,114,114,111,114]⟩⟩, (.str ⟨⟨[66,114,111,107,101,110,80,105,112,101,69,114,114,111,114]⟩⟩ 142), (.type "BrokenPipeError")⟩, ⟨kH P ⟨⟨[67,111,110,110,101,99,116,105,111,110,65,98,111,114,116,101,100,69,114,114,111,114]⟩⟩, (.str ⟨⟨[67,111,110,110,101,99,116,105,111,110,65,98,111,114,116,101,100,69,114,114,111,114]⟩⟩ 143), (.type "ConnectionAbortedError")⟩, ⟨kH P ⟨⟨[67,111,110,110,101,99,116,105,111,110,82,101,102,117,115,101,100,69,114,114,111,114]⟩⟩, (.str ⟨⟨[67,111,110,110,101,99,116,105,111,110,82,101,102,117,115,101,100,69,114,114,111,114]⟩⟩ 144), (.type "ConnectionRefusedError")⟩, ⟨kH P ⟨⟨[67,111,110,110,101,99,116,105,111,110,82,101,115,101,116,69,114,114,111,114]⟩⟩, (.str ⟨⟨[67,111,110,110,101,99,116,105,111,110,82,101,115,101,116,69,114,114,111,114]⟩⟩ 145), (.type "ConnectionResetError")⟩, ⟨kH P ⟨⟨[84,97,98,69,114,114,111,114]⟩⟩, (.str ⟨⟨[84,97,98,69,114,114,111,114]⟩⟩ 146), (.type "TabError")⟩, ⟨kH P ⟨⟨[85,110,105,99,111,100,101,68,101,99,111,100,101,69,114,114,111,114]⟩⟩, (.str ⟨⟨[85,110,105,99,111,100,101,68,101,99,111,100,101,69,114,114,111,114]⟩⟩ 147), (.type "UnicodeDecodeError")⟩, ⟨kH P ⟨⟨[85,110,105,99,111,100,101,69,110,99,111,100,101,69,114,114,111,114]⟩⟩, (.str ⟨⟨[85,110,105,99,111,100,101,69,110,99,111,100,101,69,114,114,111,114]⟩⟩ 148), (.type "UnicodeEncodeError")⟩, ⟨kH P ⟨⟨[85,110,105,99,111,100,101,84,114,97,110,115,108,97,116,101,69,114,114,111,114]⟩⟩, (.str ⟨⟨[85,110,105,99,111,100,101,84,114,97,110,115,108,97,116,101,69,114,114,111,114]⟩⟩ 149), (.type "UnicodeTranslateError")⟩, ⟨kH P ⟨⟨[69,120,99,101,112,116,105,111,110,71,114,111,117,112]⟩⟩, (.str ⟨⟨[69,120,99,101,112,116,105,111,110,71,114,111,117,112]⟩⟩ 150), (.type "ExceptionGroup")⟩, ⟨kH P ⟨⟨[69,110,118,105,114,111,110,109,101,110,116,69,114,114,111,114]⟩⟩, (.str ⟨⟨[69,110,118,105,114,111,110,109,101,110,116,69,114,114,111,114]⟩⟩ 151), (.type "OSError")⟩, ⟨kH P ⟨⟨[73,79,69,114,114,111,114]⟩⟩, (.str ⟨⟨[73,79,69,114,114,111,114]⟩⟩ 152), (.type "OSError")⟩, ⟨kH P ⟨⟨[111,112,101,110]⟩⟩, (.str ⟨⟨[111,112,101,110]⟩⟩ 153), (.builtin "open")⟩, ⟨kH P ⟨⟨[113,117,105,116]⟩⟩, (.str ⟨⟨[113,117,105,116]⟩⟩ 154), (.builtin "builtins.quit#opaque")⟩, ⟨kH P ⟨⟨[101,120,105,116]⟩⟩, (.str ⟨⟨[101,120,105,116]⟩⟩ 155), (.builtin "builtins.exit#opaque")⟩, ⟨kH P ⟨⟨[99,111,112,121,114,105,103,104,116]⟩⟩, (.str ⟨⟨[99,111,112,121,114,105,103,104,116]⟩⟩ 156), (.builtin "builtins.copyright#opaque")⟩, ⟨kH P ⟨⟨[99,114,101,100,105,116,115]⟩⟩, (.str ⟨⟨[99,114,101,100,105,116,115]⟩⟩ 157), (.builtin "builtins.credits#opaque")⟩, ⟨kH P ⟨⟨[108,105,99,101,110,115,101]⟩⟩, (.str ⟨⟨[108,105,99,101,110,115,101]⟩⟩ 158), (.builtin "builtins.license#opaque")⟩, ⟨kH P ⟨⟨[104,101,108,112]⟩⟩, (.str ⟨⟨[104,101,108,112]⟩⟩ 159), (.builtin "builtins.help#opaque")⟩]⟩ 159), ⟨[]⟩⟩),
  (1, ⟨dI, none, (.dict ⟨[⟨kH P ⟨⟨[98,117,105,108,116,105,110,115]⟩⟩, (.str ⟨⟨[98,117,105,108,116,105,110,115]⟩⟩ 162), (.ref 4)⟩, ⟨kH P ⟨⟨[95,95,109,97,105,110,95,95]⟩⟩, (.str ⟨⟨[95,95,109,97,105,110,95,95]⟩⟩ 163), (.ref 5)⟩, ⟨kH P ⟨⟨[95,115,114,101]⟩⟩, (.str ⟨⟨[95,115,114,101]⟩⟩ 244), (.ref 12)⟩]⟩ 3), ⟨[]⟩⟩),
  (2, ⟨.none, none, (.dict ⟨[⟨kH P ⟨⟨[105,109,112,111,114,116,46,108,111,97,100,101,100,46,95,115,114,101]⟩⟩, (.str ⟨⟨[105,109,112,111,114,116,46,108,111,97,100,101,100,46,95,115,114,101]⟩⟩ 183), (.bool true)⟩, ⟨kH P ⟨⟨[99,108,97,115,115,46,95,102,114,111,122,101,110,95,105,109,112,111,114,116,108,105,98,46,66,117,105,108,116,105,110,73,109,112,111,114,116,101,114]⟩⟩, (.str ⟨⟨[99,108,97,115,115,46,95,102,114,111,122,101,110,95,105,109,112,111,114,116,108,105,98,46,66,117,105,108,116,105,110,73,109,112,111,114,116,101,114]⟩⟩ 185), (.ref 14)⟩, ⟨kH P ⟨⟨[119,97,116,99,104,101,100,46,105,109,112,111,114,116]⟩⟩, (.str ⟨⟨[119,97,116,99,104,101,100,46,105,109,112,111,114,116]⟩⟩ 206), (.ref 18)⟩, ⟨kH P ⟨⟨[99,108,97,115,115,46,95,102,114,111,122,101,110,95,105,109,112,111,114,116,108,105,98,46,77,111,100,117,108,101,83,112,101,99]⟩⟩, (.str ⟨⟨[99,108,97,115,115,46,95,102,114,111,122,101,110,95,105,109,112,111,114,116,108,105,98,46,77,111,100,117,108,101,83,112,101,99]⟩⟩ 216), (.ref 22)⟩, ⟨kH P ⟨⟨[115,121,115,46,109,111,100,117,108,101,115,46,98,111,111,107,101,100,45,101,112,111,99,104]⟩⟩, (.str ⟨⟨[115,121,115,46,109,111,100,117,108,101,115,46,98,111,111,107,101,100,45,101,112,111,99,104]⟩⟩ 245), (.int 3 0)⟩, ⟨kH P ⟨⟨[105,109,112,111,114,116,46,108,97,116,101,114,45,108,97,105,100,46,95,115,114,101]⟩⟩, (.str ⟨⟨[105,109,112,111,114,116,46,108,97,116,101,114,45,108,97,105,100,46,95,115,114,101]⟩⟩ 270), (.bool true)⟩, ⟨kH P ⟨⟨[119,97,116,99,104,101,100,46,108,105,98,114,97,114,121]⟩⟩, (.str ⟨⟨[119,97,116,99,104,101,100,46,108,105,98,114,97,114,121]⟩⟩ 272), (.ref 27)⟩, ⟨kH P ⟨⟨[119,97,116,99,104,101,100,46,108,105,98,114,97,114,121,45,111,98,106,101,99,116,115]⟩⟩, (.str ⟨⟨[119,97,116,99,104,101,100,46,108,105,98,114,97,114,121,45,111,98,106,101,99,116,115]⟩⟩ 0), (.str ⟨⟨[12]⟩⟩ 0)⟩, ⟨kH P ⟨⟨[119,97,116,99,104,101,100,46,108,105,98,114,97,114,121,45,100,101,101,112,46,95,115,114,101]⟩⟩, (.str ⟨⟨[119,97,116,99,104,101,100,46,108,105,98,114,97,114,121,45,100,101,101,112,46,95,115,114,101]⟩⟩ 273), (.str ⟨⟨[4,0,0,11,4,0,0,11,4,0,0,3,4,0,0,11,8,4,100,105,99,116,2]⟩⟩ 0)⟩]⟩ 9), ⟨[]⟩⟩),
  (3, ⟨dI, none, (.dict ⟨[⟨kH P z13', (.str z13' 165), (.str ⟨⟨[95,95,109,97,105,110,95,95]⟩⟩ 164)⟩, ⟨kH P z12', (.str z12' 166), .none⟩, ⟨kH P z10', (.str z10' 167), .none⟩, ⟨kH P z11', (.str z11' 168), (.builtin "__main__.__loader__#opaque")⟩, ⟨kH P z14', (.str z14' 169), .none⟩, ⟨kH P ⟨⟨[95,95,97,110,110,111,116,97,116,105,111,110,115,95,95]⟩⟩, (.str ⟨⟨[95,95,97,110,110,111,116,97,116,105,111,110,115,95,95]⟩⟩ 170), (.ref 6)⟩, ⟨kH P ⟨⟨[95,95,98,117,105,108,116,105,110,115,95,95]⟩⟩, (.str ⟨⟨[95,95,98,117,105,108,116,105,110,115,95,95]⟩⟩ 171), (.ref 4)⟩, ⟨kH P ⟨⟨[95,95,102,105,108,101,95,95]⟩⟩, (.str ⟨⟨[95,95,102,105,108,101,95,95]⟩⟩ 173), (.str z7' 172)⟩, ⟨kH P ⟨⟨[95,95,99,97,99,104,101,100,95,95]⟩⟩, (.str ⟨⟨[95,95,99,97,99,104,101,100,95,95]⟩⟩ 174), .none⟩, ⟨kH P ⟨⟨[95,115,114,101]⟩⟩, (.str ⟨⟨[95,115,114,101]⟩⟩ 275), (.ref 12)⟩]⟩ 10), ⟨[]⟩⟩),
  (4, ⟨(.type "module"), (some 0), .plain, ⟨[]⟩⟩),
  (5, ⟨(.type "module"), (some 3), .plain, ⟨[]⟩⟩),
  (6, ⟨dI, none, (.dict ⟨[]⟩ 0), ⟨[]⟩⟩),
  (7, ⟨tU, none, (.seq ⟨[]⟩ 0), ⟨[]⟩⟩),
  (8, ⟨.none, none, (.fields ⟨[]⟩), ⟨[]⟩⟩),
  (9, ⟨(.type "code"), none, (.fields ⟨[(.str ⟨⟨[60,109,111,100,117,108,101,62]⟩⟩ 176), (.str ⟨⟨[60,109,111,100,117,108,101,62]⟩⟩ 177), (.str z7' 178), (.int 1 0), (.int 0 0), (.int 0 0), (.int 0 0), (.int 0 0), (.ref 7), (.bool false), (.int 175 0), (.ref 8), .none, .none, .none, .none, (.int 179 0), (.int 1 0), (.str z7' 180)]⟩), ⟨[]⟩⟩),
  (10, ⟨(.type "frame"), none, .plain, ⟨[(some (.ref 9)), (some (.ref 3)), (some (.ref 3)), none, (some (.str ⟨⟨[95,95,109,97,105,110,95,95]⟩⟩ 164)), none, (some (.ref 0))]⟩⟩),
  (11, ⟨dI, none, (.dict ⟨[⟨kH P z13', (.str z13' 247), (.str ⟨⟨[95,115,114,101]⟩⟩ 246)⟩, ⟨kH P z12', (.str z12' 248), .none⟩, ⟨kH P z10', (.str z10' 250), (.str ⟨⟨[]⟩⟩ 249)⟩, ⟨kH P z11', (.str z11' 251), (.ref 14)⟩, ⟨kH P z14', (.str z14' 252), (.ref 26)⟩, ⟨kH P ⟨⟨[99,111,109,112,105,108,101]⟩⟩, (.str ⟨⟨[99,111,109,112,105,108,101]⟩⟩ 253), (.builtin "_sre.compile")⟩, ⟨kH P ⟨⟨[116,101,109,112,108,97,116,101]⟩⟩, (.str ⟨⟨[116,101,109,112,108,97,116,101]⟩⟩ 254), (.builtin "_sre.template")⟩, ⟨kH P ⟨⟨[103,101,116,99,111,100,101,115,105,122,101]⟩⟩, (.str ⟨⟨[103,101,116,99,111,100,101,115,105,122,101]⟩⟩ 255), (.builtin "_sre.getcodesize")⟩, ⟨kH P ⟨⟨[97,115,99,105,105,95,105,115,99,97,115,101,100]⟩⟩, (.str ⟨⟨[97,115,99,105,105,95,105,115,99,97,115,101,100]⟩⟩ 256), (.builtin "_sre.ascii_iscased")⟩, ⟨kH P ⟨⟨[117,110,105,99,111,100,101,95,105,115,99,97,115,101,100]⟩⟩, (.str ⟨⟨[117,110,105,99,111,100,101,95,105,115,99,97,115,101,100]⟩⟩ 257), (.builtin "_sre.unicode_iscased")⟩, ⟨kH P ⟨⟨[97,115,99,105,105,95,116,111,108,111,119,101,114]⟩⟩, (.str ⟨⟨[97,115,99,105,105,95,116,111,108,111,119,101,114]⟩⟩ 258), (.builtin "_sre.ascii_tolower")⟩, ⟨kH P ⟨⟨[117,110,105,99,111,100,101,95,116,111,108,111,119,101,114]⟩⟩, (.str ⟨⟨[117,110,105,99,111,100,101,95,116,111,108,111,119,101,114]⟩⟩ 259), (.builtin "_sre.unicode_tolower")⟩, ⟨kH P ⟨⟨[77,65,71,73,67]⟩⟩, (.str ⟨⟨[77,65,71,73,67]⟩⟩ 261), (.int 20230612 260)⟩, ⟨kH P ⟨⟨[67,79,68,69,83,73,90,69]⟩⟩, (.str ⟨⟨[67,79,68,69,83,73,90,69]⟩⟩ 263), (.int 4 262)⟩, ⟨kH P ⟨⟨[77,65,88,82,69,80,69,65,84]⟩⟩, (.str ⟨⟨[77,65,88,82,69,80,69,65,84]⟩⟩ 265), (.int 4294967295 264)⟩, ⟨kH P ⟨⟨[77,65,88,71,82,79,85,80,83]⟩⟩, (.str ⟨⟨[77,65,88,71,82,79,85,80,83]⟩⟩ 267), (.int 1073741823 266)⟩] ++ (q0' P)⟩ 17), ⟨[]⟩⟩),
  (12, ⟨(.type "module"), (some 11), .plain, ⟨[]⟩⟩),
  (13, ⟨dI, none, (.dict ⟨[⟨kH P ⟨⟨[95,95,109,111,100,117,108,101,95,95]⟩⟩, (.str ⟨⟨[95,95,109,111,100,117,108,101,95,95]⟩⟩ 189), (.str ⟨⟨[95,102,114,111,122,101,110,95,105,109,112,111,114,116,108,105,98]⟩⟩ 186)⟩, ⟨kH P ⟨⟨[95,95,102,105,114,115,116,108,105,110,101,110,111,95,95]⟩⟩, (.str ⟨⟨[95,95,102,105,114,115,116,108,105,110,101,110,111,95,95]⟩⟩ 190), (.int 971 187)⟩, ⟨kH P z12', (.str z12' 191), (.builtin "_frozen_importlib.BuiltinImporter.__doc__:str#opaque")⟩, ⟨kH P ⟨⟨[95,79,82,73,71,73,78]⟩⟩, (.str ⟨⟨[95,79,82,73,71,73,78]⟩⟩ 192), (.str ⟨⟨[98,117,105,108,116,45,105,110]⟩⟩ 188)⟩, ⟨kH P ⟨⟨[102,105,110,100,95,115,112,101,99]⟩⟩, (.str ⟨⟨[102,105,110,100,95,115,112,101,99]⟩⟩ 193), (.builtin "_frozen_importlib.BuiltinImporter.find_spec#opaque")⟩, ⟨kH P ⟨⟨[99,114,101,97,116,101,95,109,111,100,117,108,101]⟩⟩, (.str ⟨⟨[99,114,101,97,116,101,95,109,111,100,117,108,101]⟩⟩ 194), (.builtin "_frozen_importlib.BuiltinImporter.create_module#opaque")⟩, ⟨kH P ⟨⟨[101,120,101,99,95,109,111,100,117,108,101]⟩⟩, (.str ⟨⟨[101,120,101,99,95,109,111,100,117,108,101]⟩⟩ 195), (.builtin "_frozen_importlib.BuiltinImporter.exec_module#opaque")⟩, ⟨kH P ⟨⟨[103,101,116,95,99,111,100,101]⟩⟩, (.str ⟨⟨[103,101,116,95,99,111,100,101]⟩⟩ 196), (.builtin "_frozen_importlib.BuiltinImporter.get_code#opaque")⟩, ⟨kH P ⟨⟨[103,101,116,95,115,111,117,114,99,101]⟩⟩, (.str ⟨⟨[103,101,116,95,115,111,117,114,99,101]⟩⟩ 197), (.builtin "_frozen_importlib.BuiltinImporter.get_source#opaque")⟩, ⟨kH P ⟨⟨[105,115,95,112,97,99,107,97,103,101]⟩⟩, (.str ⟨⟨[105,115,95,112,97,99,107,97,103,101]⟩⟩ 198), (.builtin "_frozen_importlib.BuiltinImporter.is_package#opaque")⟩, ⟨kH P ⟨⟨[108,111,97,100,95,109,111,100,117,108,101]⟩⟩, (.str ⟨⟨[108,111,97,100,95,109,111,100,117,108,101]⟩⟩ 199), (.builtin "_frozen_importlib.BuiltinImporter.load_module#opaque")⟩, ⟨kH P ⟨⟨[95,95,115,116,97,116,105,99,95,97,116,116,114,105,98,117,116,101,115,95,95]⟩⟩, (.str ⟨⟨[95,95,115,116,97,116,105,99,95,97,116,116,114,105,98,117,116,101,115,95,95]⟩⟩ 200), (.ref 15)⟩, ⟨kH P ⟨⟨[95,95,100,105,99,116,95,95]⟩⟩, (.str ⟨⟨[95,95,100,105,99,116,95,95]⟩⟩ 202), (.ref 16)⟩, ⟨kH P ⟨⟨[95,95,119,101,97,107,114,101,102,95,95]⟩⟩, (.str ⟨⟨[95,95,119,101,97,107,114,101,102,95,95]⟩⟩ 204), (.ref 17)⟩]⟩ 14), ⟨[]⟩⟩),
  (14, ⟨(.type "type"), none, (.cls { name := ⟨⟨[66,117,105,108,116,105,110,73,109,112,111,114,116,101,114]⟩⟩, bases := [(.type "object")], mro := [(.ref 14), (.type "object")], ns := 13, qualname := ⟨⟨[66,117,105,108,116,105,110,73,109,112,111,114,116,101,114]⟩⟩, hasDict := true, slotNames := [], subclasses := [], abstract := false, collection := none, hasDel := false }), ⟨[]⟩⟩),
  (15, ⟨tU, none, (.seq ⟨[]⟩ 0), ⟨[]⟩⟩),
  (16, ⟨(.type "getset_descriptor"), none, (.fields ⟨[(.str ⟨⟨[95,95,100,105,99,116,95,95]⟩⟩ 201), (.ref 14), (.builtin "function.__dict__"), (.builtin "function.__dict__#set")]⟩), ⟨[]⟩⟩),
  (17, ⟨(.type "getset_descriptor"), none, (.fields ⟨[(.str ⟨⟨[95,95,119,101,97,107,114,101,102,95,95]⟩⟩ 203), (.ref 14), (.builtin "ExceptionGroup.__weakref__"), .none]⟩), ⟨[]⟩⟩),
  (18, ⟨.none, none, (.seq ⟨[(.int 13 0), (.str ⟨⟨[6,189,10,95,95,109,111,100,117,108,101,95,95,6,186,17,95,102,114,111,122,101,110,95,105,109,112,111,114,116,108,105,98,6,190,15,95,95,102,105,114,115,116,108,105,110,101,110,111,95,95,4,187,0,971,6,191,7,95,95,100,111,99,95,95,9,52,95,102,114,111,122,101,110,95,105,109,112,111,114,116,108,105,98,46,66,117,105,108,116,105,110,73,109,112,111,114,116,101,114,46,95,95,100,111,99,95,95,58,115,116,114,35,111,112,97,113,117,101,6,192,7,95,79,82,73,71,73,78,6,188,8,98,117,105,108,116,45,105,110,6,193,9,102,105,110,100,95,115,112,101,99,9,50,95,102,114,111,122,101,110,95,105,109,112,111,114,116,108,105,98,46,66,117,105,108,116,105,110,73,109,112,111,114,116,101,114,46,102,105,110,100,95,115,112,101,99,35,111,112,97,113,117,101,6,194,13,99,114,101,97,116,101,95,109,111,100,117,108,101,9,54,95,102,114,111,122,101,110,95,105,109,112,111,114,116,108,105,98,46,66,117,105,108,116,105,110,73,109,112,111,114,116,101,114,46,99,114,101,97,116,101,95,109,111,100,117,108,101,35,111,112,97,113,117,101,6,195,11,101,120,101,99,95,109,111,100,117,108,101,9,52,95,102,114,111,122,101,110,95,105,109,112,111,114,116,108,105,98,46,66,117,105,108,116,105,110,73,109,112,111,114,116,101,114,46,101,120,101,99,95,109,111,100,117,108,101,35,111,112,97,113,117,101,6,196,8,103,101,116,95,99,111,100,101,9,49,95,102,114,111,122,101,110,95,105,109,112,111,114,116,108,105,98,46,66,117,105,108,116,105,110,73,109,112,111,114,116,101,114,46,103,101,116,95,99,111,100,101,35,111,112,97,113,117,101,6,197,10,103,101,116,95,115,111,117,114,99,101,9,51,95,102,114,111,122,101,110,95,105,109,112,111,114,116,108,105,98,46,66,117,105,108,116,105,110,73,109,112,111,114,116,101,114,46,103,101,116,95,115,111,117,114,99,101,35,111,112,97,113,117,101,6,198,10,105,115,95,112,97,99,107,97,103,101,9,51,95,102,114,111,122,101,110,95,105,109,112,111,114,116,108,105,98,46,66,117,105,108,116,105,110,73,109,112,111,114,116,101,114,46,105,115,95,112,97,99,107,97,103,101,35,111,112,97,113,117,101,6,199,11,108,111,97,100,95,109,111,100,117,108,101,9,52,95,102,114,111,122,101,110,95,105,109,112,111,114,116,108,105,98,46,66,117,105,108,116,105,110,73,109,112,111,114,116,101,114,46,108,111,97,100,95,109,111,100,117,108,101,35,111,112,97,113,117,101,6,200,21,95,95,115,116,97,116,105,99,95,97,116,116,114,105,98,117,116,101,115,95,95,4,0,0,15,6,202,8,95,95,100,105,99,116,95,95,4,0,0,16,6,204,11,95,95,119,101,97,107,114,101,102,95,95,4,0,0,17]⟩⟩ 0), (.bool true), (.bool true), (.str ⟨⟨[]⟩⟩ 205), (.int 21 0), (.str ⟨⟨[6,227,10,95,95,109,111,100,117,108,101,95,95,6,217,17,95,102,114,111,122,101,110,95,105,109,112,111,114,116,108,105,98,6,228,15,95,95,102,105,114,115,116,108,105,110,101,110,111,95,95,4,218,0,562,6,229,7,95,95,100,111,99,95,95,9,47,95,102,114,111,122,101,110,95,105,109,112,111,114,116,108,105,98,46,77,111,100,117,108,101,83,112,101,99,46,95,95,100,111,99,95,95,58,115,116,114,35,111,112,97,113,117,101,6,230,8,95,95,105,110,105,116,95,95,9,44,95,102,114,111,122,101,110,95,105,109,112,111,114,116,108,105,98,46,77,111,100,117,108,101,83,112,101,99,46,95,95,105,110,105,116,95,95,35,111,112,97,113,117,101,6,231,8,95,95,114,101,112,114,95,95,9,44,95,102,114,111,122,101,110,95,105,109,112,111,114,116,108,105,98,46,77,111,100,117,108,101,83,112,101,99,46,95,95,114,101,112,114,95,95,35,111,112,97,113,117,101,6,232,6,95,95,101,113,95,95,9,42,95,102,114,111,122,101,110,95,105,109,112,111,114,116,108,105,98,46,77,111,100,117,108,101,83,112,101,99,46,95,95,101,113,95,95,35,111,112,97,113,117,101,6,233,6,99,97,99,104,101,100,9,42,95,102,114,111,122,101,110,95,105,109,112,111,114,116,108,105,98,46,77,111,100,117,108,101,83,112,101,99,46,99,97,99,104,101,100,35,111,112,97,113,117,101,6,234,6,112,97,114,101,110,116,9,42,95,102,114,111,122,101,110,95,105,109,112,111,114,116,108,105,98,46,77,111,100,117,108,101,83,112,101,99,46,112,97,114,101,110,116,35,111,112,97,113,117,101,6,235,12,104,97,115,95,108,111,99,97,116,105,111,110,9,48,95,102,114,111,122,101,110,95,105,109,112,111,114,116,108,105,98,46,77,111,100,117,108,101,83,112,101,99,46,104,97,115,95,108,111,99,97,116,105,111,110,35,111,112,97,113,117,101,6,236,21,95,95,115,116,97,116,105,99,95,97,116,116,114,105,98,117,116,101,115,95,95,4,0,0,23,6,238,8,95,95,100,105,99,116,95,95,4,0,0,24,6,240,11,95,95,119,101,97,107,114,101,102,95,95,4,0,0,25,6,241,8,95,95,104,97,115,104,95,95,0]⟩⟩ 0), (.bool true), (.bool true), (.str ⟨⟨[]⟩⟩ 242)]⟩ 1), ⟨[]⟩⟩),
  (19, ⟨lI, none, (.seq ⟨[]⟩ 0), ⟨[]⟩⟩),
  (20, ⟨dI, none, (.dict ⟨[⟨kH P ⟨⟨[110,97,109,101]⟩⟩, (.str ⟨⟨[110,97,109,101]⟩⟩ 208), (.str ⟨⟨[95,115,114,101]⟩⟩ 207)⟩, ⟨kH P ⟨⟨[108,111,97,100,101,114]⟩⟩, (.str ⟨⟨[108,111,97,100,101,114]⟩⟩ 209), (.ref 14)⟩, ⟨kH P ⟨⟨[111,114,105,103,105,110]⟩⟩, (.str ⟨⟨[111,114,105,103,105,110]⟩⟩ 210), (.str ⟨⟨[98,117,105,108,116,45,105,110]⟩⟩ 184)⟩, ⟨kH P ⟨⟨[108,111,97,100,101,114,95,115,116,97,116,101]⟩⟩, (.str ⟨⟨[108,111,97,100,101,114,95,115,116,97,116,101]⟩⟩ 211), .none⟩, ⟨kH P ⟨⟨[115,117,98,109,111,100,117,108,101,95,115,101,97,114,99,104,95,108,111,99,97,116,105,111,110,115]⟩⟩, (.str ⟨⟨[115,117,98,109,111,100,117,108,101,95,115,101,97,114,99,104,95,108,111,99,97,116,105,111,110,115]⟩⟩ 212), .none⟩, ⟨kH P ⟨⟨[95,117,110,105,110,105,116,105,97,108,105,122,101,100,95,115,117,98,109,111,100,117,108,101,115]⟩⟩, (.str ⟨⟨[95,117,110,105,110,105,116,105,97,108,105,122,101,100,95,115,117,98,109,111,100,117,108,101,115]⟩⟩ 213), (.ref 19)⟩, ⟨kH P ⟨⟨[95,115,101,116,95,102,105,108,101,97,116,116,114]⟩⟩, (.str ⟨⟨[95,115,101,116,95,102,105,108,101,97,116,116,114]⟩⟩ 214), (.bool false)⟩, ⟨kH P ⟨⟨[95,99,97,99,104,101,100]⟩⟩, (.str ⟨⟨[95,99,97,99,104,101,100]⟩⟩ 215), .none⟩, ⟨kH P ⟨⟨[95,105,110,105,116,105,97,108,105,122,105,110,103]⟩⟩, (.str ⟨⟨[95,105,110,105,116,105,97,108,105,122,105,110,103]⟩⟩ 243), (.bool false)⟩]⟩ 9), ⟨[]⟩⟩),
  (21, ⟨dI, none, (.dict ⟨[⟨kH P ⟨⟨[95,95,109,111,100,117,108,101,95,95]⟩⟩, (.str ⟨⟨[95,95,109,111,100,117,108,101,95,95]⟩⟩ 227), (.str ⟨⟨[95,102,114,111,122,101,110,95,105,109,112,111,114,116,108,105,98]⟩⟩ 217)⟩, ⟨kH P ⟨⟨[95,95,102,105,114,115,116,108,105,110,101,110,111,95,95]⟩⟩, (.str ⟨⟨[95,95,102,105,114,115,116,108,105,110,101,110,111,95,95]⟩⟩ 228), (.int 562 218)⟩, ⟨kH P z12', (.str z12' 229), (.builtin "_frozen_importlib.ModuleSpec.__doc__:str#opaque")⟩, ⟨kH P ⟨⟨[95,95,105,110,105,116,95,95]⟩⟩, (.str ⟨⟨[95,95,105,110,105,116,95,95]⟩⟩ 230), (.builtin "_frozen_importlib.ModuleSpec.__init__#opaque")⟩, ⟨kH P ⟨⟨[95,95,114,101,112,114,95,95]⟩⟩, (.str ⟨⟨[95,95,114,101,112,114,95,95]⟩⟩ 231), (.builtin "_frozen_importlib.ModuleSpec.__repr__#opaque")⟩, ⟨kH P ⟨⟨[95,95,101,113,95,95]⟩⟩, (.str ⟨⟨[95,95,101,113,95,95]⟩⟩ 232), (.builtin "_frozen_importlib.ModuleSpec.__eq__#opaque")⟩, ⟨kH P ⟨⟨[99,97,99,104,101,100]⟩⟩, (.str ⟨⟨[99,97,99,104,101,100]⟩⟩ 233), (.builtin "_frozen_importlib.ModuleSpec.cached#opaque")⟩, ⟨kH P ⟨⟨[112,97,114,101,110,116]⟩⟩, (.str ⟨⟨[112,97,114,101,110,116]⟩⟩ 234), (.builtin "_frozen_importlib.ModuleSpec.parent#opaque")⟩, ⟨kH P ⟨⟨[104,97,115,95,108,111,99,97,116,105,111,110]⟩⟩, (.str ⟨⟨[104,97,115,95,108,111,99,97,116,105,111,110]⟩⟩ 235), (.builtin "_frozen_importlib.ModuleSpec.has_location#opaque")⟩, ⟨kH P ⟨⟨[95,95,115,116,97,116,105,99,95,97,116,116,114,105,98,117,116,101,115,95,95]⟩⟩, (.str ⟨⟨[95,95,115,116,97,116,105,99,95,97,116,116,114,105,98,117,116,101,115,95,95]⟩⟩ 236), (.ref 23)⟩, ⟨kH P ⟨⟨[95,95,100,105,99,116,95,95]⟩⟩, (.str ⟨⟨[95,95,100,105,99,116,95,95]⟩⟩ 238), (.ref 24)⟩, ⟨kH P ⟨⟨[95,95,119,101,97,107,114,101,102,95,95]⟩⟩, (.str ⟨⟨[95,95,119,101,97,107,114,101,102,95,95]⟩⟩ 240), (.ref 25)⟩, ⟨kH P ⟨⟨[95,95,104,97,115,104,95,95]⟩⟩, (.str ⟨⟨[95,95,104,97,115,104,95,95]⟩⟩ 241), .none⟩]⟩ 13), ⟨[]⟩⟩),
  (22, ⟨(.type "type"), none, (.cls { name := ⟨⟨[77,111,100,117,108,101,83,112,101,99]⟩⟩, bases := [(.type "object")], mro := [(.ref 22), (.type "object")], ns := 21, qualname := ⟨⟨[77,111,100,117,108,101,83,112,101,99]⟩⟩, hasDict := true, slotNames := [], subclasses := [], abstract := false, collection := none, hasDel := false }), ⟨[]⟩⟩),
  (23, ⟨tU, none, (.seq ⟨[(.str ⟨⟨[95,99,97,99,104,101,100]⟩⟩ 219), (.str ⟨⟨[95,115,101,116,95,102,105,108,101,97,116,116,114]⟩⟩ 220), (.str ⟨⟨[95,117,110,105,110,105,116,105,97,108,105,122,101,100,95,115,117,98,109,111,100,117,108,101,115]⟩⟩ 221), (.str ⟨⟨[108,111,97,100,101,114]⟩⟩ 222), (.str ⟨⟨[108,111,97,100,101,114,95,115,116,97,116,101]⟩⟩ 223), (.str ⟨⟨[110,97,109,101]⟩⟩ 224), (.str ⟨⟨[111,114,105,103,105,110]⟩⟩ 225), (.str ⟨⟨[115,117,98,109,111,100,117,108,101,95,115,101,97,114,99,104,95,108,111,99,97,116,105,111,110,115]⟩⟩ 226)]⟩ 0), ⟨[]⟩⟩),
  (24, ⟨(.type "getset_descriptor"), none, (.fields ⟨[(.str ⟨⟨[95,95,100,105,99,116,95,95]⟩⟩ 237), (.ref 22), (.builtin "function.__dict__"), (.builtin "function.__dict__#set")]⟩), ⟨[]⟩⟩),
  (25, ⟨(.type "getset_descriptor"), none, (.fields ⟨[(.str ⟨⟨[95,95,119,101,97,107,114,101,102,95,95]⟩⟩ 239), (.ref 22), (.builtin "ExceptionGroup.__weakref__"), .none]⟩), ⟨[]⟩⟩),
  (26, ⟨(.ref 22), (some 20), .plain, ⟨[]⟩⟩),
  (27, ⟨.none, none, (.seq ⟨[(.int 11 0), (.str ⟨⟨[6,247,8,95,95,110,97,109,101,95,95,6,246,4,95,115,114,101,6,248,7,95,95,100,111,99,95,95,0,6,250,11,95,95,112,97,99,107,97,103,101,95,95,6,249,0,6,251,10,95,95,108,111,97,100,101,114,95,95,4,0,0,14,6,252,8,95,95,115,112,101,99,95,95,4,0,0,26,6,253,7,99,111,109,112,105,108,101,9,12,95,115,114,101,46,99,111,109,112,105,108,101,6,254,8,116,101,109,112,108,97,116,101,9,13,95,115,114,101,46,116,101,109,112,108,97,116,101,6,255,11,103,101,116,99,111,100,101,115,105,122,101,9,16,95,115,114,101,46,103,101,116,99,111,100,101,115,105,122,101,6,256,13,97,115,99,105,105,95,105,115,99,97,115,101,100,9,18,95,115,114,101,46,97,115,99,105,105,95,105,115,99,97,115,101,100,6,257,15,117,110,105,99,111,100,101,95,105,115,99,97,115,101,100,9,20,95,115,114,101,46,117,110,105,99,111,100,101,95,105,115,99,97,115,101,100,6,258,13,97,115,99,105,105,95,116,111,108,111,119,101,114,9,18,95,115,114,101,46,97,115,99,105,105,95,116,111,108,111,119,101,114,6,259,15,117,110,105,99,111,100,101,95,116,111,108,111,119,101,114,9,20,95,115,114,101,46,117,110,105,99,111,100,101,95,116,111,108,111,119,101,114,6,261,5,77,65,71,73,67,4,260,0,20230612,6,263,8,67,79,68,69,83,73,90,69,4,262,0,4,6,265,9,77,65,88,82,69,80,69,65,84,4,264,0,4294967295,6,267,9,77,65,88,71,82,79,85,80,83,4,266,0,1073741823,6,269,9,99,111,112,121,114,105,103,104,116,6,268,53,32,83,82,69,32,50,46,50,46,50,32,67,111,112,121,114,105,103,104,116,32,40,99,41,32,49,57,57,55,45,50,48,48,50,32,98,121,32,83,101,99,114,101,116,32,76,97,98,115,32,65,66,32]⟩⟩ 0), (.bool true), (.bool false), (.str ⟨⟨[95,115,114,101]⟩⟩ 271)]⟩ 0), ⟨[]⟩⟩)]
noncomputable def S_e (w : World) (os : OsState) : SharedT := ⟨t_e w.params, 28, {}, ⟨[]⟩, {}, 276, os⟩
noncomputable def oRun (w : World) (os : OsState) := PySem.W.Fast.tw14789777615569096658 tT (opening tP) w 798 (S_z w os) (start (opening tP)).2
noncomputable def oth (w : World) (os : OsState) : Thread := thrOf (oRun w os)
theorem o1 : ∀ w : World, (fun os => oRun w os) = fun os => some (S_e w os, oth w os) := fun w => by kernel_rfl
theorem o2 : ∀ w : World, (fun os => PySem.W.Fast.tw10274390034422433532 tT (opening tP) w 1 (S_e w os).abs (oth w os)) = fun os => some (S_e w os).abs := fun w => by kernel_rfl
theorem o0 : ∀ w : World, (fun os : OsState => (start (opening tP)).1) = fun os => (S_z w (start (opening tP)).1.os).abs := fun w => by kernel_rfl
noncomputable def t_0 (P : Params) : BT := insAll (t_e P) [(11, ⟨dI, none, (.dict ⟨[⟨kH P z13', (.str z13' 247), (.str ⟨⟨[95,115,114,101]⟩⟩ 246)⟩, ⟨kH P z12', (.str z12' 248), .none⟩, ⟨kH P z10', (.str z10' 250), (.str ⟨⟨[]⟩⟩ 249)⟩, ⟨kH P z11', (.str z11' 251), (.builtin "off-the-table:_sre.__loader__:shared#opaque")⟩, ⟨kH P z14', (.str z14' 252), (.builtin "off-the-table:_sre.__spec__:shared#opaque")⟩, ⟨kH P ⟨⟨[99,111,109,112,105,108,101]⟩⟩, (.str ⟨⟨[99,111,109,112,105,108,101]⟩⟩ 253), (.builtin "_sre.compile")⟩, ⟨kH P ⟨⟨[116,101,109,112,108,97,116,101]⟩⟩, (.str ⟨⟨[116,101,109,112,108,97,116,101]⟩⟩ 254), (.builtin "off-the-table:_sre.template:shared#opaque")⟩, ⟨kH P ⟨⟨[103,101,116,99,111,100,101,115,105,122,101]⟩⟩, (.str ⟨⟨[103,101,116,99,111,100,101,115,105,122,101]⟩⟩ 255), (.builtin "off-the-table:_sre.getcodesize:shared#opaque")⟩, ⟨kH P ⟨⟨[97,115,99,105,105,95,105,115,99,97,115,101,100]⟩⟩, (.str ⟨⟨[97,115,99,105,105,95,105,115,99,97,115,101,100]⟩⟩ 256), (.builtin "off-the-table:_sre.ascii_iscased:shared#opaque")⟩, ⟨kH P ⟨⟨[117,110,105,99,111,100,101,95,105,115,99,97,115,101,100]⟩⟩, (.str ⟨⟨[117,110,105,99,111,100,101,95,105,115,99,97,115,101,100]⟩⟩ 257), (.builtin "off-the-table:_sre.unicode_iscased:shared#opaque")⟩, ⟨kH P ⟨⟨[97,115,99,105,105,95,116,111,108,111,119,101,114]⟩⟩, (.str ⟨⟨[97,115,99,105,105,95,116,111,108,111,119,101,114]⟩⟩ 258), (.builtin "off-the-table:_sre.ascii_tolower:shared#opaque")⟩, ⟨kH P ⟨⟨[117,110,105,99,111,100,101,95,116,111,108,111,119,101,114]⟩⟩, (.str ⟨⟨[117,110,105,99,111,100,101,95,116,111,108,111,119,101,114]⟩⟩ 259), (.builtin "off-the-table:_sre.unicode_tolower:shared#opaque")⟩, ⟨kH P ⟨⟨[77,65,71,73,67]⟩⟩, (.str ⟨⟨[77,65,71,73,67]⟩⟩ 261), (.int 20230612 260)⟩, ⟨kH P ⟨⟨[67,79,68,69,83,73,90,69]⟩⟩, (.str ⟨⟨[67,79,68,69,83,73,90,69]⟩⟩ 263), (.int 4 262)⟩, ⟨kH P ⟨⟨[77,65,88,82,69,80,69,65,84]⟩⟩, (.str ⟨⟨[77,65,88,82,69,80,69,65,84]⟩⟩ 265), (.int 4294967295 264)⟩, ⟨kH P ⟨⟨[77,65,88,71,82,79,85,80,83]⟩⟩, (.str ⟨⟨[77,65,88,71,82,79,85,80,83]⟩⟩ 267), (.int 1073741823 266)⟩] ++ (q0' P)⟩ 17), ⟨[]⟩⟩)]
noncomputable def S_0 (w : World) (os : OsState) : SharedT := ⟨t_0 w.params, 28, {}, ⟨[]⟩, {}, 276, os⟩
theorem of : ∀ w : World, (fun os => (PySem.W.Fast.tw14289696077712309145 tP (S_e w os).abs).map (fun s => (s.heap, s.gens, s.drawn, s.toks))) = fun os => some ((S_0 w os).abs.heap, ⟨[]⟩, {}, 276) := fun w => by kernel_rfl
theorem osz : ∀ w : World, (fun os : OsState => ((S_0 w os).abs.heap.isNs mainGlobals && (#[] : Array GenState).size == 0, (S_0 w os).abs.heap.objs.size, (S_0 w os).abs.heap.nsMap mainGlobals "__annotations__")) = fun _ => (true, 28, some (.ref 6)) := fun w => by kernel_rfl
noncomputable def t_a (P : Params) : BT := insAll (t_0 P) [(28, ⟨tU, none, (.seq ⟨[]⟩ 0), ⟨[]⟩⟩),
  (29, ⟨.none, none, (.fields ⟨[]⟩), ⟨[]⟩⟩),
  (30, ⟨(.type "code"), none, (.fields ⟨[(.str ⟨⟨[60,109,111,100,117,108,101,62]⟩⟩ 277), (.str ⟨⟨[60,109,111,100,117,108,101,62]⟩⟩ 278), (.str z7' 279), (.int 1 0), (.int 0 0), (.int 0 0), (.int 0 0), (.int 0 0), (.ref 28), (.bool false), (.int 276 0), (.ref 29), .none, .none, .none, .none, (.int 280 0), (.int 1 0), (.str z7' 281)]⟩), ⟨[]⟩⟩),
  (31, ⟨(.type "frame"), none, .plain, ⟨[(some (.ref 30)), (some (.ref 3)), (some (.ref 3)), none, (some (.str ⟨⟨[95,95,109,97,105,110,95,95]⟩⟩ 164)), none, (some (.ref 0))]⟩⟩)]
noncomputable def S_a (w : World) (os : OsState) : SharedT := ⟨t_a w.params, 32, {}, ⟨[]⟩, {}, 282, os⟩
noncomputable def envT : Env := { scope := tP.main.scope, locals := mainNs, globals := mainNs, cells := [], code := (.ref 30), frame := (some 31) }
noncomputable def codeT : Code := .body (behindTheImports tP) envT
noncomputable abbrev fB : List Frame := [topFrame ⟨0, 0, 0, 0⟩]
noncomputable abbrev goT (n : Nat) (w : World) (S : SharedT) (t : Thread) := PySem.W.Fast.tw10295753902157049106 tT tP w 28 (some (.ref 6)) 1 n S t
noncomputable abbrev runT (n : Nat) (w : World) (S : SharedT) (t : Thread) := PySem.W.Fast.tw10110043849684766642 tT tP w 28 (some (.ref 6)) 1 n S t
theorem hpre : ∀ w : World, (fun os => PySem.W.Fast.tw15667345088766844465 tT tP w 28 (some (.ref 6)) 12 (S_0 w os).abs (topStub tP)) = fun os => some ((S_a w os).abs, ⟨PySem.W.Fast.tw11892475500146522536 tT codeT, codeT, ⟨0, 0, 0, 0⟩, fB⟩) := fun w => by kernel_rfl
theorem hblock : ∀ w : World, (fun os => runT 1 w (S_a w os) (blockOf (behindTheImports tP) envT codeT ⟨0, 0, 0, 0⟩ fB)) = fun os => some (.next, S_a w os, codeT, ⟨0, 0, 0, 0⟩) := fun w => by kernel_rfl
noncomputable def t_g0 (P : Params) : BT := insAll (t_a P) [(3, ⟨dI, none, (.dict ⟨q1' P ++ ([⟨kH P ⟨⟨[95,95,99,97,99,104,101,100,95,95]⟩⟩, (.str ⟨⟨[95,95,99,97,99,104,101,100,95,95]⟩⟩ 174), .none⟩, ⟨kH P ⟨⟨[95,115,114,101]⟩⟩, (.str ⟨⟨[95,115,114,101]⟩⟩ 275), (.ref 12)⟩, ⟨kH P ⟨⟨[99,97,112,119,111,114,100,115]⟩⟩, (.str ⟨⟨[99,97,112,119,111,114,100,115]⟩⟩ 291), (.ref 39)⟩, ⟨kH P ⟨⟨[67,82,76,70]⟩⟩, (.str ⟨⟨[67,82,76,70]⟩⟩ 293), (.str ⟨⟨[13,10]⟩⟩ 292)⟩, ⟨kH P ⟨⟨[78,76]⟩⟩, (.str ⟨⟨[78,76]⟩⟩ 295), (.str ⟨⟨[10]⟩⟩ 294)⟩])⟩ 13), ⟨[]⟩⟩),
  (29, ⟨.none, none, (.fields ⟨[(.int 3 0), (.int 0 0), (.ref 38)]⟩), ⟨[]⟩⟩),
  (32, ⟨tU, none, (.seq ⟨[.none]⟩ 0), ⟨[]⟩⟩),
  (33, ⟨tU, none, (.seq ⟨[]⟩ 0), ⟨[]⟩⟩),
  (34, ⟨.none, none, (.fields ⟨[]⟩), ⟨[]⟩⟩),
  (35, ⟨tU, none, (.seq ⟨[(.str ⟨⟨[115]⟩⟩ 287), (.str ⟨⟨[115,101,112]⟩⟩ 288)]⟩ 0), ⟨[]⟩⟩),
  (36, ⟨tU, none, (.seq ⟨[]⟩ 0), ⟨[]⟩⟩),
  (37, ⟨.none, none, (.func { name := ⟨⟨[99,97,112,119,111,114,100,115]⟩⟩, qualname := ⟨⟨[99,97,112,119,111,114,100,115]⟩⟩, params := fnA 2, body := .stmts (fnB 2), scope := fnS 2, globals := 0, closure := [], defaults := .none, kwdefaults := .none, doc := .none, pyModule := .none, annotations := none, code := .none, closureTuple := .none, builtins := 0 }), ⟨[]⟩⟩),
  (38, ⟨(.type "code"), none, (.fields ⟨[(.str ⟨⟨[99,97,112,119,111,114,100,115]⟩⟩ 284), (.str ⟨⟨[99,97,112,119,111,114,100,115]⟩⟩ 285), (.str z7' 286), (.int 3 0), (.int 2 0), (.int 0 0), (.int 0 0), (.int 3 0), (.ref 33), (.bool true), (.int 276 0), (.ref 34), .none, (.ref 35), (.ref 36), (.ref 37), (.int 289 0), (.int 3 0), (.str z7' 290)]⟩), ⟨[]⟩⟩),
  (39, ⟨(.type "function"), none, (.func { name := ⟨⟨[99,97,112,119,111,114,100,115]⟩⟩, qualname := ⟨⟨[99,97,112,119,111,114,100,115]⟩⟩, params := fnA 2, body := .stmts (fnB 2), scope := fnS 2, globals := 3, closure := [], defaults := (.ref 32), kwdefaults := .none, doc := .none, pyModule := (.str ⟨⟨[99,112,121,51,49,51,46,115,116,114,105,110,103]⟩⟩ 282), annotations := none, code := (.ref 38), closureTuple := .none, builtins := 0 }), ⟨[]⟩⟩)]
noncomputable def S_g0 (w : World) (os : OsState) : SharedT := ⟨t_g0 w.params, 40, {}, ⟨[]⟩, {}, 296, os⟩
theorem g0 : ∀ w : World, (fun os => runT 91 w (S_a w os) (piecesOf ((behindTheImports tP).drop 0 |>.take 4) envT codeT ⟨0, 0, 0, 0⟩ fB)) = fun os => some (.next, S_g0 w os, codeT, ⟨6, 0, 6, 2⟩) := fun w => by kernel_rfl
noncomputable abbrev th1 : Thread := piecesOf ((behindTheImports tP).drop 4 |>.take 1) envT codeT ⟨6, 0, 6, 2⟩ fB
noncomputable def t_l1x0 (P : Params) : BT := insAll (t_g0 P) [(40, ⟨(.type "range"), none, (.fields ⟨[(.int 0 297), (.int 256 296), (.int 1 298)]⟩), ⟨[]⟩⟩),
  (41, ⟨(.type "range_iterator"), none, (.fields ⟨[(.int 1 0), (.int 255 0), (.int 1 0)]⟩), ⟨[]⟩⟩),
  (42, ⟨lI, none, (.seq ⟨[(.str ⟨⟨[61,48,48]⟩⟩ 302)]⟩ 1), ⟨[]⟩⟩),
  (43, ⟨dI, none, (.dict ⟨[⟨kH P z9', (.str z9' 300), (.int 0 299)⟩]⟩ 1), ⟨[]⟩⟩)]
noncomputable def S_l1x0 (w : World) (os : OsState) : SharedT := ⟨t_l1x0 w.params, 44, {}, ⟨[]⟩, {}, 303, os⟩
noncomputable def thr1 (w : World) (os : OsState) : Thread := thrOf (goT 88 (V2 false false w) (S_g0 w os) th1)
theorem p1_false_false : ∀ w : World, (fun os => goT 88 (V2 false false w) (S_g0 (V2 false false w) os) th1) = fun os => some (S_l1x0 (V2 false false w) os, thr1 (V2 false false w) os) := fun w => by kernel_rfl
theorem p1_false_true : ∀ w : World, (fun os => goT 78 (V2 false true w) (S_g0 (V2 false true w) os) th1) = fun os => some (S_l1x0 (V2 false true w) os, thr1 (V2 false true w) os) := fun w => by kernel_rfl
theorem p1_true_false : ∀ w : World, (fun os => goT 88 (V2 true false w) (S_g0 (V2 true false w) os) th1) = fun os => some (S_l1x0 (V2 true false w) os, thr1 (V2 true false w) os) := fun w => by kernel_rfl
theorem p1_true_true : ∀ w : World, (fun os => goT 78 (V2 true true w) (S_g0 (V2 true true w) os) th1) = fun os => some (S_l1x0 (V2 true true w) os, thr1 (V2 true true w) os) := fun w => by kernel_rfl
noncomputable def t_l1x1 (P : Params) : BT := insAll (t_l1x0 P) [(41, ⟨(.type "range_iterator"), none, (.fields ⟨[(.int 16 0), (.int 240 0), (.int 1 0)]⟩), ⟨[]⟩⟩),
  (42, ⟨lI, none, (.seq ⟨q2' ++ (q3')⟩ 16), ⟨[]⟩⟩),
  (43, ⟨dI, none, (.dict ⟨[⟨kH P z9', (.str z9' 300), (.int 15 359)⟩]⟩ 1), ⟨[]⟩⟩)]
noncomputable def S_l1x1 (w : World) (os : OsState) : SharedT := ⟨t_l1x1 w.params, 44, {}, ⟨[]⟩, {}, 363, os⟩
theorem l1x0 : ∀ w : World, (fun os => goT 555 w (S_l1x0 w os) (thr1 w os)) = fun os => some (S_l1x1 w os, thr1 w os) := fun w => by kernel_rfl
noncomputable def t_l1x2 (P : Params) : BT := insAll (t_l1x1 P) [(41, ⟨(.type "range_iterator"), none, (.fields ⟨[(.int 31 0), (.int 225 0), (.int 1 0)]⟩), ⟨[]⟩⟩),
  (42, ⟨lI, none, (.seq ⟨q2' ++ (q3' ++ (q4' ++ ([(.str ⟨⟨[61,49,56]⟩⟩ 398), (.str ⟨⟨[61,49,57]⟩⟩ 402), (.str ⟨⟨[61,49,65]⟩⟩ 406), (.str ⟨⟨[61,49,66]⟩⟩ 410), (.str ⟨⟨[61,49,67]⟩⟩ 414), (.str ⟨⟨[61,49,68]⟩⟩ 418), (.str ⟨⟨[61,49,69]⟩⟩ 422)])))⟩ 31), ⟨[]⟩⟩),
  (43, ⟨dI, none, (.dict ⟨[⟨kH P z9', (.str z9' 300), (.int 30 419)⟩]⟩ 1), ⟨[]⟩⟩)]
noncomputable def S_l1x2 (w : World) (os : OsState) : SharedT := ⟨t_l1x2 w.params, 44, {}, ⟨[]⟩, {}, 423, os⟩
theorem l1x1 : ∀ w : World, (fun os => goT 555 w (S_l1x1 w os) (thr1 w os)) = fun os => some (S_l1x2 w os, thr1 w os) := fun w => by kernel_rfl
noncomputable def t_l1x3 (P : Params) : BT := insAll (t_l1x2 P) [(41, ⟨(.type "range_iterator"), none, (.fields ⟨[(.int 46 0), (.int 210 0), (.int 1 0)]⟩), ⟨[]⟩⟩),
  (42, ⟨lI, none, (.seq ⟨q2' ++ (q3' ++ (q4' ++ (q5' ++ (q6' ++ ([(.str ⟨⟨[61,50,56]⟩⟩ 462), (.str ⟨⟨[61,50,57]⟩⟩ 466), (.str ⟨⟨[61,50,65]⟩⟩ 470), (.str ⟨⟨[61,50,66]⟩⟩ 474), (.str ⟨⟨[61,50,67]⟩⟩ 478), (.str ⟨⟨[61,50,68]⟩⟩ 482)])))))⟩ 46), ⟨[]⟩⟩),
  (43, ⟨dI, none, (.dict ⟨[⟨kH P z9', (.str z9' 300), (.int 45 479)⟩]⟩ 1), ⟨[]⟩⟩)]
noncomputable def S_l1x3 (w : World) (os : OsState) : SharedT := ⟨t_l1x3 w.params, 44, {}, ⟨[]⟩, {}, 483, os⟩
theorem l1x2 : ∀ w : World, (fun os => goT 555 w (S_l1x2 w os) (thr1 w os)) = fun os => some (S_l1x3 w os, thr1 w os) := fun w => by kernel_rfl
noncomputable def t_l1x4 (P : Params) : BT := insAll (t_l1x3 P) [(41, ⟨(.type "range_iterator"), none, (.fields ⟨[(.int 61 0), (.int 195 0), (.int 1 0)]⟩), ⟨[]⟩⟩),
  (42, ⟨lI, none, (.seq ⟨q2' ++ (q3' ++ (q4' ++ (q5' ++ (q6' ++ (q7' ++ (q8' ++ ([(.str ⟨⟨[61,51,56]⟩⟩ 526), (.str ⟨⟨[61,51,57]⟩⟩ 530), (.str ⟨⟨[61,51,65]⟩⟩ 534), (.str ⟨⟨[61,51,66]⟩⟩ 538), (.str ⟨⟨[61,51,67]⟩⟩ 542)])))))))⟩ 61), ⟨[]⟩⟩),
  (43, ⟨dI, none, (.dict ⟨[⟨kH P z9', (.str z9' 300), (.int 60 539)⟩]⟩ 1), ⟨[]⟩⟩)]
noncomputable def S_l1x4 (w : World) (os : OsState) : SharedT := ⟨t_l1x4 w.params, 44, {}, ⟨[]⟩, {}, 543, os⟩
theorem l1x3 : ∀ w : World, (fun os => goT 555 w (S_l1x3 w os) (thr1 w os)) = fun os => some (S_l1x4 w os, thr1 w os) := fun w => by kernel_rfl
noncomputable def t_l1x5 (P : Params) : BT := insAll (t_l1x4 P) [(41, ⟨(.type "range_iterator"), none, (.fields ⟨[(.int 76 0), (.int 180 0), (.int 1 0)]⟩), ⟨[]⟩⟩),
  (42, ⟨lI, none, (.seq ⟨q2' ++ (q3' ++ (q4' ++ (q5' ++ (q6' ++ (q7' ++ (q8' ++ (q9' ++ (q10' ++ ([(.str ⟨⟨[61,52,56]⟩⟩ 590), (.str ⟨⟨[61,52,57]⟩⟩ 594), (.str ⟨⟨[61,52,65]⟩⟩ 598), (.str ⟨⟨[61,52,66]⟩⟩ 602)])))))))))⟩ 76), ⟨[]⟩⟩),
  (43, ⟨dI, none, (.dict ⟨[⟨kH P z9', (.str z9' 300), (.int 75 599)⟩]⟩ 1), ⟨[]⟩⟩)]
noncomputable def S_l1x5 (w : World) (os : OsState) : SharedT := ⟨t_l1x5 w.params, 44, {}, ⟨[]⟩, {}, 603, os⟩
theorem l1x4 : ∀ w : World, (fun os => goT 555 w (S_l1x4 w os) (thr1 w os)) = fun os => some (S_l1x5 w os, thr1 w os) := fun w => by kernel_rfl
noncomputable def t_l1x6 (P : Params) : BT := insAll (t_l1x5 P) [(41, ⟨(.type "range_iterator"), none, (.fields ⟨[(.int 91 0), (.int 165 0), (.int 1 0)]⟩), ⟨[]⟩⟩),
  (42, ⟨lI, none, (.seq ⟨q2' ++ (q3' ++ (q4' ++ (q5' ++ (q6' ++ (q7' ++ (q8' ++ (q9' ++ (q10' ++ (q11' ++ (q12' ++ ([(.str ⟨⟨[61,53,56]⟩⟩ 654), (.str ⟨⟨[61,53,57]⟩⟩ 658), (.str ⟨⟨[61,53,65]⟩⟩ 662)])))))))))))⟩ 91), ⟨[]⟩⟩),
  (43, ⟨dI, none, (.dict ⟨[⟨kH P z9', (.str z9' 300), (.int 90 659)⟩]⟩ 1), ⟨[]⟩⟩)]
noncomputable def S_l1x6 (w : World) (os : OsState) : SharedT := ⟨t_l1x6 w.params, 44, {}, ⟨[]⟩, {}, 663, os⟩
theorem l1x5 : ∀ w : World, (fun os => goT 555 w (S_l1x5 w os) (thr1 w os)) = fun os => some (S_l1x6 w os, thr1 w os) := fun w => by kernel_rfl
noncomputable def t_l1x7 (P : Params) : BT := insAll (t_l1x6 P) [(41, ⟨(.type "range_iterator"), none, (.fields ⟨[(.int 106 0), (.int 150 0), (.int 1 0)]⟩), ⟨[]⟩⟩),
  (42, ⟨lI, none, (.seq ⟨q2' ++ (q3' ++ (q4' ++ (q5' ++ (q6' ++ (q7' ++ (q8' ++ (q9' ++ (q10' ++ (q11' ++ (q12' ++ (q13' ++ (q14' ++ ([(.str ⟨⟨[61,54,56]⟩⟩ 718), (.str ⟨⟨[61,54,57]⟩⟩ 722)])))))))))))))⟩ 106), ⟨[]⟩⟩),
  (43, ⟨dI, none, (.dict ⟨[⟨kH P z9', (.str z9' 300), (.int 105 719)⟩]⟩ 1), ⟨[]⟩⟩)]
noncomputable def S_l1x7 (w : World) (os : OsState) : SharedT := ⟨t_l1x7 w.params, 44, {}, ⟨[]⟩, {}, 723, os⟩
theorem l1x6 : ∀ w : World, (fun os => goT 555 w (S_l1x6 w os) (thr1 w os)) = fun os => some (S_l1x7 w os, thr1 w os) := fun w => by kernel_rfl
noncomputable def t_l1x8 (P : Params) : BT := insAll (t_l1x7 P) [(41, ⟨(.type "range_iterator"), none, (.fields ⟨[(.int 121 0), (.int 135 0), (.int 1 0)]⟩), ⟨[]⟩⟩),
  (42, ⟨lI, none, (.seq ⟨q2' ++ (q3' ++ (q4' ++ (q5' ++ (q6' ++ (q7' ++ (q8' ++ (q9' ++ (q10' ++ (q11' ++ (q12' ++ (q13' ++ (q14' ++ (q15' ++ (q16' ++ ([(.str ⟨⟨[61,55,56]⟩⟩ 782)])))))))))))))))⟩ 121), ⟨[]⟩⟩),
  (43, ⟨dI, none, (.dict ⟨[⟨kH P z9', (.str z9' 300), (.int 120 779)⟩]⟩ 1), ⟨[]⟩⟩)]
noncomputable def S_l1x8 (w : World) (os : OsState) : SharedT := ⟨t_l1x8 w.params, 44, {}, ⟨[]⟩, {}, 783, os⟩
theorem l1x7 : ∀ w : World, (fun os => goT 555 w (S_l1x7 w os) (thr1 w os)) = fun os => some (S_l1x8 w os, thr1 w os) := fun w => by kernel_rfl
noncomputable def t_l1x9 (P : Params) : BT := insAll (t_l1x8 P) [(41, ⟨(.type "range_iterator"), none, (.fields ⟨[(.int 136 0), (.int 120 0), (.int 1 0)]⟩), ⟨[]⟩⟩),
  (42, ⟨lI, none, (.seq ⟨q2' ++ (q3' ++ (q4' ++ (q5' ++ (q6' ++ (q7' ++ (q8' ++ (q9' ++ (q10' ++ (q11' ++ (q12' ++ (q13' ++ (q14' ++ (q15' ++ (q16' ++ (q17' ++ (q18'))))))))))))))))⟩ 136), ⟨[]⟩⟩),
  (43, ⟨dI, none, (.dict ⟨[⟨kH P z9', (.str z9' 300), (.int 135 839)⟩]⟩ 1), ⟨[]⟩⟩)]
noncomputable def S_l1x9 (w : World) (os : OsState) : SharedT := ⟨t_l1x9 w.params, 44, {}, ⟨[]⟩, {}, 843, os⟩
theorem l1x8 : ∀ w : World, (fun os => goT 555 w (S_l1x8 w os) (thr1 w os)) = fun os => some (S_l1x9 w os, thr1 w os) := fun w => by kernel_rfl
noncomputable def t_l1x10 (P : Params) : BT := insAll (t_l1x9 P) [(41, ⟨(.type "range_iterator"), none, (.fields ⟨[(.int 151 0), (.int 105 0), (.int 1 0)]⟩), ⟨[]⟩⟩),
  (42, ⟨lI, none, (.seq ⟨q2' ++ (q3' ++ (q4' ++ (q5' ++ (q6' ++ (q7' ++ (q8' ++ (q9' ++ (q10' ++ (q11' ++ (q12' ++ (q13' ++ (q14' ++ (q15' ++ (q16' ++ (q17' ++ (q18' ++ (q19' ++ ([(.str ⟨⟨[61,57,48]⟩⟩ 878), (.str ⟨⟨[61,57,49]⟩⟩ 882), (.str ⟨⟨[61,57,50]⟩⟩ 886), (.str ⟨⟨[61,57,51]⟩⟩ 890), (.str ⟨⟨[61,57,52]⟩⟩ 894), (.str ⟨⟨[61,57,53]⟩⟩ 898), (.str ⟨⟨[61,57,54]⟩⟩ 902)]))))))))))))))))))⟩ 151), ⟨[]⟩⟩),
  (43, ⟨dI, none, (.dict ⟨[⟨kH P z9', (.str z9' 300), (.int 150 899)⟩]⟩ 1), ⟨[]⟩⟩)]
noncomputable def S_l1x10 (w : World) (os : OsState) : SharedT := ⟨t_l1x10 w.params, 44, {}, ⟨[]⟩, {}, 903, os⟩
theorem l1x9 : ∀ w : World, (fun os => goT 555 w (S_l1x9 w os) (thr1 w os)) = fun os => some (S_l1x10 w os, thr1 w os) := fun w => by kernel_rfl
noncomputable def t_l1x11 (P : Params) : BT := insAll (t_l1x10 P) [(41, ⟨(.type "range_iterator"), none, (.fields ⟨[(.int 166 0), (.int 90 0), (.int 1 0)]⟩), ⟨[]⟩⟩),
  (42, ⟨lI, none, (.seq ⟨q2' ++ (q3' ++ (q4' ++ (q5' ++ (q6' ++ (q7' ++ (q8' ++ (q9' ++ (q10' ++ (q11' ++ (q12' ++ (q13' ++ (q14' ++ (q15' ++ (q16' ++ (q17' ++ (q18' ++ (q19' ++ (q20' ++ (q21' ++ ([(.str ⟨⟨[61,65,48]⟩⟩ 942), (.str ⟨⟨[61,65,49]⟩⟩ 946), (.str ⟨⟨[61,65,50]⟩⟩ 950), (.str ⟨⟨[61,65,51]⟩⟩ 954), (.str ⟨⟨[61,65,52]⟩⟩ 958), (.str ⟨⟨[61,65,53]⟩⟩ 962)]))))))))))))))))))))⟩ 166), ⟨[]⟩⟩),
  (43, ⟨dI, none, (.dict ⟨[⟨kH P z9', (.str z9' 300), (.int 165 959)⟩]⟩ 1), ⟨[]⟩⟩)]
noncomputable def S_l1x11 (w : World) (os : OsState) : SharedT := ⟨t_l1x11 w.params, 44, {}, ⟨[]⟩, {}, 963, os⟩
theorem l1x10 : ∀ w : World, (fun os => goT 555 w (S_l1x10 w os) (thr1 w os)) = fun os => some (S_l1x11 w os, thr1 w os) := fun w => by kernel_rfl
noncomputable def t_l1x12 (P : Params) : BT := insAll (t_l1x11 P) [(41, ⟨(.type "range_iterator"), none, (.fields ⟨[(.int 181 0), (.int 75 0), (.int 1 0)]⟩), ⟨[]⟩⟩),
  (42, ⟨lI, none, (.seq ⟨q2' ++ (q3' ++ (q4' ++ (q5' ++ (q6' ++ (q7' ++ (q8' ++ (q9' ++ (q10' ++ (q11' ++ (q12' ++ (q13' ++ (q14' ++ (q15' ++ (q16' ++ (q17' ++ (q18' ++ (q19' ++ (q20' ++ (q21' ++ (q22' ++ (q23' ++ ([(.str ⟨⟨[61,66,48]⟩⟩ 1006), (.str ⟨⟨[61,66,49]⟩⟩ 1010), (.str ⟨⟨[61,66,50]⟩⟩ 1014), (.str ⟨⟨[61,66,51]⟩⟩ 1018), (.str ⟨⟨[61,66,52]⟩⟩ 1022)]))))))))))))))))))))))⟩ 181), ⟨[]⟩⟩),
  (43, ⟨dI, none, (.dict ⟨[⟨kH P z9', (.str z9' 300), (.int 180 1019)⟩]⟩ 1), ⟨[]⟩⟩)]
noncomputable def S_l1x12 (w : World) (os : OsState) : SharedT := ⟨t_l1x12 w.params, 44, {}, ⟨[]⟩, {}, 1023, os⟩
theorem l1x11 : ∀ w : World, (fun os => goT 555 w (S_l1x11 w os) (thr1 w os)) = fun os => some (S_l1x12 w os, thr1 w os) := fun w => by kernel_rfl
noncomputable def t_l1x13 (P : Params) : BT := insAll (t_l1x12 P) [(41, ⟨(.type "range_iterator"), none, (.fields ⟨[(.int 196 0), (.int 60 0), (.int 1 0)]⟩), ⟨[]⟩⟩),
  (42, ⟨lI, none, (.seq ⟨q2' ++ (q3' ++ (q4' ++ (q5' ++ (q6' ++ (q7' ++ (q8' ++ (q9' ++ (q10' ++ (q11' ++ (q12' ++ (q13' ++ (q14' ++ (q15' ++ (q16' ++ (q17' ++ (q18' ++ (q19' ++ (q20' ++ (q21' ++ (q22' ++ (q23' ++ (q24' ++ (q25' ++ ([(.str ⟨⟨[61,67,48]⟩⟩ 1070), (.str ⟨⟨[61,67,49]⟩⟩ 1074), (.str ⟨⟨[61,67,50]⟩⟩ 1078), (.str ⟨⟨[61,67,51]⟩⟩ 1082)]))))))))))))))))))))))))⟩ 196), ⟨[]⟩⟩),
  (43, ⟨dI, none, (.dict ⟨[⟨kH P z9', (.str z9' 300), (.int 195 1079)⟩]⟩ 1), ⟨[]⟩⟩)]
noncomputable def S_l1x13 (w : World) (os : OsState) : SharedT := ⟨t_l1x13 w.params, 44, {}, ⟨[]⟩, {}, 1083, os⟩
theorem l1x12 : ∀ w : World, (fun os => goT 555 w (S_l1x12 w os) (thr1 w os)) = fun os => some (S_l1x13 w os, thr1 w os) := fun w => by kernel_rfl
noncomputable def t_l1x14 (P : Params) : BT := insAll (t_l1x13 P) [(41, ⟨(.type "range_iterator"), none, (.fields ⟨[(.int 211 0), (.int 45 0), (.int 1 0)]⟩), ⟨[]⟩⟩),
  (42, ⟨lI, none, (.seq ⟨q2' ++ (q3' ++ (q4' ++ (q5' ++ (q6' ++ (q7' ++ (q8' ++ (q9' ++ (q10' ++ (q11' ++ (q12' ++ (q13' ++ (q14' ++ (q15' ++ (q16' ++ (q17' ++ (q18' ++ (q19' ++ (q20' ++ (q21' ++ (q22' ++ (q23' ++ (q24' ++ (q25' ++ (q26' ++ (q27' ++ ([(.str ⟨⟨[61,68,48]⟩⟩ 1134), (.str ⟨⟨[61,68,49]⟩⟩ 1138), (.str ⟨⟨[61,68,50]⟩⟩ 1142)]))))))))))))))))))))))))))⟩ 211), ⟨[]⟩⟩),
  (43, ⟨dI, none, (.dict ⟨[⟨kH P z9', (.str z9' 300), (.int 210 1139)⟩]⟩ 1), ⟨[]⟩⟩)]
noncomputable def S_l1x14 (w : World) (os : OsState) : SharedT := ⟨t_l1x14 w.params, 44, {}, ⟨[]⟩, {}, 1143, os⟩
theorem l1x13 : ∀ w : World, (fun os => goT 555 w (S_l1x13 w os) (thr1 w os)) = fun os => some (S_l1x14 w os, thr1 w os) := fun w => by kernel_rfl
noncomputable def t_l1x15 (P : Params) : BT := insAll (t_l1x14 P) [(41, ⟨(.type "range_iterator"), none, (.fields ⟨[(.int 226 0), (.int 30 0), (.int 1 0)]⟩), ⟨[]⟩⟩),
  (42, ⟨lI, none, (.seq ⟨q2' ++ (q3' ++ (q4' ++ (q5' ++ (q6' ++ (q7' ++ (q8' ++ (q9' ++ (q10' ++ (q11' ++ (q12' ++ (q13' ++ (q14' ++ (q15' ++ (q16' ++ (q17' ++ (q18' ++ (q19' ++ (q20' ++ (q21' ++ (q22' ++ (q23' ++ (q24' ++ (q25' ++ (q26' ++ (q27' ++ (q28' ++ (q29' ++ ([(.str ⟨⟨[61,69,48]⟩⟩ 1198), (.str ⟨⟨[61,69,49]⟩⟩ 1202)]))))))))))))))))))))))))))))⟩ 226), ⟨[]⟩⟩),
  (43, ⟨dI, none, (.dict ⟨[⟨kH P z9', (.str z9' 300), (.int 225 1199)⟩]⟩ 1), ⟨[]⟩⟩)]
noncomputable def S_l1x15 (w : World) (os : OsState) : SharedT := ⟨t_l1x15 w.params, 44, {}, ⟨[]⟩, {}, 1203, os⟩
theorem l1x14 : ∀ w : World, (fun os => goT 555 w (S_l1x14 w os) (thr1 w os)) = fun os => some (S_l1x15 w os, thr1 w os) := fun w => by kernel_rfl
noncomputable def t_l1x16 (P : Params) : BT := insAll (t_l1x15 P) [(41, ⟨(.type "range_iterator"), none, (.fields ⟨[(.int 241 0), (.int 15 0), (.int 1 0)]⟩), ⟨[]⟩⟩),
  (42, ⟨lI, none, (.seq ⟨q2' ++ (q3' ++ (q4' ++ (q5' ++ (q6' ++ (q7' ++ (q8' ++ (q9' ++ (q10' ++ (q11' ++ (q12' ++ (q13' ++ (q14' ++ (q15' ++ (q16' ++ (q17' ++ (q18' ++ (q19' ++ (q20' ++ (q21' ++ (q22' ++ (q23' ++ (q24' ++ (q25' ++ (q26' ++ (q27' ++ (q28' ++ (q29' ++ (q30' ++ (q31' ++ ([(.str ⟨⟨[61,70,48]⟩⟩ 1262)]))))))))))))))))))))))))))))))⟩ 241), ⟨[]⟩⟩),
  (43, ⟨dI, none, (.dict ⟨[⟨kH P z9', (.str z9' 300), (.int 240 1259)⟩]⟩ 1), ⟨[]⟩⟩)]
noncomputable def S_l1x16 (w : World) (os : OsState) : SharedT := ⟨t_l1x16 w.params, 44, {}, ⟨[]⟩, {}, 1263, os⟩
theorem l1x15 : ∀ w : World, (fun os => goT 555 w (S_l1x15 w os) (thr1 w os)) = fun os => some (S_l1x16 w os, thr1 w os) := fun w => by kernel_rfl
noncomputable def t_g1 (P : Params) : BT := insAll (t_l1x16 P) [(3, ⟨dI, none, (.dict ⟨q1' P ++ ([⟨kH P ⟨⟨[95,95,99,97,99,104,101,100,95,95]⟩⟩, (.str ⟨⟨[95,95,99,97,99,104,101,100,95,95]⟩⟩ 174), .none⟩, ⟨kH P ⟨⟨[95,115,114,101]⟩⟩, (.str ⟨⟨[95,115,114,101]⟩⟩ 275), (.ref 12)⟩, ⟨kH P ⟨⟨[99,97,112,119,111,114,100,115]⟩⟩, (.str ⟨⟨[99,97,112,119,111,114,100,115]⟩⟩ 291), (.ref 39)⟩, ⟨kH P ⟨⟨[67,82,76,70]⟩⟩, (.str ⟨⟨[67,82,76,70]⟩⟩ 293), (.str ⟨⟨[13,10]⟩⟩ 292)⟩, ⟨kH P ⟨⟨[78,76]⟩⟩, (.str ⟨⟨[78,76]⟩⟩ 295), (.str ⟨⟨[10]⟩⟩ 294)⟩, ⟨kH P ⟨⟨[95,81,85,79,80,82,73,95,77,65,80]⟩⟩, (.str ⟨⟨[95,81,85,79,80,82,73,95,77,65,80]⟩⟩ 1323), (.ref 42)⟩])⟩ 14), ⟨[]⟩⟩),
  (41, ⟨(.type "range_iterator"), none, (.fields ⟨[(.int 256 0), (.int 0 0), (.int 1 0)]⟩), ⟨[]⟩⟩),
  (42, ⟨lI, none, (.seq ⟨q2' ++ (q3' ++ (q4' ++ (q5' ++ (q6' ++ (q7' ++ (q8' ++ (q9' ++ (q10' ++ (q11' ++ (q12' ++ (q13' ++ (q14' ++ (q15' ++ (q16' ++ (q17' ++ (q18' ++ (q19' ++ (q20' ++ (q21' ++ (q22' ++ (q23' ++ (q24' ++ (q25' ++ (q26' ++ (q27' ++ (q28' ++ (q29' ++ (q30' ++ (q31' ++ (q32' ++ (q33')))))))))))))))))))))))))))))))⟩ 256), ⟨[]⟩⟩),
  (43, ⟨dI, none, (.dict ⟨[]⟩ 2), ⟨[]⟩⟩),
  (44, ⟨tU, none, (.seq ⟨[]⟩ 0), ⟨[]⟩⟩),
  (45, ⟨(.type "StopIteration"), none, (.fields ⟨[(.ref 44), .none, .none, .none, (.bool false), .none]⟩), ⟨[]⟩⟩)]
noncomputable def S_g1 (w : World) (os : OsState) : SharedT := ⟨t_g1 w.params, 46, {}, ⟨[]⟩, {}, 1324, os⟩
theorem l1x16 : ∀ w : World, (fun os => runT 584 w (S_l1x16 w os) (thr1 w os)) = fun os => some (.next, S_g1 w os, codeT, ⟨7, 0, 7, 11⟩) := fun w => by kernel_rfl
noncomputable def t_g2 (P : Params) : BT := insAll (t_g1 P) [(3, ⟨dI, none, (.dict ⟨q34' P ++ (q35' P ++ ([⟨kH P z1', (.str z1' 1327), (.str z4' 1326)⟩, ⟨kH P z2', (.str z2' 1329), (.str z5' 1328)⟩, ⟨kH P z3', (.str z3' 1331), (.str z0' 1330)⟩, ⟨kH P z6', (.str z6' 1333), (.str z8' 1332)⟩]))⟩ 20), ⟨[]⟩⟩),
  (46, ⟨(.type "slice"), none, (.fields ⟨[.none, .none, .none]⟩), ⟨[]⟩⟩),
  (47, ⟨lI, none, (.seq ⟨q2' ++ (q3' ++ (q4' ++ (q5' ++ (q6' ++ (q7' ++ (q8' ++ (q9' ++ (q10' ++ (q11' ++ (q12' ++ (q13' ++ (q14' ++ (q15' ++ (q16' ++ (q17' ++ (q18' ++ (q19' ++ (q20' ++ (q21' ++ (q22' ++ (q23' ++ (q24' ++ (q25' ++ (q26' ++ (q27' ++ (q28' ++ (q29' ++ (q30' ++ (q31' ++ (q32' ++ (q33')))))))))))))))))))))))))))))))⟩ 0), ⟨[]⟩⟩),
  (48, ⟨(.type "slice"), none, (.fields ⟨[.none, .none, .none]⟩), ⟨[]⟩⟩),
  (49, ⟨lI, none, (.seq ⟨q2' ++ (q3' ++ (q4' ++ (q5' ++ (q6' ++ (q7' ++ (q8' ++ (q9' ++ (q10' ++ (q11' ++ (q12' ++ (q13' ++ (q14' ++ (q15' ++ (q16' ++ (q17' ++ (q18' ++ (q19' ++ (q20' ++ (q21' ++ (q22' ++ (q23' ++ (q24' ++ (q25' ++ (q26' ++ (q27' ++ (q28' ++ (q29' ++ (q30' ++ (q31' ++ (q32' ++ (q33')))))))))))))))))))))))))))))))⟩ 0), ⟨[]⟩⟩)]
noncomputable def S_g2 (w : World) (os : OsState) : SharedT := ⟨t_g2 w.params, 50, {}, ⟨[]⟩, {}, 1336, os⟩
theorem g2 : ∀ w : World, (fun os => runT 165 w (S_g1 w os) (piecesOf ((behindTheImports tP).drop 5 |>.take 7) envT codeT ⟨7, 0, 7, 11⟩ fB)) = fun os => some (.next, S_g2 w os, codeT, ⟨14, 0, 14, 8⟩) := fun w => by kernel_rfl
noncomputable abbrev th3 : Thread := piecesOf ((behindTheImports tP).drop 12 |>.take 1) envT codeT ⟨14, 0, 14, 8⟩ fB
noncomputable def t_l3x0 (P : Params) : BT := insAll (t_g2 P) [(3, ⟨dI, none, (.dict ⟨q34' P ++ (q35' P ++ ([⟨kH P z1', (.str z1' 1327), (.str z4' 1326)⟩, ⟨kH P z2', (.str z2' 1329), (.str z5' 1328)⟩, ⟨kH P z3', (.str z3' 1331), (.str z0' 1330)⟩, ⟨kH P z6', (.str z6' 1333), (.str z8' 1332)⟩, ⟨kH P z9', (.str z9' 1344), (.int 33 1346)⟩]))⟩ 21), ⟨[]⟩⟩),
  (47, ⟨lI, none, (.seq ⟨q2' ++ (q3' ++ (q4' ++ (q5' ++ (q36' ++ ([(.str ⟨⟨[61,50,56]⟩⟩ 462), (.str ⟨⟨[61,50,57]⟩⟩ 466), (.str ⟨⟨[61,50,65]⟩⟩ 470), (.str ⟨⟨[61,50,66]⟩⟩ 474), (.str ⟨⟨[61,50,67]⟩⟩ 478), (.str ⟨⟨[45]⟩⟩ 1345), (.str ⟨⟨[61,50,69]⟩⟩ 486), (.str ⟨⟨[61,50,70]⟩⟩ 490)] ++ (q8' ++ (q9' ++ (q10' ++ (q11' ++ (q12' ++ (q13' ++ (q14' ++ (q15' ++ (q16' ++ (q17' ++ (q18' ++ (q19' ++ (q20' ++ (q21' ++ (q22' ++ (q23' ++ (q24' ++ (q25' ++ (q26' ++ (q27' ++ (q28' ++ (q29' ++ (q30' ++ (q31' ++ (q32' ++ (q33')))))))))))))))))))))))))))))))⟩ 0), ⟨[]⟩⟩),
  (50, ⟨(.type "bytes_iterator"), none, (.fields ⟨[(.bytes ⟨[45,33,42,43,47,97,98,99,100,101,102,103,104,105,106,107,108,109,110,111,112,113,114,115,116,117,118,119,120,121,122,65,66,67,68,69,70,71,72,73,74,75,76,77,78,79,80,81,82,83,84,85,86,87,88,89,90,48,49,50,51,52,53,54,55,56,57]⟩ 1342), (.int 2 0)]⟩), ⟨[]⟩⟩)]
noncomputable def S_l3x0 (w : World) (os : OsState) : SharedT := ⟨t_l3x0 w.params, 51, {}, ⟨[]⟩, {}, 1349, os⟩
noncomputable def thr3 (w : World) (os : OsState) : Thread := thrOf (goT 133 (V false w) (S_g2 w os) th3)
theorem p3_false : ∀ w : World, (fun os => goT 133 (V false w) (S_g2 (V false w) os) th3) = fun os => some (S_l3x0 (V false w) os, thr3 (V false w) os) := fun w => by kernel_rfl
theorem p3_true : ∀ w : World, (fun os => goT 133 (V true w) (S_g2 (V true w) os) th3) = fun os => some (S_l3x0 (V true w) os, thr3 (V true w) os) := fun w => by kernel_rfl
noncomputable def t_l3x1 (P : Params) : BT := insAll (t_l3x0 P) [(3, ⟨dI, none, (.dict ⟨q34' P ++ (q35' P ++ ([⟨kH P z1', (.str z1' 1327), (.str z4' 1326)⟩, ⟨kH P z2', (.str z2' 1329), (.str z5' 1328)⟩, ⟨kH P z3', (.str z3' 1331), (.str z0' 1330)⟩, ⟨kH P z6', (.str z6' 1333), (.str z8' 1332)⟩, ⟨kH P z9', (.str z9' 1344), (.int 105 1382)⟩]))⟩ 21), ⟨[]⟩⟩),
  (47, ⟨lI, none, (.seq ⟨q2' ++ (q3' ++ (q4' ++ (q5' ++ (q36' ++ (q37' ++ (q8' ++ (q9' ++ (q10' ++ (q11' ++ (q12' ++ (q13' ++ (q38' ++ ([(.str ⟨⟨[104]⟩⟩ 1381), (.str ⟨⟨[105]⟩⟩ 1384), (.str ⟨⟨[61,54,65]⟩⟩ 726), (.str ⟨⟨[61,54,66]⟩⟩ 730), (.str ⟨⟨[61,54,67]⟩⟩ 734), (.str ⟨⟨[61,54,68]⟩⟩ 738), (.str ⟨⟨[61,54,69]⟩⟩ 742), (.str ⟨⟨[61,54,70]⟩⟩ 746)] ++ (q16' ++ (q17' ++ (q18' ++ (q19' ++ (q20' ++ (q21' ++ (q22' ++ (q23' ++ (q24' ++ (q25' ++ (q26' ++ (q27' ++ (q28' ++ (q29' ++ (q30' ++ (q31' ++ (q32' ++ (q33')))))))))))))))))))))))))))))))⟩ 0), ⟨[]⟩⟩),
  (50, ⟨(.type "bytes_iterator"), none, (.fields ⟨[(.bytes ⟨[45,33,42,43,47,97,98,99,100,101,102,103,104,105,106,107,108,109,110,111,112,113,114,115,116,117,118,119,120,121,122,65,66,67,68,69,70,71,72,73,74,75,76,77,78,79,80,81,82,83,84,85,86,87,88,89,90,48,49,50,51,52,53,54,55,56,57]⟩ 1342), (.int 14 0)]⟩), ⟨[]⟩⟩)]
noncomputable def S_l3x1 (w : World) (os : OsState) : SharedT := ⟨t_l3x1 w.params, 51, {}, ⟨[]⟩, {}, 1385, os⟩
theorem l3x0 : ∀ w : World, (fun os => goT 540 w (S_l3x0 w os) (thr3 w os)) = fun os => some (S_l3x1 w os, thr3 w os) := fun w => by kernel_rfl
noncomputable def t_l3x2 (P : Params) : BT := insAll (t_l3x1 P) [(3, ⟨dI, none, (.dict ⟨q34' P ++ (q35' P ++ ([⟨kH P z1', (.str z1' 1327), (.str z4' 1326)⟩, ⟨kH P z2', (.str z2' 1329), (.str z5' 1328)⟩, ⟨kH P z3', (.str z3' 1331), (.str z0' 1330)⟩, ⟨kH P z6', (.str z6' 1333), (.str z8' 1332)⟩, ⟨kH P z9', (.str z9' 1344), (.int 117 1418)⟩]))⟩ 21), ⟨[]⟩⟩),
  (47, ⟨lI, none, (.seq ⟨q2' ++ (q3' ++ (q4' ++ (q5' ++ (q36' ++ (q37' ++ (q8' ++ (q9' ++ (q10' ++ (q11' ++ (q12' ++ (q13' ++ (q38' ++ (q39' ++ ([(.str ⟨⟨[112]⟩⟩ 1405), (.str ⟨⟨[113]⟩⟩ 1408), (.str ⟨⟨[114]⟩⟩ 1411), (.str ⟨⟨[115]⟩⟩ 1414), (.str ⟨⟨[116]⟩⟩ 1417), (.str ⟨⟨[117]⟩⟩ 1420), (.str ⟨⟨[61,55,54]⟩⟩ 774), (.str ⟨⟨[61,55,55]⟩⟩ 778)] ++ (q17' ++ (q18' ++ (q19' ++ (q20' ++ (q21' ++ (q22' ++ (q23' ++ (q24' ++ (q25' ++ (q26' ++ (q27' ++ (q28' ++ (q29' ++ (q30' ++ (q31' ++ (q32' ++ (q33')))))))))))))))))))))))))))))))⟩ 0), ⟨[]⟩⟩),
  (50, ⟨(.type "bytes_iterator"), none, (.fields ⟨[(.bytes ⟨[45,33,42,43,47,97,98,99,100,101,102,103,104,105,106,107,108,109,110,111,112,113,114,115,116,117,118,119,120,121,122,65,66,67,68,69,70,71,72,73,74,75,76,77,78,79,80,81,82,83,84,85,86,87,88,89,90,48,49,50,51,52,53,54,55,56,57]⟩ 1342), (.int 26 0)]⟩), ⟨[]⟩⟩)]
noncomputable def S_l3x2 (w : World) (os : OsState) : SharedT := ⟨t_l3x2 w.params, 51, {}, ⟨[]⟩, {}, 1421, os⟩
theorem l3x1 : ∀ w : World, (fun os => goT 540 w (S_l3x1 w os) (thr3 w os)) = fun os => some (S_l3x2 w os, thr3 w os) := fun w => by kernel_rfl
noncomputable def t_l3x3 (P : Params) : BT := insAll (t_l3x2 P) [(3, ⟨dI, none, (.dict ⟨q34' P ++ (q35' P ++ ([⟨kH P z1', (.str z1' 1327), (.str z4' 1326)⟩, ⟨kH P z2', (.str z2' 1329), (.str z5' 1328)⟩, ⟨kH P z3', (.str z3' 1331), (.str z0' 1330)⟩, ⟨kH P z6', (.str z6' 1333), (.str z8' 1332)⟩, ⟨kH P z9', (.str z9' 1344), (.int 71 1454)⟩]))⟩ 21), ⟨[]⟩⟩),
  (47, ⟨lI, none, (.seq ⟨q2' ++ (q3' ++ (q4' ++ (q5' ++ (q36' ++ (q37' ++ (q8' ++ (q9' ++ (q40' ++ (q11' ++ (q12' ++ (q13' ++ (q38' ++ (q39' ++ (q41' ++ (q42' ++ (q18' ++ (q19' ++ (q20' ++ (q21' ++ (q22' ++ (q23' ++ (q24' ++ (q25' ++ (q26' ++ (q27' ++ (q28' ++ (q29' ++ (q30' ++ (q31' ++ (q32' ++ (q33')))))))))))))))))))))))))))))))⟩ 0), ⟨[]⟩⟩),
  (50, ⟨(.type "bytes_iterator"), none, (.fields ⟨[(.bytes ⟨[45,33,42,43,47,97,98,99,100,101,102,103,104,105,106,107,108,109,110,111,112,113,114,115,116,117,118,119,120,121,122,65,66,67,68,69,70,71,72,73,74,75,76,77,78,79,80,81,82,83,84,85,86,87,88,89,90,48,49,50,51,52,53,54,55,56,57]⟩ 1342), (.int 38 0)]⟩), ⟨[]⟩⟩)]
noncomputable def S_l3x3 (w : World) (os : OsState) : SharedT := ⟨t_l3x3 w.params, 51, {}, ⟨[]⟩, {}, 1457, os⟩
theorem l3x2 : ∀ w : World, (fun os => goT 540 w (S_l3x2 w os) (thr3 w os)) = fun os => some (S_l3x3 w os, thr3 w os) := fun w => by kernel_rfl
noncomputable def t_l3x4 (P : Params) : BT := insAll (t_l3x3 P) [(3, ⟨dI, none, (.dict ⟨q34' P ++ (q35' P ++ ([⟨kH P z1', (.str z1' 1327), (.str z4' 1326)⟩, ⟨kH P z2', (.str z2' 1329), (.str z5' 1328)⟩, ⟨kH P z3', (.str z3' 1331), (.str z0' 1330)⟩, ⟨kH P z6', (.str z6' 1333), (.str z8' 1332)⟩, ⟨kH P z9', (.str z9' 1344), (.int 83 1490)⟩]))⟩ 21), ⟨[]⟩⟩),
  (47, ⟨lI, none, (.seq ⟨q2' ++ (q3' ++ (q4' ++ (q5' ++ (q36' ++ (q37' ++ (q8' ++ (q9' ++ (q40' ++ (q43' ++ ([(.str ⟨⟨[80]⟩⟩ 1483), (.str ⟨⟨[81]⟩⟩ 1486), (.str ⟨⟨[82]⟩⟩ 1489), (.str ⟨⟨[83]⟩⟩ 1492), (.str ⟨⟨[61,53,52]⟩⟩ 638), (.str ⟨⟨[61,53,53]⟩⟩ 642), (.str ⟨⟨[61,53,54]⟩⟩ 646), (.str ⟨⟨[61,53,55]⟩⟩ 650)] ++ (q13' ++ (q38' ++ (q39' ++ (q41' ++ (q42' ++ (q18' ++ (q19' ++ (q20' ++ (q21' ++ (q22' ++ (q23' ++ (q24' ++ (q25' ++ (q26' ++ (q27' ++ (q28' ++ (q29' ++ (q30' ++ (q31' ++ (q32' ++ (q33')))))))))))))))))))))))))))))))⟩ 0), ⟨[]⟩⟩),
  (50, ⟨(.type "bytes_iterator"), none, (.fields ⟨[(.bytes ⟨[45,33,42,43,47,97,98,99,100,101,102,103,104,105,106,107,108,109,110,111,112,113,114,115,116,117,118,119,120,121,122,65,66,67,68,69,70,71,72,73,74,75,76,77,78,79,80,81,82,83,84,85,86,87,88,89,90,48,49,50,51,52,53,54,55,56,57]⟩ 1342), (.int 50 0)]⟩), ⟨[]⟩⟩)]
noncomputable def S_l3x4 (w : World) (os : OsState) : SharedT := ⟨t_l3x4 w.params, 51, {}, ⟨[]⟩, {}, 1493, os⟩
theorem l3x3 : ∀ w : World, (fun os => goT 540 w (S_l3x3 w os) (thr3 w os)) = fun os => some (S_l3x4 w os, thr3 w os) := fun w => by kernel_rfl
noncomputable def t_l3x5 (P : Params) : BT := insAll (t_l3x4 P) [(3, ⟨dI, none, (.dict ⟨q34' P ++ (q35' P ++ ([⟨kH P z1', (.str z1' 1327), (.str z4' 1326)⟩, ⟨kH P z2', (.str z2' 1329), (.str z5' 1328)⟩, ⟨kH P z3', (.str z3' 1331), (.str z0' 1330)⟩, ⟨kH P z6', (.str z6' 1333), (.str z8' 1332)⟩, ⟨kH P z9', (.str z9' 1344), (.int 52 1526)⟩]))⟩ 21), ⟨[]⟩⟩),
  (47, ⟨lI, none, (.seq ⟨q2' ++ (q3' ++ (q4' ++ (q5' ++ (q36' ++ (q37' ++ ([(.str ⟨⟨[48]⟩⟩ 1516), (.str ⟨⟨[49]⟩⟩ 1519), (.str ⟨⟨[50]⟩⟩ 1522), (.str ⟨⟨[51]⟩⟩ 1525), (.str ⟨⟨[52]⟩⟩ 1528), (.str ⟨⟨[61,51,53]⟩⟩ 514), (.str ⟨⟨[61,51,54]⟩⟩ 518), (.str ⟨⟨[61,51,55]⟩⟩ 522)] ++ (q9' ++ (q40' ++ (q43' ++ (q44' ++ (q45' ++ (q38' ++ (q39' ++ (q41' ++ (q42' ++ (q18' ++ (q19' ++ (q20' ++ (q21' ++ (q22' ++ (q23' ++ (q24' ++ (q25' ++ (q26' ++ (q27' ++ (q28' ++ (q29' ++ (q30' ++ (q31' ++ (q32' ++ (q33')))))))))))))))))))))))))))))))⟩ 0), ⟨[]⟩⟩),
  (50, ⟨(.type "bytes_iterator"), none, (.fields ⟨[(.bytes ⟨[45,33,42,43,47,97,98,99,100,101,102,103,104,105,106,107,108,109,110,111,112,113,114,115,116,117,118,119,120,121,122,65,66,67,68,69,70,71,72,73,74,75,76,77,78,79,80,81,82,83,84,85,86,87,88,89,90,48,49,50,51,52,53,54,55,56,57]⟩ 1342), (.int 62 0)]⟩), ⟨[]⟩⟩)]
noncomputable def S_l3x5 (w : World) (os : OsState) : SharedT := ⟨t_l3x5 w.params, 51, {}, ⟨[]⟩, {}, 1529, os⟩
theorem l3x4 : ∀ w : World, (fun os => goT 540 w (S_l3x4 w os) (thr3 w os)) = fun os => some (S_l3x5 w os, thr3 w os) := fun w => by kernel_rfl
noncomputable def t_g3 (P : Params) : BT := insAll (t_l3x5 P) [(3, ⟨dI, none, (.dict ⟨q34' P ++ (q35' P ++ ([⟨kH P z1', (.str z1' 1327), (.str z4' 1326)⟩, ⟨kH P z2', (.str z2' 1329), (.str z5' 1328)⟩, ⟨kH P z3', (.str z3' 1331), (.str z0' 1330)⟩, ⟨kH P z6', (.str z6' 1333), (.str z8' 1332)⟩, ⟨kH P z9', (.str z9' 1344), (.int 57 1541)⟩]))⟩ 21), ⟨[]⟩⟩),
  (47, ⟨lI, none, (.seq ⟨q2' ++ (q3' ++ (q4' ++ (q5' ++ (q36' ++ (q37' ++ (q46' ++ (q47' ++ (q40' ++ (q43' ++ (q44' ++ (q45' ++ (q38' ++ (q39' ++ (q41' ++ (q42' ++ (q18' ++ (q19' ++ (q20' ++ (q21' ++ (q22' ++ (q23' ++ (q24' ++ (q25' ++ (q26' ++ (q27' ++ (q28' ++ (q29' ++ (q30' ++ (q31' ++ (q32' ++ (q33')))))))))))))))))))))))))))))))⟩ 0), ⟨[]⟩⟩),
  (50, ⟨(.type "bytes_iterator"), none, (.fields ⟨[.none, (.int 67 0)]⟩), ⟨[]⟩⟩),
  (51, ⟨tU, none, (.seq ⟨[]⟩ 0), ⟨[]⟩⟩),
  (52, ⟨(.type "StopIteration"), none, (.fields ⟨[(.ref 51), .none, .none, .none, (.bool false), .none]⟩), ⟨[]⟩⟩)]
noncomputable def S_g3 (w : World) (os : OsState) : SharedT := ⟨t_g3 w.params, 53, {}, ⟨[]⟩, {}, 1544, os⟩
theorem l3x5 : ∀ w : World, (fun os => runT 244 w (S_l3x5 w os) (thr3 w os)) = fun os => some (.next, S_g3 w os, codeT, ⟨15, 9, 15, 74⟩) := fun w => by kernel_rfl
noncomputable def t_g4 (P : Params) : BT := insAll (t_g3 P) [(47, ⟨lI, none, (.seq ⟨q2' ++ (q3' ++ (q4' ++ (q5' ++ ([(.str ⟨⟨[95]⟩⟩ 1544), (.str ⟨⟨[33]⟩⟩ 1348), (.str ⟨⟨[61,50,50]⟩⟩ 438), (.str ⟨⟨[61,50,51]⟩⟩ 442), (.str ⟨⟨[61,50,52]⟩⟩ 446), (.str ⟨⟨[61,50,53]⟩⟩ 450), (.str ⟨⟨[61,50,54]⟩⟩ 454), (.str ⟨⟨[61,50,55]⟩⟩ 458)] ++ (q37' ++ (q46' ++ (q47' ++ (q40' ++ (q43' ++ (q44' ++ (q45' ++ (q38' ++ (q39' ++ (q41' ++ (q42' ++ (q18' ++ (q19' ++ (q20' ++ (q21' ++ (q22' ++ (q23' ++ (q24' ++ (q25' ++ (q26' ++ (q27' ++ (q28' ++ (q29' ++ (q30' ++ (q31' ++ (q32' ++ (q33')))))))))))))))))))))))))))))))⟩ 0), ⟨[]⟩⟩)]
noncomputable def S_g4 (w : World) (os : OsState) : SharedT := ⟨t_g4 w.params, 53, {}, ⟨[]⟩, {}, 1547, os⟩
theorem g4 : ∀ w : World, (fun os => runT 33 w (S_g3 w os) (piecesOf ((behindTheImports tP).drop 13 |>.take 1) envT codeT ⟨15, 9, 15, 74⟩ fB)) = fun os => some (.next, S_g4 w os, codeT, ⟨17, 0, 17, 28⟩) := fun w => by kernel_rfl
noncomputable abbrev th5 : Thread := piecesOf ((behindTheImports tP).drop 14 |>.take 1) envT codeT ⟨17, 0, 17, 28⟩ fB
noncomputable def t_l5x0 (P : Params) : BT := insAll (t_g4 P) [(3, ⟨dI, none, (.dict ⟨q34' P ++ (q35' P ++ ([⟨kH P z1', (.str z1' 1327), (.str z4' 1326)⟩, ⟨kH P z2', (.str z2' 1329), (.str z5' 1328)⟩, ⟨kH P z3', (.str z3' 1331), (.str z0' 1330)⟩, ⟨kH P z6', (.str z6' 1333), (.str z8' 1332)⟩, ⟨kH P z9', (.str z9' 1344), (.int 33 1551)⟩]))⟩ 21), ⟨[]⟩⟩),
  (49, ⟨lI, none, (.seq ⟨q2' ++ (q3' ++ (q4' ++ (q5' ++ ([(.str ⟨⟨[32]⟩⟩ 1550), (.str ⟨⟨[33]⟩⟩ 1553), (.str ⟨⟨[61,50,50]⟩⟩ 438), (.str ⟨⟨[61,50,51]⟩⟩ 442), (.str ⟨⟨[61,50,52]⟩⟩ 446), (.str ⟨⟨[61,50,53]⟩⟩ 450), (.str ⟨⟨[61,50,54]⟩⟩ 454), (.str ⟨⟨[61,50,55]⟩⟩ 458)] ++ (q7' ++ (q8' ++ (q9' ++ (q10' ++ (q11' ++ (q12' ++ (q13' ++ (q14' ++ (q15' ++ (q16' ++ (q17' ++ (q18' ++ (q19' ++ (q20' ++ (q21' ++ (q22' ++ (q23' ++ (q24' ++ (q25' ++ (q26' ++ (q27' ++ (q28' ++ (q29' ++ (q30' ++ (q31' ++ (q32' ++ (q33')))))))))))))))))))))))))))))))⟩ 0), ⟨[]⟩⟩),
  (53, ⟨(.type "bytes_iterator"), none, (.fields ⟨[(.bytes ⟨[32,33,34,35,36,37,38,39,40,41,42,43,44,45,46,47,48,49,50,51,52,53,54,55,56,57,58,59,60,62,63,64,65,66,67,68,69,70,71,72,73,74,75,76,77,78,79,80,81,82,83,84,85,86,87,88,89,90,91,92,93,94,95,96,97,98,99,100,101,102,103,104,105,106,107,108,109,110,111,112,113,114,115,116,117,118,119,120,121,122,123,124,125,126,9]⟩ 1547), (.int 2 0)]⟩), ⟨[]⟩⟩)]
noncomputable def S_l5x0 (w : World) (os : OsState) : SharedT := ⟨t_l5x0 w.params, 54, {}, ⟨[]⟩, {}, 1554, os⟩
noncomputable def thr5 (w : World) (os : OsState) : Thread := thrOf (goT 99 (V false w) (S_g4 w os) th5)
theorem p5_false : ∀ w : World, (fun os => goT 99 (V false w) (S_g4 (V false w) os) th5) = fun os => some (S_l5x0 (V false w) os, thr5 (V false w) os) := fun w => by kernel_rfl
theorem p5_true : ∀ w : World, (fun os => goT 99 (V true w) (S_g4 (V true w) os) th5) = fun os => some (S_l5x0 (V true w) os, thr5 (V true w) os) := fun w => by kernel_rfl
noncomputable def t_l5x1 (P : Params) : BT := insAll (t_l5x0 P) [(3, ⟨dI, none, (.dict ⟨q34' P ++ (q35' P ++ ([⟨kH P z1', (.str z1' 1327), (.str z4' 1326)⟩, ⟨kH P z2', (.str z2' 1329), (.str z5' 1328)⟩, ⟨kH P z3', (.str z3' 1331), (.str z0' 1330)⟩, ⟨kH P z6', (.str z6' 1333), (.str z8' 1332)⟩, ⟨kH P z9', (.str z9' 1344), (.int 45 1587)⟩]))⟩ 21), ⟨[]⟩⟩),
  (49, ⟨lI, none, (.seq ⟨q2' ++ (q3' ++ (q4' ++ (q5' ++ (q48' ++ ([(.str ⟨⟨[40]⟩⟩ 1574), (.str ⟨⟨[41]⟩⟩ 1577), (.str ⟨⟨[42]⟩⟩ 1580), (.str ⟨⟨[43]⟩⟩ 1583), (.str ⟨⟨[44]⟩⟩ 1586), (.str ⟨⟨[45]⟩⟩ 1589), (.str ⟨⟨[61,50,69]⟩⟩ 486), (.str ⟨⟨[61,50,70]⟩⟩ 490)] ++ (q8' ++ (q9' ++ (q10' ++ (q11' ++ (q12' ++ (q13' ++ (q14' ++ (q15' ++ (q16' ++ (q17' ++ (q18' ++ (q19' ++ (q20' ++ (q21' ++ (q22' ++ (q23' ++ (q24' ++ (q25' ++ (q26' ++ (q27' ++ (q28' ++ (q29' ++ (q30' ++ (q31' ++ (q32' ++ (q33')))))))))))))))))))))))))))))))⟩ 0), ⟨[]⟩⟩),
  (53, ⟨(.type "bytes_iterator"), none, (.fields ⟨[(.bytes ⟨[32,33,34,35,36,37,38,39,40,41,42,43,44,45,46,47,48,49,50,51,52,53,54,55,56,57,58,59,60,62,63,64,65,66,67,68,69,70,71,72,73,74,75,76,77,78,79,80,81,82,83,84,85,86,87,88,89,90,91,92,93,94,95,96,97,98,99,100,101,102,103,104,105,106,107,108,109,110,111,112,113,114,115,116,117,118,119,120,121,122,123,124,125,126,9]⟩ 1547), (.int 14 0)]⟩), ⟨[]⟩⟩)]
noncomputable def S_l5x1 (w : World) (os : OsState) : SharedT := ⟨t_l5x1 w.params, 54, {}, ⟨[]⟩, {}, 1590, os⟩
theorem l5x0 : ∀ w : World, (fun os => goT 540 w (S_l5x0 w os) (thr5 w os)) = fun os => some (S_l5x1 w os, thr5 w os) := fun w => by kernel_rfl
noncomputable def t_l5x2 (P : Params) : BT := insAll (t_l5x1 P) [(3, ⟨dI, none, (.dict ⟨q34' P ++ (q35' P ++ ([⟨kH P z1', (.str z1' 1327), (.str z4' 1326)⟩, ⟨kH P z2', (.str z2' 1329), (.str z5' 1328)⟩, ⟨kH P z3', (.str z3' 1331), (.str z0' 1330)⟩, ⟨kH P z6', (.str z6' 1333), (.str z8' 1332)⟩, ⟨kH P z9', (.str z9' 1344), (.int 57 1623)⟩]))⟩ 21), ⟨[]⟩⟩),
  (49, ⟨lI, none, (.seq ⟨q2' ++ (q3' ++ (q4' ++ (q5' ++ (q48' ++ (q49' ++ (q50' ++ ([(.str ⟨⟨[56]⟩⟩ 1622), (.str ⟨⟨[57]⟩⟩ 1625), (.str ⟨⟨[61,51,65]⟩⟩ 534), (.str ⟨⟨[61,51,66]⟩⟩ 538), (.str ⟨⟨[61,51,67]⟩⟩ 542), (.str ⟨⟨[61,51,68]⟩⟩ 546), (.str ⟨⟨[61,51,69]⟩⟩ 550), (.str ⟨⟨[61,51,70]⟩⟩ 554)] ++ (q10' ++ (q11' ++ (q12' ++ (q13' ++ (q14' ++ (q15' ++ (q16' ++ (q17' ++ (q18' ++ (q19' ++ (q20' ++ (q21' ++ (q22' ++ (q23' ++ (q24' ++ (q25' ++ (q26' ++ (q27' ++ (q28' ++ (q29' ++ (q30' ++ (q31' ++ (q32' ++ (q33')))))))))))))))))))))))))))))))⟩ 0), ⟨[]⟩⟩),
  (53, ⟨(.type "bytes_iterator"), none, (.fields ⟨[(.bytes ⟨[32,33,34,35,36,37,38,39,40,41,42,43,44,45,46,47,48,49,50,51,52,53,54,55,56,57,58,59,60,62,63,64,65,66,67,68,69,70,71,72,73,74,75,76,77,78,79,80,81,82,83,84,85,86,87,88,89,90,91,92,93,94,95,96,97,98,99,100,101,102,103,104,105,106,107,108,109,110,111,112,113,114,115,116,117,118,119,120,121,122,123,124,125,126,9]⟩ 1547), (.int 26 0)]⟩), ⟨[]⟩⟩)]
noncomputable def S_l5x2 (w : World) (os : OsState) : SharedT := ⟨t_l5x2 w.params, 54, {}, ⟨[]⟩, {}, 1626, os⟩
theorem l5x1 : ∀ w : World, (fun os => goT 540 w (S_l5x1 w os) (thr5 w os)) = fun os => some (S_l5x2 w os, thr5 w os) := fun w => by kernel_rfl
noncomputable def t_l5x3 (P : Params) : BT := insAll (t_l5x2 P) [(3, ⟨dI, none, (.dict ⟨q34' P ++ (q35' P ++ ([⟨kH P z1', (.str z1' 1327), (.str z4' 1326)⟩, ⟨kH P z2', (.str z2' 1329), (.str z5' 1328)⟩, ⟨kH P z3', (.str z3' 1331), (.str z0' 1330)⟩, ⟨kH P z6', (.str z6' 1333), (.str z8' 1332)⟩, ⟨kH P z9', (.str z9' 1344), (.int 70 1659)⟩]))⟩ 21), ⟨[]⟩⟩),
  (49, ⟨lI, none, (.seq ⟨q2' ++ (q3' ++ (q4' ++ (q5' ++ (q48' ++ (q49' ++ (q50' ++ (q51' ++ ([(.str ⟨⟨[64]⟩⟩ 1643), (.str ⟨⟨[65]⟩⟩ 1646), (.str ⟨⟨[66]⟩⟩ 1649), (.str ⟨⟨[67]⟩⟩ 1652), (.str ⟨⟨[68]⟩⟩ 1655), (.str ⟨⟨[69]⟩⟩ 1658), (.str ⟨⟨[70]⟩⟩ 1661), (.str ⟨⟨[61,52,55]⟩⟩ 586)] ++ (q11' ++ (q12' ++ (q13' ++ (q14' ++ (q15' ++ (q16' ++ (q17' ++ (q18' ++ (q19' ++ (q20' ++ (q21' ++ (q22' ++ (q23' ++ (q24' ++ (q25' ++ (q26' ++ (q27' ++ (q28' ++ (q29' ++ (q30' ++ (q31' ++ (q32' ++ (q33')))))))))))))))))))))))))))))))⟩ 0), ⟨[]⟩⟩),
  (53, ⟨(.type "bytes_iterator"), none, (.fields ⟨[(.bytes ⟨[32,33,34,35,36,37,38,39,40,41,42,43,44,45,46,47,48,49,50,51,52,53,54,55,56,57,58,59,60,62,63,64,65,66,67,68,69,70,71,72,73,74,75,76,77,78,79,80,81,82,83,84,85,86,87,88,89,90,91,92,93,94,95,96,97,98,99,100,101,102,103,104,105,106,107,108,109,110,111,112,113,114,115,116,117,118,119,120,121,122,123,124,125,126,9]⟩ 1547), (.int 38 0)]⟩), ⟨[]⟩⟩)]
noncomputable def S_l5x3 (w : World) (os : OsState) : SharedT := ⟨t_l5x3 w.params, 54, {}, ⟨[]⟩, {}, 1662, os⟩
theorem l5x2 : ∀ w : World, (fun os => goT 540 w (S_l5x2 w os) (thr5 w os)) = fun os => some (S_l5x3 w os, thr5 w os) := fun w => by kernel_rfl
noncomputable def t_l5x4 (P : Params) : BT := insAll (t_l5x3 P) [(3, ⟨dI, none, (.dict ⟨q34' P ++ (q35' P ++ ([⟨kH P z1', (.str z1' 1327), (.str z4' 1326)⟩, ⟨kH P z2', (.str z2' 1329), (.str z5' 1328)⟩, ⟨kH P z3', (.str z3' 1331), (.str z0' 1330)⟩, ⟨kH P z6', (.str z6' 1333), (.str z8' 1332)⟩, ⟨kH P z9', (.str z9' 1344), (.int 82 1695)⟩]))⟩ 21), ⟨[]⟩⟩),
  (49, ⟨lI, none, (.seq ⟨q2' ++ (q3' ++ (q4' ++ (q5' ++ (q48' ++ (q49' ++ (q50' ++ (q51' ++ (q52' ++ (q53' ++ ([(.str ⟨⟨[80]⟩⟩ 1691), (.str ⟨⟨[81]⟩⟩ 1694), (.str ⟨⟨[82]⟩⟩ 1697), (.str ⟨⟨[61,53,51]⟩⟩ 634), (.str ⟨⟨[61,53,52]⟩⟩ 638), (.str ⟨⟨[61,53,53]⟩⟩ 642), (.str ⟨⟨[61,53,54]⟩⟩ 646), (.str ⟨⟨[61,53,55]⟩⟩ 650)] ++ (q13' ++ (q14' ++ (q15' ++ (q16' ++ (q17' ++ (q18' ++ (q19' ++ (q20' ++ (q21' ++ (q22' ++ (q23' ++ (q24' ++ (q25' ++ (q26' ++ (q27' ++ (q28' ++ (q29' ++ (q30' ++ (q31' ++ (q32' ++ (q33')))))))))))))))))))))))))))))))⟩ 0), ⟨[]⟩⟩),
  (53, ⟨(.type "bytes_iterator"), none, (.fields ⟨[(.bytes ⟨[32,33,34,35,36,37,38,39,40,41,42,43,44,45,46,47,48,49,50,51,52,53,54,55,56,57,58,59,60,62,63,64,65,66,67,68,69,70,71,72,73,74,75,76,77,78,79,80,81,82,83,84,85,86,87,88,89,90,91,92,93,94,95,96,97,98,99,100,101,102,103,104,105,106,107,108,109,110,111,112,113,114,115,116,117,118,119,120,121,122,123,124,125,126,9]⟩ 1547), (.int 50 0)]⟩), ⟨[]⟩⟩)]
noncomputable def S_l5x4 (w : World) (os : OsState) : SharedT := ⟨t_l5x4 w.params, 54, {}, ⟨[]⟩, {}, 1698, os⟩
theorem l5x3 : ∀ w : World, (fun os => goT 540 w (S_l5x3 w os) (thr5 w os)) = fun os => some (S_l5x4 w os, thr5 w os) := fun w => by kernel_rfl
noncomputable def t_l5x5 (P : Params) : BT := insAll (t_l5x4 P) [(3, ⟨dI, none, (.dict ⟨q34' P ++ (q35' P ++ ([⟨kH P z1', (.str z1' 1327), (.str z4' 1326)⟩, ⟨kH P z2', (.str z2' 1329), (.str z5' 1328)⟩, ⟨kH P z3', (.str z3' 1331), (.str z0' 1330)⟩, ⟨kH P z6', (.str z6' 1333), (.str z8' 1332)⟩, ⟨kH P z9', (.str z9' 1344), (.int 94 1731)⟩]))⟩ 21), ⟨[]⟩⟩),
  (49, ⟨lI, none, (.seq ⟨q2' ++ (q3' ++ (q4' ++ (q5' ++ (q48' ++ (q49' ++ (q50' ++ (q51' ++ (q52' ++ (q53' ++ (q54' ++ ([(.str ⟨⟨[88]⟩⟩ 1715), (.str ⟨⟨[89]⟩⟩ 1718), (.str ⟨⟨[90]⟩⟩ 1721), (.str ⟨⟨[91]⟩⟩ 1724), (.str ⟨⟨[92]⟩⟩ 1727), (.str ⟨⟨[93]⟩⟩ 1730), (.str ⟨⟨[94]⟩⟩ 1733), (.str ⟨⟨[61,53,70]⟩⟩ 682)] ++ (q14' ++ (q15' ++ (q16' ++ (q17' ++ (q18' ++ (q19' ++ (q20' ++ (q21' ++ (q22' ++ (q23' ++ (q24' ++ (q25' ++ (q26' ++ (q27' ++ (q28' ++ (q29' ++ (q30' ++ (q31' ++ (q32' ++ (q33')))))))))))))))))))))))))))))))⟩ 0), ⟨[]⟩⟩),
  (53, ⟨(.type "bytes_iterator"), none, (.fields ⟨[(.bytes ⟨[32,33,34,35,36,37,38,39,40,41,42,43,44,45,46,47,48,49,50,51,52,53,54,55,56,57,58,59,60,62,63,64,65,66,67,68,69,70,71,72,73,74,75,76,77,78,79,80,81,82,83,84,85,86,87,88,89,90,91,92,93,94,95,96,97,98,99,100,101,102,103,104,105,106,107,108,109,110,111,112,113,114,115,116,117,118,119,120,121,122,123,124,125,126,9]⟩ 1547), (.int 62 0)]⟩), ⟨[]⟩⟩)]
noncomputable def S_l5x5 (w : World) (os : OsState) : SharedT := ⟨t_l5x5 w.params, 54, {}, ⟨[]⟩, {}, 1734, os⟩
theorem l5x4 : ∀ w : World, (fun os => goT 540 w (S_l5x4 w os) (thr5 w os)) = fun os => some (S_l5x5 w os, thr5 w os) := fun w => by kernel_rfl
noncomputable def t_l5x6 (P : Params) : BT := insAll (t_l5x5 P) [(3, ⟨dI, none, (.dict ⟨q34' P ++ (q35' P ++ ([⟨kH P z1', (.str z1' 1327), (.str z4' 1326)⟩, ⟨kH P z2', (.str z2' 1329), (.str z5' 1328)⟩, ⟨kH P z3', (.str z3' 1331), (.str z0' 1330)⟩, ⟨kH P z6', (.str z6' 1333), (.str z8' 1332)⟩, ⟨kH P z9', (.str z9' 1344), (.int 106 1767)⟩]))⟩ 21), ⟨[]⟩⟩),
  (49, ⟨lI, none, (.seq ⟨q2' ++ (q3' ++ (q4' ++ (q5' ++ (q48' ++ (q49' ++ (q50' ++ (q51' ++ (q52' ++ (q53' ++ (q54' ++ (q55' ++ (q56' ++ ([(.str ⟨⟨[104]⟩⟩ 1763), (.str ⟨⟨[105]⟩⟩ 1766), (.str ⟨⟨[106]⟩⟩ 1769), (.str ⟨⟨[61,54,66]⟩⟩ 730), (.str ⟨⟨[61,54,67]⟩⟩ 734), (.str ⟨⟨[61,54,68]⟩⟩ 738), (.str ⟨⟨[61,54,69]⟩⟩ 742), (.str ⟨⟨[61,54,70]⟩⟩ 746)] ++ (q16' ++ (q17' ++ (q18' ++ (q19' ++ (q20' ++ (q21' ++ (q22' ++ (q23' ++ (q24' ++ (q25' ++ (q26' ++ (q27' ++ (q28' ++ (q29' ++ (q30' ++ (q31' ++ (q32' ++ (q33')))))))))))))))))))))))))))))))⟩ 0), ⟨[]⟩⟩),
  (53, ⟨(.type "bytes_iterator"), none, (.fields ⟨[(.bytes ⟨[32,33,34,35,36,37,38,39,40,41,42,43,44,45,46,47,48,49,50,51,52,53,54,55,56,57,58,59,60,62,63,64,65,66,67,68,69,70,71,72,73,74,75,76,77,78,79,80,81,82,83,84,85,86,87,88,89,90,91,92,93,94,95,96,97,98,99,100,101,102,103,104,105,106,107,108,109,110,111,112,113,114,115,116,117,118,119,120,121,122,123,124,125,126,9]⟩ 1547), (.int 74 0)]⟩), ⟨[]⟩⟩)]
noncomputable def S_l5x6 (w : World) (os : OsState) : SharedT := ⟨t_l5x6 w.params, 54, {}, ⟨[]⟩, {}, 1770, os⟩
theorem l5x5 : ∀ w : World, (fun os => goT 540 w (S_l5x5 w os) (thr5 w os)) = fun os => some (S_l5x6 w os, thr5 w os) := fun w => by kernel_rfl
noncomputable def t_l5x7 (P : Params) : BT := insAll (t_l5x6 P) [(3, ⟨dI, none, (.dict ⟨q34' P ++ (q35' P ++ ([⟨kH P z1', (.str z1' 1327), (.str z4' 1326)⟩, ⟨kH P z2', (.str z2' 1329), (.str z5' 1328)⟩, ⟨kH P z3', (.str z3' 1331), (.str z0' 1330)⟩, ⟨kH P z6', (.str z6' 1333), (.str z8' 1332)⟩, ⟨kH P z9', (.str z9' 1344), (.int 118 1803)⟩]))⟩ 21), ⟨[]⟩⟩),
  (49, ⟨lI, none, (.seq ⟨q2' ++ (q3' ++ (q4' ++ (q5' ++ (q48' ++ (q49' ++ (q50' ++ (q51' ++ (q52' ++ (q53' ++ (q54' ++ (q55' ++ (q56' ++ (q57' ++ ([(.str ⟨⟨[112]⟩⟩ 1787), (.str ⟨⟨[113]⟩⟩ 1790), (.str ⟨⟨[114]⟩⟩ 1793), (.str ⟨⟨[115]⟩⟩ 1796), (.str ⟨⟨[116]⟩⟩ 1799), (.str ⟨⟨[117]⟩⟩ 1802), (.str ⟨⟨[118]⟩⟩ 1805), (.str ⟨⟨[61,55,55]⟩⟩ 778)] ++ (q17' ++ (q18' ++ (q19' ++ (q20' ++ (q21' ++ (q22' ++ (q23' ++ (q24' ++ (q25' ++ (q26' ++ (q27' ++ (q28' ++ (q29' ++ (q30' ++ (q31' ++ (q32' ++ (q33')))))))))))))))))))))))))))))))⟩ 0), ⟨[]⟩⟩),
  (53, ⟨(.type "bytes_iterator"), none, (.fields ⟨[(.bytes ⟨[32,33,34,35,36,37,38,39,40,41,42,43,44,45,46,47,48,49,50,51,52,53,54,55,56,57,58,59,60,62,63,64,65,66,67,68,69,70,71,72,73,74,75,76,77,78,79,80,81,82,83,84,85,86,87,88,89,90,91,92,93,94,95,96,97,98,99,100,101,102,103,104,105,106,107,108,109,110,111,112,113,114,115,116,117,118,119,120,121,122,123,124,125,126,9]⟩ 1547), (.int 86 0)]⟩), ⟨[]⟩⟩)]
noncomputable def S_l5x7 (w : World) (os : OsState) : SharedT := ⟨t_l5x7 w.params, 54, {}, ⟨[]⟩, {}, 1806, os⟩
theorem l5x6 : ∀ w : World, (fun os => goT 540 w (S_l5x6 w os) (thr5 w os)) = fun os => some (S_l5x7 w os, thr5 w os) := fun w => by kernel_rfl
noncomputable def t_g5 (P : Params) : BT := insAll (t_l5x7 P) [(3, ⟨dI, none, (.dict ⟨q34' P ++ (q35' P ++ ([⟨kH P z1', (.str z1' 1327), (.str z4' 1326)⟩, ⟨kH P z2', (.str z2' 1329), (.str z5' 1328)⟩, ⟨kH P z3', (.str z3' 1331), (.str z0' 1330)⟩, ⟨kH P z6', (.str z6' 1333), (.str z8' 1332)⟩, ⟨kH P z9', (.str z9' 1344), (.int 9 1830)⟩]))⟩ 21), ⟨[]⟩⟩),
  (49, ⟨lI, none, (.seq ⟨q2' ++ (q58' ++ (q4' ++ (q5' ++ (q48' ++ (q49' ++ (q50' ++ (q51' ++ (q52' ++ (q53' ++ (q54' ++ (q55' ++ (q56' ++ (q57' ++ (q59' ++ (q60' ++ (q18' ++ (q19' ++ (q20' ++ (q21' ++ (q22' ++ (q23' ++ (q24' ++ (q25' ++ (q26' ++ (q27' ++ (q28' ++ (q29' ++ (q30' ++ (q31' ++ (q32' ++ (q33')))))))))))))))))))))))))))))))⟩ 0), ⟨[]⟩⟩),
  (53, ⟨(.type "bytes_iterator"), none, (.fields ⟨[.none, (.int 95 0)]⟩), ⟨[]⟩⟩),
  (54, ⟨tU, none, (.seq ⟨[]⟩ 0), ⟨[]⟩⟩),
  (55, ⟨(.type "StopIteration"), none, (.fields ⟨[(.ref 54), .none, .none, .none, (.bool false), .none]⟩), ⟨[]⟩⟩)]
noncomputable def S_g5 (w : World) (os : OsState) : SharedT := ⟨t_g5 w.params, 56, {}, ⟨[]⟩, {}, 1833, os⟩
theorem l5x7 : ∀ w : World, (fun os => runT 424 w (S_l5x7 w os) (thr5 w os)) = fun os => some (.next, S_g5 w os, codeT, ⟨18, 9, 18, 110⟩) := fun w => by kernel_rfl
noncomputable def t_g6 (P : Params) : BT := insAll (t_g5 P) [(3, ⟨dI, none, (.dict ⟨q34' P ++ (q35' P ++ ([⟨kH P z1', (.str z1' 1327), (.str z4' 1326)⟩, ⟨kH P z2', (.str z2' 1329), (.str z5' 1328)⟩, ⟨kH P z3', (.str z3' 1331), (.str z0' 1330)⟩, ⟨kH P z6', (.str z6' 1333), (.str z8' 1332)⟩, ⟨kH P z9', (.str z9' 1344), (.int 9 1830)⟩, ⟨kH P ⟨⟨[113,117,111,116,101]⟩⟩, (.str ⟨⟨[113,117,111,116,101]⟩⟩ 1839), (.ref 62)⟩, ⟨kH P ⟨⟨[95,81,85,79,80,82,73,95,66,79,68,89,95,69,78,67,79,68,69,95,77,65,80]⟩⟩, (.str ⟨⟨[95,81,85,79,80,82,73,95,66,79,68,89,95,69,78,67,79,68,69,95,77,65,80]⟩⟩ 1840), (.ref 64)⟩]))⟩ 23), ⟨[]⟩⟩),
  (29, ⟨.none, none, (.fields ⟨[(.int 3 0), (.int 0 0), (.ref 38), (.int 20 0), (.int 0 0), (.ref 61)]⟩), ⟨[]⟩⟩),
  (56, ⟨tU, none, (.seq ⟨[]⟩ 0), ⟨[]⟩⟩),
  (57, ⟨.none, none, (.fields ⟨[]⟩), ⟨[]⟩⟩),
  (58, ⟨tU, none, (.seq ⟨[(.str z9' 1836)]⟩ 0), ⟨[]⟩⟩),
  (59, ⟨tU, none, (.seq ⟨[]⟩ 0), ⟨[]⟩⟩),
  (60, ⟨.none, none, (.func { name := ⟨⟨[113,117,111,116,101]⟩⟩, qualname := ⟨⟨[113,117,111,116,101]⟩⟩, params := fnA 16, body := .stmts (fnB 16), scope := fnS 16, globals := 0, closure := [], defaults := .none, kwdefaults := .none, doc := .none, pyModule := .none, annotations := none, code := .none, closureTuple := .none, builtins := 0 }), ⟨[]⟩⟩),
  (61, ⟨(.type "code"), none, (.fields ⟨[(.str ⟨⟨[113,117,111,116,101]⟩⟩ 1833), (.str ⟨⟨[113,117,111,116,101]⟩⟩ 1834), (.str z7' 1835), (.int 20 0), (.int 1 0), (.int 0 0), (.int 0 0), (.int 3 0), (.ref 56), (.bool true), (.int 276 0), (.ref 57), .none, (.ref 58), (.ref 59), (.ref 60), (.int 1837 0), (.int 20 0), (.str z7' 1838)]⟩), ⟨[]⟩⟩),
  (62, ⟨(.type "function"), none, (.func { name := ⟨⟨[113,117,111,116,101]⟩⟩, qualname := ⟨⟨[113,117,111,116,101]⟩⟩, params := fnA 16, body := .stmts (fnB 16), scope := fnS 16, globals := 3, closure := [], defaults := .none, kwdefaults := .none, doc := .none, pyModule := (.str ⟨⟨[99,112,121,51,49,51,46,101,109,97,105,108,46,113,117,111,112,114,105,109,105,109,101]⟩⟩ 1334), annotations := none, code := (.ref 61), closureTuple := .none, builtins := 0 }), ⟨[]⟩⟩),
  (63, ⟨(.type "slice"), none, (.fields ⟨[.none, .none, .none]⟩), ⟨[]⟩⟩),
  (64, ⟨lI, none, (.seq ⟨q2' ++ (q58' ++ (q4' ++ (q5' ++ (q48' ++ (q49' ++ (q50' ++ (q51' ++ (q52' ++ (q53' ++ (q54' ++ (q55' ++ (q56' ++ (q57' ++ (q59' ++ (q60' ++ (q18' ++ (q19' ++ (q20' ++ (q21' ++ (q22' ++ (q23' ++ (q24' ++ (q25' ++ (q26' ++ (q27' ++ (q28' ++ (q29' ++ (q30' ++ (q31' ++ (q32' ++ (q33')))))))))))))))))))))))))))))))⟩ 0), ⟨[]⟩⟩)]
noncomputable def S_g6 (w : World) (os : OsState) : SharedT := ⟨t_g6 w.params, 65, {}, ⟨[]⟩, {}, 1841, os⟩
theorem g6 : ∀ w : World, (fun os => runT 73 w (S_g5 w os) (piecesOf ((behindTheImports tP).drop 15 |>.take 2) envT codeT ⟨18, 9, 18, 110⟩ fB)) = fun os => some (.next, S_g6 w os, codeT, ⟨22, 0, 22, 23⟩) := fun w => by kernel_rfl
noncomputable abbrev th7 : Thread := piecesOf ((behindTheImports tP).drop 17 |>.take 1) envT codeT ⟨22, 0, 22, 23⟩ fB
noncomputable def t_l7x0 (P : Params) : BT := insAll (t_g6 P) [(3, ⟨dI, none, (.dict ⟨q34' P ++ (q35' P ++ ([⟨kH P z1', (.str z1' 1327), (.str z4' 1326)⟩, ⟨kH P z2', (.str z2' 1329), (.str z5' 1328)⟩, ⟨kH P z3', (.str z3' 1331), (.str z0' 1330)⟩, ⟨kH P z6', (.str z6' 1333), (.str z8' 1332)⟩, ⟨kH P z9', (.str z9' 1344), (.int 10 1845)⟩, ⟨kH P ⟨⟨[113,117,111,116,101]⟩⟩, (.str ⟨⟨[113,117,111,116,101]⟩⟩ 1839), (.ref 62)⟩, ⟨kH P ⟨⟨[95,81,85,79,80,82,73,95,66,79,68,89,95,69,78,67,79,68,69,95,77,65,80]⟩⟩, (.str ⟨⟨[95,81,85,79,80,82,73,95,66,79,68,89,95,69,78,67,79,68,69,95,77,65,80]⟩⟩ 1840), (.ref 64)⟩]))⟩ 23), ⟨[]⟩⟩),
  (64, ⟨lI, none, (.seq ⟨q2' ++ ([(.str ⟨⟨[61,48,56]⟩⟩ 334), (.str ⟨⟨[9]⟩⟩ 1832), (.str ⟨⟨[10]⟩⟩ 1847), (.str ⟨⟨[61,48,66]⟩⟩ 346), (.str ⟨⟨[61,48,67]⟩⟩ 350), (.str ⟨⟨[13]⟩⟩ 1844), (.str ⟨⟨[61,48,69]⟩⟩ 358), (.str ⟨⟨[61,48,70]⟩⟩ 362)] ++ (q4' ++ (q5' ++ (q48' ++ (q49' ++ (q50' ++ (q51' ++ (q52' ++ (q53' ++ (q54' ++ (q55' ++ (q56' ++ (q57' ++ (q59' ++ (q60' ++ (q18' ++ (q19' ++ (q20' ++ (q21' ++ (q22' ++ (q23' ++ (q24' ++ (q25' ++ (q26' ++ (q27' ++ (q28' ++ (q29' ++ (q30' ++ (q31' ++ (q32' ++ (q33')))))))))))))))))))))))))))))))⟩ 0), ⟨[]⟩⟩),
  (65, ⟨(.type "bytes_iterator"), none, (.fields ⟨[(.bytes ⟨[13,10]⟩ 1841), (.int 2 0)]⟩), ⟨[]⟩⟩)]
noncomputable def S_l7x0 (w : World) (os : OsState) : SharedT := ⟨t_l7x0 w.params, 66, {}, ⟨[]⟩, {}, 1848, os⟩
noncomputable def thr7 (w : World) (os : OsState) : Thread := thrOf (goT 99 (V false w) (S_g6 w os) th7)
theorem p7_false : ∀ w : World, (fun os => goT 99 (V false w) (S_g6 (V false w) os) th7) = fun os => some (S_l7x0 (V false w) os, thr7 (V false w) os) := fun w => by kernel_rfl
theorem p7_true : ∀ w : World, (fun os => goT 99 (V true w) (S_g6 (V true w) os) th7) = fun os => some (S_l7x0 (V true w) os, thr7 (V true w) os) := fun w => by kernel_rfl
noncomputable def t_g7 (P : Params) : BT := insAll (t_l7x0 P) [(65, ⟨(.type "bytes_iterator"), none, (.fields ⟨[.none, (.int 2 0)]⟩), ⟨[]⟩⟩),
  (66, ⟨tU, none, (.seq ⟨[]⟩ 0), ⟨[]⟩⟩),
  (67, ⟨(.type "StopIteration"), none, (.fields ⟨[(.ref 66), .none, .none, .none, (.bool false), .none]⟩), ⟨[]⟩⟩)]
noncomputable def S_g7 (w : World) (os : OsState) : SharedT := ⟨t_g7 w.params, 68, {}, ⟨[]⟩, {}, 1848, os⟩
theorem l7x0 : ∀ w : World, (fun os => runT 19 w (S_l7x0 w os) (thr7 w os)) = fun os => some (.next, S_g7 w os, codeT, ⟨23, 9, 23, 16⟩) := fun w => by kernel_rfl
noncomputable def t_g8 (P : Params) : BT := insAll (t_g7 P) [(3, ⟨dI, none, (.dict ⟨[⟨kH P z13', (.str z13' 165), (.str ⟨⟨[108,97,119,95,119,111,48,48,50,52,95,48,51]⟩⟩ 1893)⟩, ⟨kH P z12', (.str z12' 166), .none⟩, ⟨kH P z10', (.str z10' 167), .none⟩, ⟨kH P z11', (.str z11' 168), (.builtin "__main__.__loader__#opaque")⟩, ⟨kH P z14', (.str z14' 169), .none⟩, ⟨kH P ⟨⟨[95,95,97,110,110,111,116,97,116,105,111,110,115,95,95]⟩⟩, (.str ⟨⟨[95,95,97,110,110,111,116,97,116,105,111,110,115,95,95]⟩⟩ 170), (.ref 6)⟩, ⟨kH P ⟨⟨[95,95,98,117,105,108,116,105,110,115,95,95]⟩⟩, (.str ⟨⟨[95,95,98,117,105,108,116,105,110,115,95,95]⟩⟩ 171), (.ref 4)⟩, ⟨kH P ⟨⟨[95,95,102,105,108,101,95,95]⟩⟩, (.str ⟨⟨[95,95,102,105,108,101,95,95]⟩⟩ 173), (.str z7' 172)⟩] ++ (q35' P ++ ([⟨kH P z1', (.str z1' 1327), (.str z4' 1326)⟩, ⟨kH P z2', (.str z2' 1329), (.str z5' 1328)⟩, ⟨kH P z3', (.str z3' 1331), (.str z0' 1330)⟩, ⟨kH P z6', (.str z6' 1333), (.str z8' 1332)⟩, ⟨kH P ⟨⟨[113,117,111,116,101]⟩⟩, (.str ⟨⟨[113,117,111,116,101]⟩⟩ 1839), (.ref 62)⟩, ⟨kH P ⟨⟨[95,81,85,79,80,82,73,95,66,79,68,89,95,69,78,67,79,68,69,95,77,65,80]⟩⟩, (.str ⟨⟨[95,81,85,79,80,82,73,95,66,79,68,89,95,69,78,67,79,68,69,95,77,65,80]⟩⟩ 1840), (.ref 64)⟩, ⟨kH P ⟨⟨[98,111,100,121,95,101,110,99,111,100,101]⟩⟩, (.str ⟨⟨[98,111,100,121,95,101,110,99,111,100,101]⟩⟩ 1867), (.ref 75)⟩, ⟨kH P ⟨⟨[95,116,119,105,110,95,114,101,95,49]⟩⟩, (.str ⟨⟨[95,116,119,105,110,95,114,101,95,49]⟩⟩ 1885), (.ref 80)⟩, ⟨kH P ⟨⟨[95,113,117,111,116,101,95,112,101,114,105,111,100,115]⟩⟩, (.str ⟨⟨[95,113,117,111,116,101,95,112,101,114,105,111,100,115]⟩⟩ 1892), (.ref 87)⟩, ⟨kH P ⟨⟨[95,108,97,119,95,100,101,97,108,116]⟩⟩, (.str ⟨⟨[95,108,97,119,95,100,101,97,108,116]⟩⟩ 1900), (.ref 92)⟩, ⟨kH P ⟨⟨[108,97,119]⟩⟩, (.str ⟨⟨[108,97,119]⟩⟩ 1906), (.ref 97)⟩]))⟩ 29), ⟨[]⟩⟩),
  (29, ⟨.none, none, (.fields ⟨[(.int 3 0), (.int 0 0), (.ref 38), (.int 20 0), (.int 0 0), (.ref 61), (.int 26 0), (.int 0 0), (.ref 74), (.int 66 0), (.int 0 0), (.ref 86), (.int 69 0), (.int 0 0), (.ref 91), (.int 84 0), (.int 0 0), (.ref 96)]⟩), ⟨[]⟩⟩),
  (68, ⟨tU, none, (.seq ⟨[(.int 76 1848), (.str ⟨⟨[10]⟩⟩ 294)]⟩ 0), ⟨[]⟩⟩),
  (69, ⟨tU, none, (.seq ⟨[]⟩ 0), ⟨[]⟩⟩),
  (70, ⟨.none, none, (.fields ⟨[]⟩), ⟨[]⟩⟩),
  (71, ⟨tU, none, (.seq ⟨[(.str ⟨⟨[98,111,100,121]⟩⟩ 1852), (.str ⟨⟨[109,97,120,108,105,110,101,108,101,110]⟩⟩ 1853), (.str ⟨⟨[101,111,108]⟩⟩ 1854), (.str ⟨⟨[115,111,102,116,95,98,114,101,97,107]⟩⟩ 1855), (.str ⟨⟨[109,97,120,108,105,110,101,108,101,110,49]⟩⟩ 1856), (.str ⟨⟨[101,110,99,111,100,101,100,95,98,111,100,121]⟩⟩ 1857), (.str ⟨⟨[97,112,112,101,110,100]⟩⟩ 1858), (.str ⟨⟨[108,105,110,101]⟩⟩ 1859), (.str ⟨⟨[115,116,97,114,116]⟩⟩ 1860), (.str ⟨⟨[108,97,115,116,115,116,97,114,116]⟩⟩ 1861), (.str ⟨⟨[115,116,111,112]⟩⟩ 1862), (.str ⟨⟨[114,111,111,109]⟩⟩ 1863), (.str ⟨⟨[113]⟩⟩ 1864)]⟩ 0), ⟨[]⟩⟩),
  (72, ⟨tU, none, (.seq ⟨[]⟩ 0), ⟨[]⟩⟩),
  (73, ⟨.none, none, (.func { name := ⟨⟨[98,111,100,121,95,101,110,99,111,100,101]⟩⟩, qualname := ⟨⟨[98,111,100,121,95,101,110,99,111,100,101]⟩⟩, params := fnA 20, body := .stmts (fnB 20), scope := fnS 20, globals := 0, closure := [], defaults := .none, kwdefaults := .none, doc := .none, pyModule := .none, annotations := none, code := .none, closureTuple := .none, builtins := 0 }), ⟨[]⟩⟩),
  (74, ⟨(.type "code"), none, (.fields ⟨[(.str ⟨⟨[98,111,100,121,95,101,110,99,111,100,101]⟩⟩ 1849), (.str ⟨⟨[98,111,100,121,95,101,110,99,111,100,101]⟩⟩ 1850), (.str z7' 1851), (.int 26 0), (.int 3 0), (.int 0 0), (.int 0 0), (.int 3 0), (.ref 69), (.bool true), (.int 276 0), (.ref 70), .none, (.ref 71), (.ref 72), (.ref 73), (.int 1865 0), (.int 26 0), (.str z7' 1866)]⟩), ⟨[]⟩⟩),
  (75, ⟨(.type "function"), none, (.func { name := ⟨⟨[98,111,100,121,95,101,110,99,111,100,101]⟩⟩, qualname := ⟨⟨[98,111,100,121,95,101,110,99,111,100,101]⟩⟩, params := fnA 20, body := .stmts (fnB 20), scope := fnS 20, globals := 3, closure := [], defaults := (.ref 68), kwdefaults := .none, doc := .none, pyModule := (.str ⟨⟨[99,112,121,51,49,51,46,101,109,97,105,108,46,113,117,111,112,114,105,109,105,109,101]⟩⟩ 1334), annotations := none, code := (.ref 74), closureTuple := .none, builtins := 0 }), ⟨[]⟩⟩),
  (76, ⟨lI, none, (.seq ⟨[(.int 14 1873), (.int 4 1874), (.int 0 1875), (.int 1 1876), (.int 1 1877), (.int 6 1878), (.int 1 1879), (.int 16 1880), (.int 46 1881), (.int 1 1882)]⟩ 0), ⟨[]⟩⟩),
  (77, ⟨dI, none, (.dict ⟨[]⟩ 0), ⟨[]⟩⟩),
  (78, ⟨tU, none, (.seq ⟨[.none]⟩ 0), ⟨[]⟩⟩),
  (79, ⟨tU, none, (.seq ⟨[(.int 14 0), (.int 4 0), (.int 0 0), (.int 1 0), (.int 1 0), (.int 6 0), (.int 1 0), (.int 16 0), (.int 46 0), (.int 1 0)]⟩ 0), ⟨[]⟩⟩),
  (80, ⟨(.type "re.Pattern"), none, (.fields ⟨[(.bytes ⟨[40,63,109,41,94,92,46]⟩ 1871), (.int 8 1884), (.int 0 0), .none, .none, (.ref 79), (.int 1 0)]⟩), ⟨[]⟩⟩),
  (81, ⟨tU, none, (.seq ⟨[]⟩ 0), ⟨[]⟩⟩),
  (82, ⟨.none, none, (.fields ⟨[]⟩), ⟨[]⟩⟩),
  (83, ⟨tU, none, (.seq ⟨[(.str ⟨⟨[98,105,110,100,97,116,97]⟩⟩ 1889)]⟩ 0), ⟨[]⟩⟩),
  (84, ⟨tU, none, (.seq ⟨[]⟩ 0), ⟨[]⟩⟩),
  (85, ⟨.none, none, (.func { name := ⟨⟨[95,113,117,111,116,101,95,112,101,114,105,111,100,115]⟩⟩, qualname := ⟨⟨[95,113,117,111,116,101,95,112,101,114,105,111,100,115]⟩⟩, params := fnA 23, body := .stmts (fnB 23), scope := fnS 23, globals := 0, closure := [], defaults := .none, kwdefaults := .none, doc := .none, pyModule := .none, annotations := none, code := .none, closureTuple := .none, builtins := 0 }), ⟨[]⟩⟩),
  (86, ⟨(.type "code"), none, (.fields ⟨[(.str ⟨⟨[95,113,117,111,116,101,95,112,101,114,105,111,100,115]⟩⟩ 1886), (.str ⟨⟨[95,113,117,111,116,101,95,112,101,114,105,111,100,115]⟩⟩ 1887), (.str z7' 1888), (.int 66 0), (.int 1 0), (.int 0 0), (.int 0 0), (.int 3 0), (.ref 81), (.bool true), (.int 276 0), (.ref 82), .none, (.ref 83), (.ref 84), (.ref 85), (.int 1890 0), (.int 66 0), (.str z7' 1891)]⟩), ⟨[]⟩⟩),
  (87, ⟨(.type "function"), none, (.func { name := ⟨⟨[95,113,117,111,116,101,95,112,101,114,105,111,100,115]⟩⟩, qualname := ⟨⟨[95,113,117,111,116,101,95,112,101,114,105,111,100,115]⟩⟩, params := fnA 23, body := .stmts (fnB 23), scope := fnS 23, globals := 3, closure := [], defaults := .none, kwdefaults := .none, doc := .none, pyModule := (.str ⟨⟨[99,112,121,51,49,51,46,115,109,116,112,108,105,98]⟩⟩ 1868), annotations := none, code := (.ref 86), closureTuple := .none, builtins := 0 }), ⟨[]⟩⟩),
  (88, ⟨tU, none, (.seq ⟨[]⟩ 0), ⟨[]⟩⟩),
  (89, ⟨.none, none, (.fields ⟨[]⟩), ⟨[]⟩⟩),
  (90, ⟨.none, none, (.func { name := ⟨⟨[95,108,97,119,95,100,101,97,108,116]⟩⟩, qualname := ⟨⟨[95,108,97,119,95,100,101,97,108,116]⟩⟩, params := fnA 25, body := .stmts (fnB 25), scope := fnS 25, globals := 0, closure := [], defaults := .none, kwdefaults := .none, doc := .none, pyModule := .none, annotations := none, code := .none, closureTuple := .none, builtins := 0 }), ⟨[]⟩⟩),
  (91, ⟨(.type "code"), none, (.fields ⟨[(.str ⟨⟨[95,108,97,119,95,100,101,97,108,116]⟩⟩ 1895), (.str ⟨⟨[95,108,97,119,95,100,101,97,108,116]⟩⟩ 1896), (.str z7' 1897), (.int 69 0), (.int 5 0), (.int 0 0), (.int 0 0), (.int 3 0), (.ref 88), (.bool true), (.int 276 0), (.ref 89), .none, .none, .none, (.ref 90), (.int 1898 0), (.int 69 0), (.str z7' 1899)]⟩), ⟨[]⟩⟩),
  (92, ⟨(.type "function"), none, (.func { name := ⟨⟨[95,108,97,119,95,100,101,97,108,116]⟩⟩, qualname := ⟨⟨[95,108,97,119,95,100,101,97,108,116]⟩⟩, params := fnA 25, body := .stmts (fnB 25), scope := fnS 25, globals := 3, closure := [], defaults := .none, kwdefaults := .none, doc := .none, pyModule := (.str ⟨⟨[108,97,119,95,119,111,48,48,50,52,95,48,51]⟩⟩ 1893), annotations := none, code := (.ref 91), closureTuple := .none, builtins := 0 }), ⟨[]⟩⟩),
  (93, ⟨tU, none, (.seq ⟨[]⟩ 0), ⟨[]⟩⟩),
  (94, ⟨.none, none, (.fields ⟨[]⟩), ⟨[]⟩⟩),
  (95, ⟨.none, none, (.func { name := ⟨⟨[108,97,119]⟩⟩, qualname := ⟨⟨[108,97,119]⟩⟩, params := fnA 26, body := .stmts (fnB 26), scope := fnS 26, globals := 0, closure := [], defaults := .none, kwdefaults := .none, doc := .none, pyModule := .none, annotations := none, code := .none, closureTuple := .none, builtins := 0 }), ⟨[]⟩⟩),
  (96, ⟨(.type "code"), none, (.fields ⟨[(.str ⟨⟨[108,97,119]⟩⟩ 1901), (.str ⟨⟨[108,97,119]⟩⟩ 1902), (.str z7' 1903), (.int 84 0), (.int 1 0), (.int 0 0), (.int 0 0), (.int 3 0), (.ref 93), (.bool true), (.int 276 0), (.ref 94), .none, .none, .none, (.ref 95), (.int 1904 0), (.int 84 0), (.str z7' 1905)]⟩), ⟨[]⟩⟩),
  (97, ⟨(.type "function"), none, (.func { name := ⟨⟨[108,97,119]⟩⟩, qualname := ⟨⟨[108,97,119]⟩⟩, params := fnA 26, body := .stmts (fnB 26), scope := fnS 26, globals := 3, closure := [], defaults := .none, kwdefaults := .none, doc := .none, pyModule := (.str ⟨⟨[108,97,119,95,119,111,48,48,50,52,95,48,51]⟩⟩ 1893), annotations := none, code := (.ref 96), closureTuple := .none, builtins := 0 }), ⟨[]⟩⟩)]
noncomputable def S_g8 (w : World) (os : OsState) : SharedT := ⟨t_g8 w.params, 98, {}, ⟨[]⟩, {}, 1907, os⟩
theorem g8 : ∀ w : World, (fun os => runT 274 w (S_g7 w os) (piecesOf ((behindTheImports tP).drop 18 |>.take 8) envT codeT ⟨23, 9, 23, 16⟩ fB)) = fun os => some (.next, S_g8 w os, codeT, ⟨84, 0, 103, 75⟩) := fun w => by kernel_rfl
theorem hfin : ∀ w : World, (fun os => PySem.W.Fast.tw14082659384304107361 tT tP w 28 (some (.ref 6)) 2 (S_g8 w os).abs ⟨doneF .next, codeT, ⟨84, 0, 103, 75⟩, fB⟩) = fun os => some (S_g8 w os).abs := fun w => by kernel_rfl
end Mine
end P43
section P44
set_option Elab.async false
set_option maxRecDepth 100000
set_option maxHeartbeats 0
open PySem PySem.W PyProof.Rows
namespace Mine
theorem eP : PySem.Challenge.pw_wo0024_03 = tP := PySem.W.Fast.te11098687184913729384
theorem eT : treeTable = tT := PySem.W.Fast.te14364793385576792824
noncomputable abbrev sgo (n : Nat) (w : World) (s : Shared) (t : Thread) := segGo treeTable tP w 28 (some (.ref 6)) 1 n s t
noncomputable abbrev srun (n : Nat) (w : World) (s : Shared) (t : Thread) := segRun treeTable tP w 28 (some (.ref 6)) 1 n s t
noncomputable abbrev trun (n : Nat) (w : World) (s : Shared) (t : Thread) := topRun treeTable tP w 28 (some (.ref 6)) n s t
theorem goP {n : Nat} {w : World} {S S' : SharedT} {t t' : Thread} (h : goT n w S t = some (S', t')) : sgo n w S.abs t = some (S'.abs, t') := segGo_of (by rw [PySem.W.Fast.te10295753902157049106, eT]; exact h)
theorem runP {n : Nat} {w : World} {S S' : SharedT} {t : Thread} {f : Flow} {c : Code} {q : Pos} (h : runT n w S t = some (f, S', c, q)) : srun n w S.abs t = some (f, S'.abs, c, q) := segRun_of (by rw [PySem.W.Fast.te10110043849684766642, eT]; exact h)
theorem segRun_mono {tb : String → Option Builtin} {p : Program} {w : World} {n₀ : Nat} {ann : Option Value} {b : Nat} (k : Nat) : ∀ (n : Nat) (s : Shared) (t : Thread) (r : Flow × Shared × Code × Pos), segRun tb p w n₀ ann b n s t = some r → segRun tb p w n₀ ann b (n + k) s t = some r
  | 0, _, _, _, h => by simp [segRun] at h
  | n + 1, s, t, r, h => by
    rw [show n + 1 + k = n + k + 1 by lia  ]
    unfold segRun at h ⊢
    cases ht : endAt b t with
    | some l => rw [ht] at h; exact h
    | none =>
      rw [ht] at h
      cases hk : stepOk n₀ ann t with
      | false => rw [hk] at h; cases h
      | true =>
        rw [hk] at h
        cases hs : step (denote tb) p w s t with
        | halt o s' => rw [hs] at h; cases h
        | go s' t' => rw [hs] at h; exact segRun_mono k n s' t' r h
theorem run_of {n k N : Nat} {w : World} {s : Shared} {t : Thread} {r : Flow × Shared × Code × Pos} (h : srun n w s t = some r) (e : n + k = N) : srun N w s t = some r := e ▸ segRun_mono k n _ _ _ h
theorem pc {i m n N : Nat} {w : World} {s s' r : Shared} {pos p' : Pos} (h : srun n w s (piecesOf ((behindTheImports tP).drop i |>.take m) envT codeT pos fB) = some (.next, s', codeT, p'))
    (k : trun N w s' (restOf ((behindTheImports tP).drop (i + m)) envT codeT p' fB) = some r) : trun (n + N) w s (restOf ((behindTheImports tP).drop i) envT codeT pos fB) = some r := by
  have := piece_app h k
  rwa [← List.drop_drop, List.take_append_drop] at this
theorem c0 (w : World) (os : OsState) : srun 91 w (S_a w os).abs (piecesOf ((behindTheImports tP).drop 0 |>.take 4) envT codeT ⟨0, 0, 0, 0⟩ fB) = some (.next, (S_g0 w os).abs, codeT, ⟨6, 0, 6, 2⟩) := runP (congrFun (g0 w) os)
theorem tl1 (w : World) (os : OsState) : srun (555+(555+(555+(555+(555+(555+(555+(555+(555+(555+(555+(555+(555+(555+(555+(555+(584))))))))))))))))) w (S_l1x0 w os).abs (thr1 w os) = some (.next, (S_g1 w os).abs, codeT, ⟨7, 0, 7, 11⟩) := seg_go (goP (congrFun (l1x0 w) os)) (seg_go (goP (congrFun (l1x1 w) os)) (seg_go (goP (congrFun (l1x2 w) os)) (seg_go (goP (congrFun (l1x3 w) os)) (seg_go (goP (congrFun (l1x4 w) os)) (seg_go (goP (congrFun (l1x5 w) os)) (seg_go (goP (congrFun (l1x6 w) os)) (seg_go (goP (congrFun (l1x7 w) os)) (seg_go (goP (congrFun (l1x8 w) os)) (seg_go (goP (congrFun (l1x9 w) os)) (seg_go (goP (congrFun (l1x10 w) os)) (seg_go (goP (congrFun (l1x11 w) os)) (seg_go (goP (congrFun (l1x12 w) os)) (seg_go (goP (congrFun (l1x13 w) os)) (seg_go (goP (congrFun (l1x14 w) os)) (seg_go (goP (congrFun (l1x15 w) os)) (runP (congrFun (l1x16 w) os)))))))))))))))))
noncomputable def P1 (w : World) : Prop := ∀ os, srun 9552 w (S_g0 w os).abs th1 = some (.next, (S_g1 w os).abs, codeT, ⟨7, 0, 7, 11⟩)
theorem q1_false_false (w : World) : P1 (V2 false false w) := fun os => run_of (k := 0) (seg_go (goP (congrFun (p1_false_false w) os)) (tl1 (V2 false false w) os)) (by lia  )
theorem q1_false_true (w : World) : P1 (V2 false true w) := fun os => run_of (k := 10) (seg_go (goP (congrFun (p1_false_true w) os)) (tl1 (V2 false true w) os)) (by lia  )
theorem q1_true_false (w : World) : P1 (V2 true false w) := fun os => run_of (k := 0) (seg_go (goP (congrFun (p1_true_false w) os)) (tl1 (V2 true false w) os)) (by lia  )
theorem q1_true_true (w : World) : P1 (V2 true true w) := fun os => run_of (k := 10) (seg_go (goP (congrFun (p1_true_true w) os)) (tl1 (V2 true true w) os)) (by lia  )
theorem c1 (w : World) (os : OsState) : srun 9552 w (S_g0 w os).abs th1 = some (.next, (S_g1 w os).abs, codeT, ⟨7, 0, 7, 11⟩) := byRow2 "comprehension-iter-twice" (P := P1) (fun w => byRow2 "special-get-raises" (P := fun w => P1 (w.withFollow "comprehension-iter-twice" false)) q1_false_false q1_true_false w) (fun w => byRow2 "special-get-raises" (P := fun w => P1 (w.withFollow "comprehension-iter-twice" true)) q1_false_true q1_true_true w) w os
theorem c2 (w : World) (os : OsState) : srun 165 w (S_g1 w os).abs (piecesOf ((behindTheImports tP).drop 5 |>.take 7) envT codeT ⟨7, 0, 7, 11⟩ fB) = some (.next, (S_g2 w os).abs, codeT, ⟨14, 0, 14, 8⟩) := runP (congrFun (g2 w) os)
theorem tl3 (w : World) (os : OsState) : srun (540+(540+(540+(540+(540+(244)))))) w (S_l3x0 w os).abs (thr3 w os) = some (.next, (S_g3 w os).abs, codeT, ⟨15, 9, 15, 74⟩) := seg_go (goP (congrFun (l3x0 w) os)) (seg_go (goP (congrFun (l3x1 w) os)) (seg_go (goP (congrFun (l3x2 w) os)) (seg_go (goP (congrFun (l3x3 w) os)) (seg_go (goP (congrFun (l3x4 w) os)) (runP (congrFun (l3x5 w) os))))))
noncomputable def P3 (w : World) : Prop := ∀ os, srun 3077 w (S_g2 w os).abs th3 = some (.next, (S_g3 w os).abs, codeT, ⟨15, 9, 15, 74⟩)
theorem q3_false (w : World) : P3 (V false w) := fun os => run_of (k := 0) (seg_go (goP (congrFun (p3_false w) os)) (tl3 (V false w) os)) (by lia  )
theorem q3_true (w : World) : P3 (V true w) := fun os => run_of (k := 0) (seg_go (goP (congrFun (p3_true w) os)) (tl3 (V true w) os)) (by lia  )
theorem c3 (w : World) (os : OsState) : srun 3077 w (S_g2 w os).abs th3 = some (.next, (S_g3 w os).abs, codeT, ⟨15, 9, 15, 74⟩) := byRow2 "special-get-raises" (P := P3) q3_false q3_true w os
theorem c4 (w : World) (os : OsState) : srun 33 w (S_g3 w os).abs (piecesOf ((behindTheImports tP).drop 13 |>.take 1) envT codeT ⟨15, 9, 15, 74⟩ fB) = some (.next, (S_g4 w os).abs, codeT, ⟨17, 0, 17, 28⟩) := runP (congrFun (g4 w) os)
theorem tl5 (w : World) (os : OsState) : srun (540+(540+(540+(540+(540+(540+(540+(424)))))))) w (S_l5x0 w os).abs (thr5 w os) = some (.next, (S_g5 w os).abs, codeT, ⟨18, 9, 18, 110⟩) := seg_go (goP (congrFun (l5x0 w) os)) (seg_go (goP (congrFun (l5x1 w) os)) (seg_go (goP (congrFun (l5x2 w) os)) (seg_go (goP (congrFun (l5x3 w) os)) (seg_go (goP (congrFun (l5x4 w) os)) (seg_go (goP (congrFun (l5x5 w) os)) (seg_go (goP (congrFun (l5x6 w) os)) (runP (congrFun (l5x7 w) os))))))))
noncomputable def P5 (w : World) : Prop := ∀ os, srun 4303 w (S_g4 w os).abs th5 = some (.next, (S_g5 w os).abs, codeT, ⟨18, 9, 18, 110⟩)
theorem q5_false (w : World) : P5 (V false w) := fun os => run_of (k := 0) (seg_go (goP (congrFun (p5_false w) os)) (tl5 (V false w) os)) (by lia  )
theorem q5_true (w : World) : P5 (V true w) := fun os => run_of (k := 0) (seg_go (goP (congrFun (p5_true w) os)) (tl5 (V true w) os)) (by lia  )
theorem c5 (w : World) (os : OsState) : srun 4303 w (S_g4 w os).abs th5 = some (.next, (S_g5 w os).abs, codeT, ⟨18, 9, 18, 110⟩) := byRow2 "special-get-raises" (P := P5) q5_false q5_true w os
theorem c6 (w : World) (os : OsState) : srun 73 w (S_g5 w os).abs (piecesOf ((behindTheImports tP).drop 15 |>.take 2) envT codeT ⟨18, 9, 18, 110⟩ fB) = some (.next, (S_g6 w os).abs, codeT, ⟨22, 0, 22, 23⟩) := runP (congrFun (g6 w) os)
theorem tl7 (w : World) (os : OsState) : srun (19) w (S_l7x0 w os).abs (thr7 w os) = some (.next, (S_g7 w os).abs, codeT, ⟨23, 9, 23, 16⟩) := runP (congrFun (l7x0 w) os)
noncomputable def P7 (w : World) : Prop := ∀ os, srun 118 w (S_g6 w os).abs th7 = some (.next, (S_g7 w os).abs, codeT, ⟨23, 9, 23, 16⟩)
theorem q7_false (w : World) : P7 (V false w) := fun os => run_of (k := 0) (seg_go (goP (congrFun (p7_false w) os)) (tl7 (V false w) os)) (by lia  )
theorem q7_true (w : World) : P7 (V true w) := fun os => run_of (k := 0) (seg_go (goP (congrFun (p7_true w) os)) (tl7 (V true w) os)) (by lia  )
theorem c7 (w : World) (os : OsState) : srun 118 w (S_g6 w os).abs th7 = some (.next, (S_g7 w os).abs, codeT, ⟨23, 9, 23, 16⟩) := byRow2 "special-get-raises" (P := P7) q7_false q7_true w os
theorem c8 (w : World) (os : OsState) : srun 274 w (S_g7 w os).abs (piecesOf ((behindTheImports tP).drop 18 |>.take 8) envT codeT ⟨23, 9, 23, 16⟩ fB) = some (.next, (S_g8 w os).abs, codeT, ⟨84, 0, 103, 75⟩) := runP (congrFun (g8 w) os)
theorem dropAll : (behindTheImports tP).drop 26 = [] := by kernel_rfl
theorem hF (w : World) (os : OsState) : trun 2 w (S_g8 w os).abs (restOf ((behindTheImports tP).drop 26) envT codeT ⟨84, 0, 103, 75⟩ fB) = some (S_g8 w os).abs := by rw [dropAll]; refine piece_nil ?_; rw [PySem.W.Fast.te14082659384304107361, eT]; exact congrFun (hfin w) os
theorem hAll (w : World) (os : OsState) : trun (91 + (9552 + (165 + (3077 + (33 + (4303 + (73 + (118 + (274 + 2))))))))) w (S_a w os).abs (restOf ((behindTheImports tP).drop 0) envT codeT ⟨0, 0, 0, 0⟩ fB) = some (S_g8 w os).abs := pc (i := 0) (m := 4) (c0 w os) (pc (i := 4) (m := 1) (c1 w os) (pc (i := 5) (m := 7) (c2 w os) (pc (i := 12) (m := 1) (c3 w os) (pc (i := 13) (m := 1) (c4 w os) (pc (i := 14) (m := 1) (c5 w os) (pc (i := 15) (m := 2) (c6 w os) (pc (i := 17) (m := 1) (c7 w os) (pc (i := 18) (m := 8) (c8 w os) (hF w os)))))))))
theorem hTop (w : World) (os : OsState) : trun (12 + (1 + (91 + (9552 + (165 + (3077 + (33 + (4303 + (73 + (118 + (274 + 2))))))))))) w (S_0 w os).abs (topStub tP) = some (S_g8 w os).abs := go_top (by rw [PySem.W.Fast.te15667345088766844465, eT]; exact congrFun (hpre w) os) (by rw [← PySem.W.Fast.te11892475500146522536, ← eT]; exact piece_block (runP (congrFun (hblock w) os)) (hAll w os))
noncomputable abbrev osS : OsState := (start (opening tP)).1.os
theorem hImp (w : World) : importEnds treeTable (opening tP) w (798 + 1) (start (opening tP)).1 (start (opening tP)).2 = some (S_e w osS).abs := by
  rw [congrFun (o0 w) osS]
  exact imp_go (impGo_of (by rw [PySem.W.Fast.te14789777615569096658, eT]; exact congrFun (o1 w) osS)) (by rw [PySem.W.Fast.te10274390034422433532, eT]; exact congrFun (o2 w) osS)
noncomputable def hpE (P : Params) : Heap := absHeap (t_e P) 28 {}
noncomputable def hp0 (P : Params) : Heap := absHeap (t_0 P) 28 {}
noncomputable def hp1 (P : Params) : Heap := absHeap (t_g8 P) 98 {}
theorem absE (w : World) (os : OsState) : (S_e w os).abs = ⟨hpE w.params, ⟨[]⟩, {}, 276, os⟩ := by kernel_rfl
theorem abs0 (w : World) (os : OsState) : (S_0 w os).abs = ⟨hp0 w.params, ⟨[]⟩, {}, 276, os⟩ := by kernel_rfl
theorem abs1 (w : World) (os : OsState) : (S_g8 w os).abs = ⟨hp1 w.params, ⟨[]⟩, {}, 1907, os⟩ := by kernel_rfl
theorem hImp' (w : World) : importEnds treeTable (opening tP) w (798 + 1) (start (opening tP)).1 (start (opening tP)).2 = some ⟨hpE w.params, ⟨[]⟩, {}, 276, (start (opening tP)).1.os⟩ := by
  rw [hImp, absE]
theorem hFence (w : World) : (fun os => (fenceModules? tP ⟨hpE w.params, ⟨[]⟩, {}, 276, os⟩).map (fun s => (s.heap, s.gens, s.drawn, s.toks))) = fun _ => some (hp0 w.params, ⟨[]⟩, {}, 276) := by
  funext os
  have h := congrFun («of» w) os
  have h : (PySem.W.Fast.tw14289696077712309145 tP (S_e w os).abs).map (fun s => (s.heap, s.gens, s.drawn, s.toks)) = some ((S_0 w os).abs.heap, ⟨[]⟩, {}, 276) := h
  rw [absE, abs0] at h
  rw [PySem.W.Fast.te14289696077712309145]
  exact h
theorem hOpen (N : Nat) (le : Nat.ble (798 + 1) N = true) : ∀ w : World, (fencedOpening treeTable tP w N).map (fun s => (s.heap, s.gens, s.drawn, s.toks)) = some (hp0 w.params, ⟨[]⟩, {}, 276) :=
  open_cut (p := tP) (N := N) (M := 798 + 1) (He := hpE) (H₀ := hp0) (ge := ⟨[]⟩) (g₀ := ⟨[]⟩) (de := {}) (d₀ := {}) (ke := 276) (k₀ := 276) hImp' le hFence
theorem hSize (w : World) : ((hp0 w.params).isNs mainGlobals && (Array.mk [] : Array GenState).size == 0, (hp0 w.params).objs.size, (hp0 w.params).nsMap mainGlobals "__annotations__") = (true, 28, (some (.ref 6))) := by
  have h : ((S_0 w default).abs.heap.isNs mainGlobals && (Array.mk [] : Array GenState).size == 0, (S_0 w default).abs.heap.objs.size, (S_0 w default).abs.heap.nsMap mainGlobals "__annotations__") = (true, 28, (some (.ref 6))) := congrFun (osz w) default
  rw [abs0] at h
  exact h
noncomputable abbrev nTop : Nat := 12 + (1 + (91 + (9552 + (165 + (3077 + (33 + (4303 + (73 + (118 + (274 + 2))))))))))
theorem hRun (w : World) (os : OsState) : topRun treeTable tP w 28 (some (.ref 6)) nTop ⟨hp0 w.params, ⟨[]⟩, {}, 276, os⟩ (topStub tP) = some ⟨hp1 w.params, ⟨[]⟩, {}, 1907, os⟩ := by
  have h := hTop w os
  rw [abs0, abs1] at h
  exact h
theorem hLeft {q : Program} {loose : List Str} {Xt : Shared → Bool} {α : Type} {Yf : Shared → α} {Ya : World → α} {g0 : Bool} (N : Nat) (le1 : Nat.ble (798 + 1) N = true) (le2 : Nat.ble nTop N = true)
    (looks : ∀ w : World, (fun os => ((staticsOk (importedModules tP.main.body) (hp0 w.params) (hp1 w.params) && namesBound tP (hp1 w.params) && gensDone ⟨hp1 w.params, ⟨[]⟩, {}, 1907, os⟩ && laidKept (hp0 w.params) (hp1 w.params)),
        openSeen q loose (importedModules tP.main.body) Xt g0 ⟨hp1 w.params, ⟨[]⟩, {}, 1907, os⟩, Yf ⟨hp1 w.params, ⟨[]⟩, {}, 1907, os⟩)) = fun _ => (true, openGood q loose, Ya w)) : LeftO tP q loose Xt Yf Ya N g0 :=
  LeftO.of_pieces (p := tP) (H₀ := hp0) (H₁ := hp1) (gs₀ := ⟨[]⟩) (gs₁ := ⟨[]⟩) (d₀ := {}) (d₁ := {}) (k₀ := 276) (k₁ := 1907) (m₀ := 28) (ann := (some (.ref 6))) (M := nTop) (hOpen N le1) hSize hRun le2 looks
end Mine
end P44
section P45
open PySem PySem.W PySem.W.X PyProof.Rows
set_option Elab.async false
set_option maxRecDepth 100000
set_option maxHeartbeats 0
namespace Mine
noncomputable def qV : Program := view tP [0, 3, 4, 5, 6, 7, 8, 9, 10, 11, 16, 17, 22, 23, 25, 26]
noncomputable def looseV : List Str := ["capwords", "_QUOPRI_MAP", "_QUOPRI_HEADER_MAP", "_QUOPRI_BODY_MAP", "ascii_letters", "_QUOPRI_BODY_ENCODE_MAP", "body_encode", "_twin_re_1"]
noncomputable def lvV : List (Str × WData) := [("ascii_letters", .str ⟨⟨[97, 98, 99, 100, 101, 102, 103, 104, 105, 106, 107, 108, 109, 110, 111, 112, 113, 114, 115, 116, 117, 118, 119, 120, 121, 122, 65, 66, 67, 68, 69, 70, 71, 72, 73, 74, 75, 76, 77, 78, 79, 80, 81, 82, 83, 84, 85, 86, 87, 88, 89, 90]⟩⟩)]
noncomputable def XtV (s : Shared) : Bool := xlAt qV lvV s && recOk (RowW.records PySem.Challenge.rw_wo0024_03.row.toRowW) s
theorem lk1 : ∀ w : World, (fun os : OsState => (staticsOk (importedModules tP.main.body) (hp0 w.params) (hp1 w.params) && namesBound tP (hp1 w.params) && gensDone ⟨hp1 w.params, ⟨[]⟩, {}, 1907, os⟩ && laidKept (hp0 w.params) (hp1 w.params))) = fun _ => true := fun w => by kernel_rfl
theorem lk2 : ∀ w : World, (fun os : OsState => openSeen qV looseV (importedModules tP.main.body) XtV true ⟨hp1 w.params, ⟨[]⟩, {}, 1907, os⟩) = fun _ => openGood qV looseV := fun w => by kernel_rfl
set_option maxHeartbeats 100000
theorem lk3 (w : World) (os : OsState) : (fun s : Shared => (s.heap, s.toks)) ⟨hp1 w.params, ⟨[]⟩, {}, 1907, os⟩ = (fun w : World => (hp1 w.params, 1907)) w := by kernel_rfl
theorem left3 : LeftO tP qV looseV XtV (fun s : Shared => (s.heap, s.toks)) (fun w => (hp1 w.params, 1907)) 40000 true := by
  refine hLeft 40000 (by decide +kernel) (by decide +kernel) ?_
  intro w
  funext os
  exact looks_pair (congrFun (lk1 w) os) (looks_pair (congrFun (lk2 w) os) (lk3 w os))
theorem leftP : LeftO PySem.Challenge.pw_wo0024_03 qV looseV XtV (fun s : Shared => (s.heap, s.toks)) (fun w => (hp1 w.params, 1907)) 40000 true := eP ▸ left3
end Mine
end P45
section P46
open PySem PySem.W PySem.W.X PyProof.Rows
set_option Elab.async false
set_option maxRecDepth 100000
set_option maxHeartbeats 400000
namespace Mine
noncomputable def fnQ (i : Nat) : Pos := match tP.main.body[i]? with | some (.FunctionDef _ _ _ _ _ _ _ _ _ p) => p | _ => default
noncomputable def dLaw : DefRec := { name := "law", params := fnA 26, body := fnB 26, scope := fnS 26, pos := fnQ 26 }
theorem hdef : defOf qV "law" = some (dLaw, []) := by kernel_rfl
theorem hpd : PySem.Challenge.pw_wo0024_03.theDef "law" = some (dLaw.params, dLaw.body, dLaw.scope) := by rw [eP]; kernel_rfl
theorem hkw : kwWritten? dLaw.params.kwonlyargs dLaw.params.kw_defaults = some [] := by kernel_rfl
theorem hchain : (chainsOk qV && opensWell PySem.Challenge.pw_wo0024_03 && (frees PySem.Challenge.rw_wo0024_03.row.toRowW && PySem.Challenge.rw_wo0024_03.row.toRowW.within.isEmpty)) = true := by rw [eP]; kernel_rfl
theorem hXt (s : Shared) (e : XtV s = true) : XL qV lvV (s.heap.nsMap mainGlobals) s.heap := xl_of s (Bool.and_eq_true_iff.mp e).1
theorem hRf (s : Shared) (e : XtV s = true) : RecFacts (RowW.records PySem.Challenge.rw_wo0024_03.row.toRowW) s.heap := recFacts_of (Bool.and_eq_true_iff.mp e).2
theorem hbare : (PySem.Challenge.pw_wo0024_03).bare := ⟨rfl, rfl, rfl, rfl, rfl, by decide +kernel⟩
set_option maxHeartbeats 800000
abbrev rL : OpenRow := PySem.Challenge.rw_wo0024_03.row
theorem HE3 (call : WalkX qV looseV (XL qV lvV) (fun s : Shared => (s.heap, s.toks)) (fun w => (hp1 w.params, 1907)) rL.toRowW dLaw [] fun f vs => PySem.call f vs) : PySem.Challenge.rw_wo0024_03.Holds := by
  w_on; o_law
  rename_i said
  have hw : rL.toRowW.promised := by w_witness2
  exact holds_openX (r := rL) leftP hXt XL.keeps hdef hpd hkw hRf rfl said hchain hbare hw call
end Mine
end P46
section P47
set_option maxRecDepth 100000
set_option Elab.async false
set_option autoImplicit false
set_option linter.unusedVariables false
namespace Mine
open PySem PySem.W PyProof.Rows
noncomputable def fnB' (i : Nat) : List Stmt := match PySem.Challenge.pw_wo0024_03.main.body[i]? with | some (.FunctionDef _ _ b _ _ _ _ _ _ _) => b | _ => []
noncomputable def fnS' (i : Nat) : Scope := match PySem.Challenge.pw_wo0024_03.main.body[i]? with | some (.FunctionDef _ _ _ _ _ _ s _ _ _) => s | _ => default
theorem fnB_eq (i : Nat) : fnB i = fnB' i := by unfold fnB fnB'; rw [eP] <;> rfl
theorem fnS_eq (i : Nat) : fnS i = fnS' i := by unfold fnS fnS'; rw [eP] <;> rfl
noncomputable def glV : List (String × Value) := [("map", (.type "map")), ("str", (.type "str")), ("ord", (.builtin "ord")), ("len", (.builtin "len")), ("enumerate", (.type "enumerate")), ("range", (.type "range")), ("chr", (.builtin "chr")), ("int", (.type "int")), ("ValueError", (.type "ValueError")), ("min", (.builtin "min")), ("sum", (.builtin "sum")), ("isinstance", (.builtin "isinstance")), ("bytes", (.type "bytes")), ("_QUOPRI_MAP", (.ref 42)), ("_QUOPRI_BODY_ENCODE_MAP", (.ref 64)), ("_twin_re_1", (.ref 80)), ("capwords", (.ref 39)), ("quote", (.ref 62)), ("body_encode", (.ref 75)), ("_quote_periods", (.ref 87)), ("_law_dealt", (.ref 92)), ("law", (.ref 97)), ("CRLF", (.str (Str.ofString "\r\n") 292)), ("NL", (.str (Str.ofString "\n") 294))]
theorem ns_g (P : Params) : (hp1 P).isNs mainGlobals = true := by kernel_rfl
theorem ns_b (P : Params) : (hp1 P).isNs builtinsNs = true := by kernel_rfl
theorem ns_c (P : Params) : (hp1 P).isNs cStatics = true := by kernel_rfl
theorem no_lim (P : Params) : (hp1 P).nsMap cStatics "sys.recursionlimit" = none := by kernel_rfl
noncomputable def glAt (P : Params) (x : String) (v : Value) : Prop := (hp1 P).nsMap mainGlobals (Str.ofString x) = some v ∨ ((hp1 P).nsMap mainGlobals (Str.ofString x) = none ∧ (hp1 P).nsMap builtinsNs (Str.ofString x) = some v)
theorem gl_0 (P : Params) : glAt P "map" (.type "map") := .inr ⟨by kernel_rfl, by kernel_rfl⟩
theorem gl_1 (P : Params) : glAt P "str" (.type "str") := .inr ⟨by kernel_rfl, by kernel_rfl⟩
theorem gl_2 (P : Params) : glAt P "ord" (.builtin "ord") := .inr ⟨by kernel_rfl, by kernel_rfl⟩
theorem gl_3 (P : Params) : glAt P "len" (.builtin "len") := .inr ⟨by kernel_rfl, by kernel_rfl⟩
theorem gl_4 (P : Params) : glAt P "enumerate" (.type "enumerate") := .inr ⟨by kernel_rfl, by kernel_rfl⟩
theorem gl_5 (P : Params) : glAt P "range" (.type "range") := .inr ⟨by kernel_rfl, by kernel_rfl⟩
theorem gl_6 (P : Params) : glAt P "chr" (.builtin "chr") := .inr ⟨by kernel_rfl, by kernel_rfl⟩
theorem gl_7 (P : Params) : glAt P "int" (.type "int") := .inr ⟨by kernel_rfl, by kernel_rfl⟩
theorem gl_8 (P : Params) : glAt P "ValueError" (.type "ValueError") := .inr ⟨by kernel_rfl, by kernel_rfl⟩
theorem gl_9 (P : Params) : glAt P "min" (.builtin "min") := .inr ⟨by kernel_rfl, by kernel_rfl⟩
theorem gl_10 (P : Params) : glAt P "sum" (.builtin "sum") := .inr ⟨by kernel_rfl, by kernel_rfl⟩
theorem gl_11 (P : Params) : glAt P "isinstance" (.builtin "isinstance") := .inr ⟨by kernel_rfl, by kernel_rfl⟩
theorem gl_12 (P : Params) : glAt P "bytes" (.type "bytes") := .inr ⟨by kernel_rfl, by kernel_rfl⟩
theorem gl_13 (P : Params) : glAt P "_QUOPRI_MAP" (.ref 42) := .inl (by kernel_rfl)
theorem gl_14 (P : Params) : glAt P "_QUOPRI_BODY_ENCODE_MAP" (.ref 64) := .inl (by kernel_rfl)
theorem gl_15 (P : Params) : glAt P "_twin_re_1" (.ref 80) := .inl (by kernel_rfl)
theorem gl_16 (P : Params) : glAt P "capwords" (.ref 39) := .inl (by kernel_rfl)
theorem gl_17 (P : Params) : glAt P "quote" (.ref 62) := .inl (by kernel_rfl)
theorem gl_18 (P : Params) : glAt P "body_encode" (.ref 75) := .inl (by kernel_rfl)
theorem gl_19 (P : Params) : glAt P "_quote_periods" (.ref 87) := .inl (by kernel_rfl)
theorem gl_20 (P : Params) : glAt P "_law_dealt" (.ref 92) := .inl (by kernel_rfl)
theorem gl_21 (P : Params) : glAt P "law" (.ref 97) := .inl (by kernel_rfl)
theorem gl_22 (P : Params) : glAt P "CRLF" (.str (Str.ofString "\r\n") 292) := .inl (by kernel_rfl)
theorem gl_23 (P : Params) : glAt P "NL" (.str (Str.ofString "\n") 294) := .inl (by kernel_rfl)
theorem gl_all (P : Params) : ∀ p ∈ glV, glAt P p.1 p.2 := by
  intro p hp
  simp only [glV, List.mem_cons, List.not_mem_nil, or_false] at hp
  rcases hp with rfl | rfl | rfl | rfl | rfl | rfl | rfl | rfl | rfl | rfl | rfl | rfl | rfl | rfl | rfl | rfl | rfl | rfl | rfl | rfl | rfl | rfl | rfl | rfl
  · exact gl_0 P
  · exact gl_1 P
  · exact gl_2 P
  · exact gl_3 P
  · exact gl_4 P
  · exact gl_5 P
  · exact gl_6 P
  · exact gl_7 P
  · exact gl_8 P
  · exact gl_9 P
  · exact gl_10 P
  · exact gl_11 P
  · exact gl_12 P
  · exact gl_13 P
  · exact gl_14 P
  · exact gl_15 P
  · exact gl_16 P
  · exact gl_17 P
  · exact gl_18 P
  · exact gl_19 P
  · exact gl_20 P
  · exact gl_21 P
  · exact gl_22 P
  · exact gl_23 P
theorem gl_mem {l : List (String × Value)} {x : String} {v : Value} (h : l.lookup x = some v) : (x, v) ∈ l := lookup_mem h
noncomputable abbrev PW (w : World) : Par where
  prog := PySem.Challenge.pw_wo0024_03
  w := w
  gl := glV
  GF := fun h => ∀ b o, (hp1 w.params).get? b = some o → h.get? b = some o
  lim := fun h k => ⟨_, (Heap.Ns.of_isNs (ns_c w.params)).keeps k, no_lim w.params⟩
  glob := fun h k => ⟨_, _, (Heap.Ns.of_isNs (ns_g w.params)).keeps k, (Heap.Ns.of_isNs (ns_b w.params)).keeps k, fun x v e => gl_all w.params (x, v) (gl_mem e)⟩
noncomputable def txtOf : Value → Str
  | .str x _ => x
  | _ => Str.empty
noncomputable def isTxt : Value → Bool
  | .str _ _ => true
  | _ => false
theorem strs_txt : ∀ (l : List Value), l.all isTxt = true → StrsAre l (l.map txtOf)
  | [], _ => .nil
  | v :: r, h => by
    rw [List.all_cons, Bool.and_eq_true] at h
    cases v with
    | str x t => exact .cons x t (strs_txt r h.2)
    | _ => cases h.1
noncomputable def objAt (P : Params) (a : Nat) : Obj := match (hp1 P).get? a with | some o => o | _ => ⟨.none, none, .plain, #[]⟩
noncomputable def seqAt (P : Params) (a : Nat) : List Value := match (hp1 P).get? a with | some ⟨_, _, .seq xs _, _⟩ => xs.toList | _ => []
theorem qm_obj (P : Params) : ∃ o n, (hp1 P).get? 42 = some o ∧ o.cls = .type "list" ∧ o.data = .seq (seqAt P 42).toArray n := ⟨objAt P 42, 256, by kernel_rfl, by kernel_rfl, by kernel_rfl⟩
theorem qm_txt (P : Params) : (seqAt P 42).all isTxt = true := by kernel_rfl
theorem qm_eq (P : Params) : (seqAt P 42).map txtOf = qmL := by kernel_rfl
theorem qm_tab (w : World) : TabAt (PW w) 42 qmL := fun h k => by
  obtain ⟨o, n, h1, h2, h3⟩ := qm_obj w.params
  refine ⟨seqAt w.params 42, ⟨o, k _ _ h1, h2, n, h3⟩, ?_⟩
  rw [← qm_eq w.params]
  exact strs_txt _ (qm_txt w.params)
theorem bm_obj (P : Params) : ∃ o n, (hp1 P).get? 64 = some o ∧ o.cls = .type "list" ∧ o.data = .seq (seqAt P 64).toArray n := ⟨objAt P 64, 0, by kernel_rfl, by kernel_rfl, by kernel_rfl⟩
theorem bm_txt (P : Params) : (seqAt P 64).all isTxt = true := by kernel_rfl
theorem bm_eq (P : Params) : (seqAt P 64).map txtOf = bmL := by kernel_rfl
theorem bm_tab (w : World) : TabAt (PW w) 64 bmL := fun h k => by
  obtain ⟨o, n, h1, h2, h3⟩ := bm_obj w.params
  refine ⟨seqAt w.params 64, ⟨o, k _ _ h1, h2, n, h3⟩, ?_⟩
  rw [← bm_eq w.params]
  exact strs_txt _ (bm_txt w.params)
theorem pat_p (P : Params) : ∃ o v0 v1, (hp1 P).get? 80 = some o ∧ o.cls = .type "re.Pattern" ∧ o.data = .fields (patFields 79 v0 v1) ∧ o.dict = none := ⟨objAt P 80, .bytes #[40,63,109,41,94,92,46] 1871, .int 8 1884, by kernel_rfl, by kernel_rfl, by kernel_rfl, by kernel_rfl⟩
theorem pat_c (P : Params) : ∃ o n, (hp1 P).get? 79 = some o ∧ o.data = .seq (#[14, 4, 0, 1, 1, 6, 1, 16, 46, 1].map rawInt) n := ⟨objAt P 79, 0, by kernel_rfl, by kernel_rfl⟩
theorem pat_at (w : World) : ∀ h, (PW w).GF h → PatAt h 80 79 := fun h k => PatAt.keep ⟨pat_p w.params, pat_c w.params⟩ k
theorem pat_ty (w : World) : ∀ s : Shared, (PW w).GF s.heap → s.TypeIs (.ref 80) "re.Pattern" ∧ ∀ b, (Value.ref 80) = .ref b → ∃ ob, s.heap.get? b = some ob ∧ ob.dict = none := fun s k => by
  obtain ⟨o, v0, v1, h1, h2, _, h4⟩ := pat_p w.params
  exact ⟨⟨o, k _ _ h1, h2⟩, fun b e => by cases e; exact ⟨o, k _ _ h1, h4⟩⟩
noncomputable def fldAt (P : Params) (a : Nat) : Array Value := match (hp1 P).get? a with | some ⟨_, _, .fields xs, _⟩ => xs | _ => #[]
noncomputable def fdAt (P : Params) (a : Nat) : FuncData := match (hp1 P).get? a with | some ⟨_, _, .func fd, _⟩ => fd | _ => { name := Str.empty, qualname := Str.empty, params := default, body := .stmts [], scope := default, globals := 0, closure := [], defaults := .none, kwdefaults := .none, doc := .none, pyModule := .none, annotations := none, code := .none, closureTuple := .none, builtins := 0 }
theorem ref_keep {h h' : Heap} {c : Value} {q : Str} (x : h.CodeRec c q) (k : ∀ b o, h.get? b = some o → h'.get? b = some o) : h'.CodeRec c q := let ⟨a, o, vs, t, e, ho, r⟩ := x; ⟨a, o, vs, t, e, k _ _ ho, r⟩
theorem fo_capwords (P : Params) : ∃ o, (hp1 P).get? 39 = some o ∧ o.data = .func (fdAt P 39) := ⟨objAt P 39, by kernel_rfl, by kernel_rfl⟩
theorem fc_capwords (P : Params) : (hp1 P).CodeRec (fdAt P 39).code (fdAt P 39).qualname := ⟨38, objAt P 38, fldAt P 38, 285, by kernel_rfl, by kernel_rfl, by kernel_rfl, by kernel_rfl⟩
theorem fb_capwords (P : Params) : (fdAt P 39).body = .stmts (fnB 2) := by kernel_rfl
theorem fs_capwords (P : Params) : (fdAt P 39).scope = fnS 2 := by kernel_rfl
theorem fk_capwords (P : Params) : (fdAt P 39).globals = mainGlobals ∧ (fdAt P 39).builtins = builtinsNs ∧ (fdAt P 39).closure = [] := ⟨by kernel_rfl, by kernel_rfl, by kernel_rfl⟩
theorem fx_capwords : (fnS' 2).kind = .function ∧ (fnS' 2).isCoroutine = false ∧ (fnS' 2).isGenerator = false ∧ (fnS' 2).names.all (fun z => !(z.2 == .free)) = true := ⟨by kernel_rfl, by kernel_rfl, by kernel_rfl, by kernel_rfl⟩
theorem fn_capwords (w : World) : FnAt (PW w) 39 (fdAt w.params 39) (fnB' 2) where
  at_ := fun h k => let ⟨o, h1, h2⟩ := fo_capwords w.params; ⟨o, k _ _ h1, h2⟩
  code := fun h k => ref_keep (fc_capwords w.params) k
  body := by rw [fb_capwords, fnB_eq]
  gl := (fk_capwords w.params).1
  bu := (fk_capwords w.params).2.1
  clo := (fk_capwords w.params).2.2
  kind := by rw [fs_capwords, fnS_eq]; exact fx_capwords.1
  co := by rw [fs_capwords, fnS_eq]; exact fx_capwords.2.1
  gen := by rw [fs_capwords, fnS_eq]; exact fx_capwords.2.2.1
  nofree := by
    rw [fs_capwords, fnS_eq]
    intro z hz hf
    have := List.all_eq_true.mp fx_capwords.2.2.2 z hz
    rw [hf] at this
    exact absurd this (by decide)
theorem fo_quote (P : Params) : ∃ o, (hp1 P).get? 62 = some o ∧ o.data = .func (fdAt P 62) := ⟨objAt P 62, by kernel_rfl, by kernel_rfl⟩
theorem fc_quote (P : Params) : (hp1 P).CodeRec (fdAt P 62).code (fdAt P 62).qualname := ⟨61, objAt P 61, fldAt P 61, 1834, by kernel_rfl, by kernel_rfl, by kernel_rfl, by kernel_rfl⟩
theorem fb_quote (P : Params) : (fdAt P 62).body = .stmts (fnB 16) := by kernel_rfl
theorem fs_quote (P : Params) : (fdAt P 62).scope = fnS 16 := by kernel_rfl
theorem fk_quote (P : Params) : (fdAt P 62).globals = mainGlobals ∧ (fdAt P 62).builtins = builtinsNs ∧ (fdAt P 62).closure = [] := ⟨by kernel_rfl, by kernel_rfl, by kernel_rfl⟩
theorem fx_quote : (fnS' 16).kind = .function ∧ (fnS' 16).isCoroutine = false ∧ (fnS' 16).isGenerator = false ∧ (fnS' 16).names.all (fun z => !(z.2 == .free)) = true := ⟨by kernel_rfl, by kernel_rfl, by kernel_rfl, by kernel_rfl⟩
theorem fn_quote (w : World) : FnAt (PW w) 62 (fdAt w.params 62) (fnB' 16) where
  at_ := fun h k => let ⟨o, h1, h2⟩ := fo_quote w.params; ⟨o, k _ _ h1, h2⟩
  code := fun h k => ref_keep (fc_quote w.params) k
  body := by rw [fb_quote, fnB_eq]
  gl := (fk_quote w.params).1
  bu := (fk_quote w.params).2.1
  clo := (fk_quote w.params).2.2
  kind := by rw [fs_quote, fnS_eq]; exact fx_quote.1
  co := by rw [fs_quote, fnS_eq]; exact fx_quote.2.1
  gen := by rw [fs_quote, fnS_eq]; exact fx_quote.2.2.1
  nofree := by
    rw [fs_quote, fnS_eq]
    intro z hz hf
    have := List.all_eq_true.mp fx_quote.2.2.2 z hz
    rw [hf] at this
    exact absurd this (by decide)
theorem fo_body_encode (P : Params) : ∃ o, (hp1 P).get? 75 = some o ∧ o.data = .func (fdAt P 75) := ⟨objAt P 75, by kernel_rfl, by kernel_rfl⟩
theorem fc_body_encode (P : Params) : (hp1 P).CodeRec (fdAt P 75).code (fdAt P 75).qualname := ⟨74, objAt P 74, fldAt P 74, 1850, by kernel_rfl, by kernel_rfl, by kernel_rfl, by kernel_rfl⟩
theorem fb_body_encode (P : Params) : (fdAt P 75).body = .stmts (fnB 20) := by kernel_rfl
theorem fs_body_encode (P : Params) : (fdAt P 75).scope = fnS 20 := by kernel_rfl
theorem fk_body_encode (P : Params) : (fdAt P 75).globals = mainGlobals ∧ (fdAt P 75).builtins = builtinsNs ∧ (fdAt P 75).closure = [] := ⟨by kernel_rfl, by kernel_rfl, by kernel_rfl⟩
theorem fx_body_encode : (fnS' 20).kind = .function ∧ (fnS' 20).isCoroutine = false ∧ (fnS' 20).isGenerator = false ∧ (fnS' 20).names.all (fun z => !(z.2 == .free)) = true := ⟨by kernel_rfl, by kernel_rfl, by kernel_rfl, by kernel_rfl⟩
theorem fn_body_encode (w : World) : FnAt (PW w) 75 (fdAt w.params 75) (fnB' 20) where
  at_ := fun h k => let ⟨o, h1, h2⟩ := fo_body_encode w.params; ⟨o, k _ _ h1, h2⟩
  code := fun h k => ref_keep (fc_body_encode w.params) k
  body := by rw [fb_body_encode, fnB_eq]
  gl := (fk_body_encode w.params).1
  bu := (fk_body_encode w.params).2.1
  clo := (fk_body_encode w.params).2.2
  kind := by rw [fs_body_encode, fnS_eq]; exact fx_body_encode.1
  co := by rw [fs_body_encode, fnS_eq]; exact fx_body_encode.2.1
  gen := by rw [fs_body_encode, fnS_eq]; exact fx_body_encode.2.2.1
  nofree := by
    rw [fs_body_encode, fnS_eq]
    intro z hz hf
    have := List.all_eq_true.mp fx_body_encode.2.2.2 z hz
    rw [hf] at this
    exact absurd this (by decide)
theorem fo_quote_periods (P : Params) : ∃ o, (hp1 P).get? 87 = some o ∧ o.data = .func (fdAt P 87) := ⟨objAt P 87, by kernel_rfl, by kernel_rfl⟩
theorem fc_quote_periods (P : Params) : (hp1 P).CodeRec (fdAt P 87).code (fdAt P 87).qualname := ⟨86, objAt P 86, fldAt P 86, 1887, by kernel_rfl, by kernel_rfl, by kernel_rfl, by kernel_rfl⟩
theorem fb_quote_periods (P : Params) : (fdAt P 87).body = .stmts (fnB 23) := by kernel_rfl
theorem fs_quote_periods (P : Params) : (fdAt P 87).scope = fnS 23 := by kernel_rfl
theorem fk_quote_periods (P : Params) : (fdAt P 87).globals = mainGlobals ∧ (fdAt P 87).builtins = builtinsNs ∧ (fdAt P 87).closure = [] := ⟨by kernel_rfl, by kernel_rfl, by kernel_rfl⟩
theorem fx_quote_periods : (fnS' 23).kind = .function ∧ (fnS' 23).isCoroutine = false ∧ (fnS' 23).isGenerator = false ∧ (fnS' 23).names.all (fun z => !(z.2 == .free)) = true := ⟨by kernel_rfl, by kernel_rfl, by kernel_rfl, by kernel_rfl⟩
theorem fn_quote_periods (w : World) : FnAt (PW w) 87 (fdAt w.params 87) (fnB' 23) where
  at_ := fun h k => let ⟨o, h1, h2⟩ := fo_quote_periods w.params; ⟨o, k _ _ h1, h2⟩
  code := fun h k => ref_keep (fc_quote_periods w.params) k
  body := by rw [fb_quote_periods, fnB_eq]
  gl := (fk_quote_periods w.params).1
  bu := (fk_quote_periods w.params).2.1
  clo := (fk_quote_periods w.params).2.2
  kind := by rw [fs_quote_periods, fnS_eq]; exact fx_quote_periods.1
  co := by rw [fs_quote_periods, fnS_eq]; exact fx_quote_periods.2.1
  gen := by rw [fs_quote_periods, fnS_eq]; exact fx_quote_periods.2.2.1
  nofree := by
    rw [fs_quote_periods, fnS_eq]
    intro z hz hf
    have := List.all_eq_true.mp fx_quote_periods.2.2.2 z hz
    rw [hf] at this
    exact absurd this (by decide)
theorem fo_law_dealt (P : Params) : ∃ o, (hp1 P).get? 92 = some o ∧ o.data = .func (fdAt P 92) := ⟨objAt P 92, by kernel_rfl, by kernel_rfl⟩
theorem fc_law_dealt (P : Params) : (hp1 P).CodeRec (fdAt P 92).code (fdAt P 92).qualname := ⟨91, objAt P 91, fldAt P 91, 1896, by kernel_rfl, by kernel_rfl, by kernel_rfl, by kernel_rfl⟩
theorem fb_law_dealt (P : Params) : (fdAt P 92).body = .stmts (fnB 25) := by kernel_rfl
theorem fs_law_dealt (P : Params) : (fdAt P 92).scope = fnS 25 := by kernel_rfl
theorem fk_law_dealt (P : Params) : (fdAt P 92).globals = mainGlobals ∧ (fdAt P 92).builtins = builtinsNs ∧ (fdAt P 92).closure = [] := ⟨by kernel_rfl, by kernel_rfl, by kernel_rfl⟩
theorem fx_law_dealt : (fnS' 25).kind = .function ∧ (fnS' 25).isCoroutine = false ∧ (fnS' 25).isGenerator = false ∧ (fnS' 25).names.all (fun z => !(z.2 == .free)) = true := ⟨by kernel_rfl, by kernel_rfl, by kernel_rfl, by kernel_rfl⟩
theorem fn_law_dealt (w : World) : FnAt (PW w) 92 (fdAt w.params 92) (fnB' 25) where
  at_ := fun h k => let ⟨o, h1, h2⟩ := fo_law_dealt w.params; ⟨o, k _ _ h1, h2⟩
  code := fun h k => ref_keep (fc_law_dealt w.params) k
  body := by rw [fb_law_dealt, fnB_eq]
  gl := (fk_law_dealt w.params).1
  bu := (fk_law_dealt w.params).2.1
  clo := (fk_law_dealt w.params).2.2
  kind := by rw [fs_law_dealt, fnS_eq]; exact fx_law_dealt.1
  co := by rw [fs_law_dealt, fnS_eq]; exact fx_law_dealt.2.1
  gen := by rw [fs_law_dealt, fnS_eq]; exact fx_law_dealt.2.2.1
  nofree := by
    rw [fs_law_dealt, fnS_eq]
    intro z hz hf
    have := List.all_eq_true.mp fx_law_dealt.2.2.2 z hz
    rw [hf] at this
    exact absurd this (by decide)
theorem fo_law (P : Params) : ∃ o, (hp1 P).get? 97 = some o ∧ o.data = .func (fdAt P 97) := ⟨objAt P 97, by kernel_rfl, by kernel_rfl⟩
theorem fc_law (P : Params) : (hp1 P).CodeRec (fdAt P 97).code (fdAt P 97).qualname := ⟨96, objAt P 96, fldAt P 96, 1902, by kernel_rfl, by kernel_rfl, by kernel_rfl, by kernel_rfl⟩
theorem fb_law (P : Params) : (fdAt P 97).body = .stmts (fnB 26) := by kernel_rfl
theorem fs_law (P : Params) : (fdAt P 97).scope = fnS 26 := by kernel_rfl
theorem fk_law (P : Params) : (fdAt P 97).globals = mainGlobals ∧ (fdAt P 97).builtins = builtinsNs ∧ (fdAt P 97).closure = [] := ⟨by kernel_rfl, by kernel_rfl, by kernel_rfl⟩
theorem fx_law : (fnS' 26).kind = .function ∧ (fnS' 26).isCoroutine = false ∧ (fnS' 26).isGenerator = false ∧ (fnS' 26).names.all (fun z => !(z.2 == .free)) = true := ⟨by kernel_rfl, by kernel_rfl, by kernel_rfl, by kernel_rfl⟩
theorem fn_law (w : World) : FnAt (PW w) 97 (fdAt w.params 97) (fnB' 26) where
  at_ := fun h k => let ⟨o, h1, h2⟩ := fo_law w.params; ⟨o, k _ _ h1, h2⟩
  code := fun h k => ref_keep (fc_law w.params) k
  body := by rw [fb_law, fnB_eq]
  gl := (fk_law w.params).1
  bu := (fk_law w.params).2.1
  clo := (fk_law w.params).2.2
  kind := by rw [fs_law, fnS_eq]; exact fx_law.1
  co := by rw [fs_law, fnS_eq]; exact fx_law.2.1
  gen := by rw [fs_law, fnS_eq]; exact fx_law.2.2.1
  nofree := by
    rw [fs_law, fnS_eq]
    intro z hz hf
    have := List.all_eq_true.mp fx_law.2.2.2 z hz
    rw [hf] at this
    exact absurd this (by decide)
end Mine
end P47
section P48
set_option maxRecDepth 100000
set_option Elab.async false
set_option autoImplicit false
set_option linter.unusedVariables false
set_option maxHeartbeats 4000000
namespace Mine
open PySem PySem.W PyProof.Rows
theorem e_capwords (w : World) (n : Nat) : EvS (PW w) n (fnS' 2) (fnB' 2) (t_capwords) :=
  es_cons (ex_ret (ev_capjoin (ev_or (ev_var "sep" _) (ev_str (Str.ofString " ") _ _)) (ev_smeth (name := "split") PySem.F.slot_str_split PySem.F.type_str_split (ev_var "s" _) (el_cons (ev_var "sep" _) el_nil) op_split) (ev_glob "map" (.type "map") _ (by kernel_rfl) rfl) (ev_glob "str" (.type "str") _ (by kernel_rfl) rfl))) (es_nil)
theorem e_quote (w : World) (n : Nat) : EvS (PW w) n (fnS' 16) (fnB' 16) (t_quote) :=
  es_cons (ex_ret (ev_tab (qm_tab w) (by decide +kernel) (ev_glob "_QUOPRI_MAP" (.ref 42) _ (by kernel_rfl) rfl) (ev_call (ev_glob "ord" (.builtin "ord") _ (by kernel_rfl) rfl) (keeper_builtin _) (el_cons (ev_var "c" _) el_nil) op_ord))) (es_nil)
theorem e_quote_periods (w : World) (n : Nat) : EvS (PW w) n (fnS' 23) (fnB' 23) (t_quote_periods) :=
  es_cons (ex_ret (ev_methC (name := "sub") (pat_ty w) FF.plainAttrs_pat FF.slot_sub FF.type_sub (ev_glob "_twin_re_1" (.ref 80) _ (by kernel_rfl) rfl) (el_cons (ev_bytes [46, 46] _ _) (el_cons (ev_var "bindata" _) el_nil)) (op_subst (pat_at w)))) (es_nil)
theorem e_body_encode (w : World) (n : Nat) (c_quote : List AV → List AO → VP → Prop) (h_quote : OpOk (PW w) n (fun vs => call (.ref 62) vs) c_quote) : EvS (PW w) n (fnS' 20) (fnB' 20) (t_body_encode c_quote) :=
  es_cons (ex_if (tb_cmp (ev_var "maxlinelen" _) (ev_int 4 _ _) op_lt) (es_cons ex_raise es_nil) es_nil) (es_cons (ex_if (tb_not (tb_val (ev_var "body" _))) (es_cons (ex_ret (ev_var "body" _)) es_nil) es_nil) (es_cons (ex_assign (x := "body") (.inl (by kernel_rfl)) (ev_smeth (name := "translate") PySem.F.slot_str_translate PySem.F.type_str_translate (ev_var "body" _) (el_cons (ev_glob "_QUOPRI_BODY_ENCODE_MAP" (.ref 64) _ (by kernel_rfl) rfl) el_nil) (op_trans (bm_tab w) (by decide +kernel)))) (es_cons (ex_assign (x := "soft_break") (.inl (by kernel_rfl)) (ev_bin (ev_str (Str.ofString "=") _ _) (ev_var "eol" _) op_add)) (es_cons (ex_assign (x := "maxlinelen1") (.inl (by kernel_rfl)) (ev_bin (ev_var "maxlinelen" _) (ev_int 1 _ _) op_sub)) (es_cons (ex_assign (x := "encoded_body") (.inl (by kernel_rfl)) (ev_list el_nil)) (es_cons (ex_assign (x := "append") (.inl (by kernel_rfl)) (ev_appattr (ev_var "encoded_body" _))) (es_cons (ex_for (tg := (.one "line")) (.one "line" _) (fun _ h => Stor.mono (.inl (by kernel_rfl)) h) (ei_val (ev_smeth (name := "splitlines") PySem.F.slot_str_splitlines PySem.F.type_str_splitlines (ev_var "body" _) el_nil op_lines)) (es_cons (ex_assign (x := "start") (.inl (by kernel_rfl)) (ev_int 0 _ _)) (es_cons (ex_assign (x := "laststart") (.inl (by kernel_rfl)) (ev_bin (ev_bin (ev_call (ev_glob "len" (.builtin "len") _ (by kernel_rfl) rfl) (keeper_builtin _) (el_cons (ev_var "line" _) el_nil) op_len) (ev_int 1 _ _) op_sub) (ev_var "maxlinelen" _) op_sub)) (es_cons (ex_while (tb_cmp (ev_var "start" _) (ev_var "laststart" _) op_le) (es_cons (ex_assign (x := "stop") (.inl (by kernel_rfl)) (ev_bin (ev_var "start" _) (ev_var "maxlinelen1" _) op_add)) (es_cons (ex_if (tb_cmp (ev_item (ev_var "line" _) (ev_bin (ev_var "stop" _) (ev_int 2 _ _) op_sub)) (ev_str (Str.ofString "=") _ _) op_eq) (es_cons (ex_expr (ev_loccall (x := "append") (el_cons (ev_slice (ev_var "line" _) (ep_some (ev_var "start" _)) (ep_some (ev_bin (ev_var "stop" _) (ev_int 1 _ _) op_sub))) el_nil))) (es_cons (ex_assign (x := "start") (.inl (by kernel_rfl)) (ev_bin (ev_var "stop" _) (ev_int 2 _ _) op_sub)) es_nil)) (es_cons (ex_if (tb_cmp (ev_item (ev_var "line" _) (ev_bin (ev_var "stop" _) (ev_int 1 _ _) op_sub)) (ev_str (Str.ofString "=") _ _) op_eq) (es_cons (ex_expr (ev_loccall (x := "append") (el_cons (ev_slice (ev_var "line" _) (ep_some (ev_var "start" _)) (ep_some (ev_var "stop" _))) el_nil))) (es_cons (ex_assign (x := "start") (.inl (by kernel_rfl)) (ev_bin (ev_var "stop" _) (ev_int 1 _ _) op_sub)) es_nil)) (es_cons (ex_expr (ev_loccall (x := "append") (el_cons (ev_bin (ev_slice (ev_var "line" _) (ep_some (ev_var "start" _)) (ep_some (ev_var "stop" _))) (ev_str (Str.ofString "=") _ _) op_add) el_nil))) (es_cons (ex_assign (x := "start") (.inl (by kernel_rfl)) (ev_var "stop" _)) es_nil))) es_nil)) es_nil))) (es_cons (ex_if (tb_and (tb_val (ev_var "line" _)) (tb_cmp (ev_item (ev_var "line" _) (ev_un (ev_int 1 _ _) op_neg)) (ev_str (Str.ofString " \t") _ _) op_in)) (es_cons (ex_assign (x := "room") (.inl (by kernel_rfl)) (ev_bin (ev_var "start" _) (ev_var "laststart" _) op_sub)) (es_cons (ex_if (tb_cmp (ev_var "room" _) (ev_int 3 _ _) op_ge) (es_cons (ex_assign (x := "q") (.inl (by kernel_rfl)) (ev_call (ev_glob "quote" (.ref 62) _ (by kernel_rfl) rfl) (keeper_fn (fn_quote w)) (el_cons (ev_item (ev_var "line" _) (ev_un (ev_int 1 _ _) op_neg)) el_nil) h_quote)) es_nil) (es_cons (ex_if (tb_cmp (ev_var "room" _) (ev_int 2 _ _) op_eq) (es_cons (ex_assign (x := "q") (.inl (by kernel_rfl)) (ev_bin (ev_item (ev_var "line" _) (ev_un (ev_int 1 _ _) op_neg)) (ev_var "soft_break" _) op_add)) es_nil) (es_cons (ex_assign (x := "q") (.inl (by kernel_rfl)) (ev_bin (ev_var "soft_break" _) (ev_call (ev_glob "quote" (.ref 62) _ (by kernel_rfl) rfl) (keeper_fn (fn_quote w)) (el_cons (ev_item (ev_var "line" _) (ev_un (ev_int 1 _ _) op_neg)) el_nil) h_quote) op_add)) es_nil)) es_nil)) (es_cons (ex_expr (ev_loccall (x := "append") (el_cons (ev_bin (ev_slice (ev_var "line" _) (ep_some (ev_var "start" _)) (ep_some (ev_un (ev_int 1 _ _) op_neg))) (ev_var "q" _) op_add) el_nil))) es_nil))) (es_cons (ex_expr (ev_loccall (x := "append") (el_cons (ev_slice (ev_var "line" _) (ep_some (ev_var "start" _)) ep_none) el_nil))) es_nil)) es_nil))))) (es_cons (ex_if (tb_cmp (ev_item (ev_var "body" _) (ev_un (ev_int 1 _ _) op_neg)) (ev_globS "CRLF" (Str.ofString "\r\n") 292 _ (by kernel_rfl) rfl) op_in) (es_cons (ex_expr (ev_loccall (x := "append") (el_cons (ev_str (Str.ofString "") _ _) el_nil))) es_nil) es_nil) (es_cons (ex_ret (ev_smeth (name := "join") PySem.F.slot_str_join PySem.F.type_str_join (ev_var "eol" _) (el_cons (ev_var "encoded_body" _) el_nil) op_join)) (es_nil))))))))))
theorem e_law_dealt (w : World) (n : Nat) (c_quote : List AV → List AO → VP → Prop) (c_body_encode : List AV → List AO → VP → Prop) (c_quote_periods : List AV → List AO → VP → Prop) (c_capwords : List AV → List AO → VP → Prop) (h_quote : OpOk (PW w) n (fun vs => call (.ref 62) vs) c_quote) (h_body_encode : OpOk (PW w) n (fun vs => call (.ref 75) vs) c_body_encode) (h_quote_periods : OpOk (PW w) n (fun vs => call (.ref 87) vs) c_quote_periods) (h_capwords : OpOk (PW w) n (fun vs => call (.ref 39) vs) c_capwords) : EvS (PW w) n (fnS' 25) (fnB' 25) (t_law_dealt c_quote c_body_encode c_quote_periods c_capwords) :=
  es_cons (ex_assign (x := "figures") (.inr (by kernel_rfl)) (ev_str (Str.ofString "0123456789ABCDEF") _ _)) (es_cons (ex_assign (x := "plain") (.inl (by kernel_rfl)) (ev_smeth (name := "join") PySem.F.slot_str_join PySem.F.type_str_join (ev_str (Str.ofString "") _ _) (el_cons (ev_comp (ei_val (ev_var "ring" _)) (compOk_of (fr := ["figures"]) (tg := (.one "octet")) (by kernel_rfl)) (.one "octet" _) et_nil (ev_bin (ev_bin (ev_str (Str.ofString "=") _ _) (ev_item (ev_var "figures" _) (ev_bin (ev_call (ev_glob "ord" (.builtin "ord") _ (by kernel_rfl) rfl) (keeper_builtin _) (el_cons (ev_var "octet" _) el_nil) op_ord) (ev_int 16 _ _) op_fdiv)) op_add) (ev_item (ev_var "figures" _) (ev_bin (ev_call (ev_glob "ord" (.builtin "ord") _ (by kernel_rfl) rfl) (keeper_builtin _) (el_cons (ev_var "octet" _) el_nil) op_ord) (ev_int 16 _ _) op_mod)) op_add)) el_nil) op_join)) (es_cons (ex_if (tb_cmp (ev_smeth (name := "join") PySem.F.slot_str_join PySem.F.type_str_join (ev_str (Str.ofString "") _ _) (el_cons (ev_comp (ei_val (ev_var "ring" _)) (compOk_of (fr := []) (tg := (.one "octet")) (by kernel_rfl)) (.one "octet" _) et_nil (ev_call (ev_glob "quote" (.ref 62) _ (by kernel_rfl) rfl) (keeper_fn (fn_quote w)) (el_cons (ev_var "octet" _) el_nil) h_quote)) el_nil) op_join) (ev_var "plain" _) op_ne) (es_cons (ex_ret (ev_str (Str.ofString "") _ _)) es_nil) es_nil) (es_cons (ex_assign (x := "more") (.inl (by kernel_rfl)) (ev_bin (ev_str (Str.ofString "a") _ _) (ev_ite (tb_val (ev_var "small" _)) (ev_bin (ev_int 2 _ _) (ev_var "spare" _) op_add) (ev_bin (ev_int 1 _ _) (ev_var "spare" _) op_add)) op_mul)) (es_cons (ex_assign (x := "page") (.inl (by kernel_rfl)) (ev_call (ev_glob "body_encode" (.ref 75) _ (by kernel_rfl) rfl) (keeper_fn (fn_body_encode w)) (el_cons (ev_bin (ev_bin (ev_var "ring" _) (ev_var "row" _) op_mul) (ev_var "more" _) op_add) (el_cons (ev_bin (ev_bin (ev_bin (ev_int 3 _ _) (ev_var "row" _) op_mul) (ev_int 1 _ _) op_add) (ev_var "spare" _) op_add) (el_cons (ev_var "end" _) el_nil))) h_body_encode)) (es_cons (ex_if (tb_or (tb_cmp (ev_repl1 (a := (Str.ofString "=")) (b := (Str.ofString "")) (y := "end") (ev_var "page" _)) (ev_bin (ev_bin (ev_var "plain" _) (ev_var "row" _) op_mul) (ev_var "more" _) op_add) op_ne) (tb_cmp (ev_smeth (name := "count") PySem.F.slot_str_count PySem.F.type_str_count (ev_var "page" _) (el_cons (ev_var "end" _) el_nil) op_count) (ev_ite (tb_val (ev_var "small" _)) (ev_call (ev_glob "len" (.builtin "len") _ (by kernel_rfl) rfl) (keeper_builtin _) (el_cons (ev_var "ring" _) el_nil) op_len) (ev_bin (ev_call (ev_glob "len" (.builtin "len") _ (by kernel_rfl) rfl) (keeper_builtin _) (el_cons (ev_var "ring" _) el_nil) op_len) (ev_int 1 _ _) op_sub)) op_ne)) (es_cons (ex_ret (ev_str (Str.ofString "") _ _)) es_nil) es_nil) (es_cons (ex_assign (x := "sent") (.inl (by kernel_rfl)) (ev_bmeth (name := "decode") PySem.W.FB.slot_bytes_decode PySem.W.FB.type_bytes_decode (ev_call (ev_glob "_quote_periods" (.ref 87) _ (by kernel_rfl) rfl) (keeper_fn (fn_quote_periods w)) (el_cons (ev_smeth (name := "encode") PySem.F.slot_str_encode PySem.F.type_str_encode (ev_bin (ev_str (Str.ofString ".") _ _) (ev_var "page" _) op_add) (el_cons (ev_str (Str.ofString "ascii") _ _) el_nil) op_encode) el_nil) h_quote_periods) (el_cons (ev_str (Str.ofString "ascii") _ _) el_nil) op_decode)) (es_cons (ex_assign (x := "mark") (.inl (by kernel_rfl)) (ev_bin (ev_repl2 (c0 := (Str.ofString "=")) (c1 := (Str.ofString "\n.")) (c2 := (Str.ofString "\n..")) (y := "end")) (ev_str (Str.ofString "=") _ _) op_add)) (es_cons (ex_assign (x := "told") (.inl (by kernel_rfl)) (ev_call (ev_glob "capwords" (.ref 39) _ (by kernel_rfl) rfl) (keeper_fn (fn_capwords w)) (el_cons (ev_bin (ev_slice (ev_ite (tb_val (ev_var "small" _)) (ev_smeth (name := "lower") PySem.F.slot_str_lower PySem.F.type_str_lower (ev_var "sent" _) el_nil op_lower) (ev_var "sent" _)) (ep_some (ev_int 3 _ _)) ep_none) (ev_var "mark" _) op_add) (el_cons (ev_var "mark" _) el_nil)) h_capwords)) (es_cons (ex_if (tb_or (tb_cmp (ev_slice (ev_var "sent" _) ep_none (ep_some (ev_int 3 _ _))) (ev_str (Str.ofString "..=") _ _) op_ne) (tb_cmp (ev_smeth (name := "lower") PySem.F.slot_str_lower PySem.F.type_str_lower (ev_var "told" _) el_nil op_lower) (ev_bin (ev_smeth (name := "lower") PySem.F.slot_str_lower PySem.F.type_str_lower (ev_slice (ev_var "sent" _) (ep_some (ev_int 3 _ _)) ep_none) el_nil op_lower) (ev_var "mark" _) op_add) op_ne)) (es_cons (ex_ret (ev_str (Str.ofString "") _ _)) es_nil) es_nil) (es_cons (ex_ret (ev_smeth (name := "join") PySem.F.slot_str_join PySem.F.type_str_join (ev_str (Str.ofString "") _ _) (el_cons (ev_comp (ei_val (ev_smeth (name := "split") PySem.F.slot_str_split PySem.F.type_str_split (ev_var "told" _) (el_cons (ev_str (Str.ofString "=") _ _) el_nil) op_split)) (compOk_of (fr := []) (tg := (.one "part")) (by kernel_rfl)) (.one "part" _) (et_one (tb_chain (ev_str (Str.ofString "A") _ _) (ev_slice (ev_var "part" _) ep_none (ep_some (ev_int 1 _ _))) (ev_str (Str.ofString "Z") _ _) op_le op_le)) (ev_call (ev_glob "chr" (.builtin "chr") _ (by kernel_rfl) rfl) (keeper_builtin _) (el_cons (ev_call (ev_glob "int" (.type "int") _ (by kernel_rfl) rfl) (keeper_type _) (el_cons (ev_slice (ev_var "part" _) ep_none (ep_some (ev_int 2 _ _))) (el_cons (ev_int 16 _ _) el_nil)) op_hex) el_nil) op_chr)) el_nil) op_join)) (es_nil)))))))))))
theorem e_law (w : World) (n : Nat) (c_law_dealt : List AV → List AO → VP → Prop) (h_law_dealt : OpOk (PW w) n (fun vs => call (.ref 92) vs) c_law_dealt) : EvS (PW w) n (fnS' 26) (fnB' 26) (t_law c_law_dealt) :=
  es_cons (ex_assign (x := "cells") (.inl (by kernel_rfl)) (ev_list (el_cons (ev_int 1 _ _) (el_cons (ev_int 5 _ _) (el_cons (ev_int 23 _ _) el_nil))))) (es_cons (ex_for (tg := (.two "place" "number")) (.two "place" "number" _ _ _ _) (fun _ h => ⟨Stor.mono (.inl (by kernel_rfl)) h, Stor.mono (.inl (by kernel_rfl)) h⟩) (ei_enum (ev_glob "enumerate" (.type "enumerate") _ (by kernel_rfl) rfl) (el_cons (ev_var "script" _) el_nil)) (es_cons (ex_augitem (ev_var "cells" _) (ev_bin (ev_var "place" _) (ev_int 3 _ _) op_mod) (ev_bin (ev_var "number" _) (ev_int 1000000 _ _) op_mod) op_iadd) es_nil)) (es_cons (ex_assign (x := "size") (.inr (by kernel_rfl)) (ev_item (ev_tup (el_cons (ev_int 4 _ _) (el_cons (ev_int 5 _ _) (el_cons (ev_int 6 _ _) (el_cons (ev_int 7 _ _) (el_cons (ev_int 8 _ _) (el_cons (ev_int 9 _ _) (el_cons (ev_int 10 _ _) (el_cons (ev_int 12 _ _) el_nil))))))))) (ev_bin (ev_item (ev_var "cells" _) (ev_int 0 _ _)) (ev_int 8 _ _) op_mod))) (es_cons (ex_assign (x := "end") (.inl (by kernel_rfl)) (ev_ite (tb_cmp (ev_bin (ev_bin (ev_item (ev_var "cells" _) (ev_int 0 _ _)) (ev_int 8 _ _) op_fdiv) (ev_int 2 _ _) op_mod) (ev_int 1 _ _) op_eq) (ev_str (Str.ofString "\r\n.\r.") _ _) (ev_str (Str.ofString "\n.\r.") _ _))) (es_cons (ex_assign_comp (x := "numbers") (.inl (by kernel_rfl)) (ei_range1 (ev_glob "range" (.type "range") _ (by kernel_rfl) rfl) (el_cons (ev_var "size" _) el_nil)) (compOk_of (fr := ["script"]) (tg := (.one "place")) (by kernel_rfl)) (.one "place" _) et_nil (ev_ite (tb_cmp (ev_var "place" _) (ev_call (ev_glob "len" (.builtin "len") _ (by kernel_rfl) rfl) (keeper_builtin _) (el_cons (ev_var "script" _) el_nil) op_len) op_lt) (ev_item (ev_var "script" _) (ev_var "place" _)) (ev_int 0 _ _)) (fun env he => swaps_true he (by kernel_rfl) (by kernel_rfl) (by kernel_rfl) (by kernel_rfl))) (es_cons (ex_assign (x := "first") (.inr (by kernel_rfl)) (ev_smeth (name := "join") PySem.F.slot_str_join PySem.F.type_str_join (ev_str (Str.ofString "") _ _) (el_cons (ev_comp (ei_enum (ev_glob "enumerate" (.type "enumerate") _ (by kernel_rfl) rfl) (el_cons (ev_var "numbers" _) el_nil)) (compOk_of (fr := []) (tg := (.two "place" "number")) (by kernel_rfl)) (.two "place" "number" _ _ _ _) et_nil (ev_call (ev_glob "chr" (.builtin "chr") _ (by kernel_rfl) rfl) (keeper_builtin _) (el_cons (ev_bin (ev_int 160 _ _) (ev_bin (ev_bin (ev_bin (ev_int 37 _ _) (ev_var "place" _) op_mul) (ev_var "number" _) op_add) (ev_int 96 _ _) op_mod) op_add) el_nil) op_chr)) el_nil) op_join)) (es_cons (ex_assign_comp (x := "units") (.inl (by kernel_rfl)) (ei_range2 (ev_glob "range" (.type "range") _ (by kernel_rfl) rfl) (el_cons (ev_int 2 _ _) (el_cons (ev_var "size" _) el_nil))) (compOk_of (fr := ["size"]) (tg := (.one "row")) (by kernel_rfl)) (.one "row" _) (et_one (tb_cmp (ev_comp (ei_range1 (ev_glob "range" (.type "range") _ (by kernel_rfl) rfl) (el_cons (ev_var "size" _) el_nil)) (compOk_of (fr := ["row", "size"]) (tg := (.one "one")) (by kernel_rfl)) (.one "one" _) (et_one (tb_cmp (ev_bin (ev_bin (ev_var "one" _) (ev_var "row" _) op_mul) (ev_var "size" _) op_mod) (ev_int 1 _ _) op_eq)) (ev_var "one" _)) (ev_list el_nil) op_ne)) (ev_var "row" _) (fun env he => swaps_true he (by kernel_rfl) (by kernel_rfl) (by kernel_rfl) (by kernel_rfl))) (es_cons (ex_assign (x := "ring") (.inl (by kernel_rfl)) (ev_var "first" _)) (es_cons (ex_assign (x := "rest") (.inl (by kernel_rfl)) (ev_item (ev_var "cells" _) (ev_int 2 _ _))) (es_cons (ex_for (tg := (.one "turn")) (.one "turn" _) (fun _ h => Stor.mono (.inl (by kernel_rfl)) h) (ei_range1 (ev_glob "range" (.type "range") _ (by kernel_rfl) rfl) (el_cons (ev_call (ev_glob "len" (.builtin "len") _ (by kernel_rfl) rfl) (keeper_builtin _) (el_cons (ev_var "units" _) el_nil) op_len) el_nil)) (es_cons (ex_assign (x := "left") (.inl (by kernel_rfl)) (ev_call (ev_glob "len" (.builtin "len") _ (by kernel_rfl) rfl) (keeper_builtin _) (el_cons (ev_var "units" _) el_nil) op_len)) (es_cons (ex_assign (x := "row") (.inl (by kernel_rfl)) (ev_methL (name := "pop") PySem.F.slot_list_pop PySem.F.type_list_pop (ev_var "units" _) (el_cons (ev_bin (ev_var "rest" _) (ev_var "left" _) op_mod) el_nil) op_pop)) (es_cons (ex_assign (x := "rest") (.inl (by kernel_rfl)) (ev_bin (ev_var "rest" _) (ev_var "left" _) op_fdiv)) (es_cons (ex_assign (x := "ring") (.inl (by kernel_rfl)) (ev_call (ev_glob "_law_dealt" (.ref 92) _ (by kernel_rfl) rfl) (keeper_fn (fn_law_dealt w)) (el_cons (ev_var "ring" _) (el_cons (ev_var "row" _) (el_cons (ev_bin (ev_bin (ev_item (ev_var "cells" _) (ev_int 1 _ _)) (ev_var "turn" _) op_add) (ev_int 3 _ _) op_mod) (el_cons (ev_var "end" _) (el_cons (ev_cmp (ev_bin (ev_bin (ev_bin (ev_item (ev_var "cells" _) (ev_int 1 _ _)) (ev_int 3 _ _) op_fdiv) (ev_var "turn" _) op_add) (ev_int 2 _ _) op_mod) (ev_int 1 _ _) op_eq) el_nil))))) h_law_dealt)) es_nil))))) (es_cons (ex_assign_comp (x := "alone") (.inl (by kernel_rfl)) (ei_range1 (ev_glob "range" (.type "range") _ (by kernel_rfl) rfl) (el_cons (ev_var "size" _) el_nil)) (compOk_of (fr := ["size"]) (tg := (.one "one")) (by kernel_rfl)) (.one "one" _) (et_one (tb_cmp (ev_bin (ev_bin (ev_var "one" _) (ev_var "one" _) op_mul) (ev_var "size" _) op_mod) (ev_int 1 _ _) op_eq)) (ev_var "one" _) (fun env he => swaps_true he (by kernel_rfl) (by kernel_rfl) (by kernel_rfl) (by kernel_rfl))) (es_cons (ex_if (tb_cmp (ev_call (ev_glob "len" (.builtin "len") _ (by kernel_rfl) rfl) (keeper_builtin _) (el_cons (ev_var "alone" _) el_nil) op_len) (ev_int 2 _ _) op_gt) (es_cons (ex_ret (ev_cmp (ev_var "ring" _) (ev_var "first" _) op_eq)) es_nil) es_nil) (es_cons (ex_ret (ev_cmp (ev_var "ring" _) (ev_smeth (name := "join") PySem.F.slot_str_join PySem.F.type_str_join (ev_str (Str.ofString "") _ _) (el_cons (ev_comp (ei_range1 (ev_glob "range" (.type "range") _ (by kernel_rfl) rfl) (el_cons (ev_var "size" _) el_nil)) (compOk_of (fr := ["first", "size"]) (tg := (.one "place")) (by kernel_rfl)) (.one "place" _) et_nil (ev_item (ev_var "first" _) (ev_bin (ev_un (ev_var "place" _) op_neg) (ev_var "size" _) op_mod))) el_nil) op_join) op_eq)) (es_nil)))))))))))))
end Mine
end P48
section P49
set_option maxRecDepth 100000
set_option Elab.async false
set_option autoImplicit false
set_option linter.unusedVariables false
set_option maxHeartbeats 4000000
namespace Mine
open PySem PySem.W PyProof.Rows
theorem sc_quote (w : World) : (fdAt w.params 62).scope = fnS' 16 := by rw [fs_quote, fnS_eq]
theorem sc_capwords (w : World) : (fdAt w.params 39).scope = fnS' 2 := by rw [fs_capwords, fnS_eq]
theorem sc_quote_periods (w : World) : (fdAt w.params 87).scope = fnS' 23 := by rw [fs_quote_periods, fnS_eq]
theorem sc_body_encode (w : World) : (fdAt w.params 75).scope = fnS' 20 := by rw [fs_body_encode, fnS_eq]
theorem sc_law_dealt (w : World) : (fdAt w.params 92).scope = fnS' 25 := by rw [fs_law_dealt, fnS_eq]
theorem sc_law (w : World) : (fdAt w.params 97).scope = fnS' 26 := by rw [fs_law, fnS_eq]
theorem kB_quote : okBB (fnS' 16) ["c"] = true := by kernel_rfl
theorem kB_capwords : okBB (fnS' 2) ["s", "sep"] = true := by kernel_rfl
theorem kB_quote_periods : okBB (fnS' 23) ["bindata"] = true := by kernel_rfl
theorem kB_body_encode : okBB (fnS' 20) ["body", "maxlinelen", "eol"] = true := by kernel_rfl
theorem kB_law_dealt : okBB (fnS' 25) ["ring", "row", "spare", "end", "small"] = true := by kernel_rfl
theorem kB_law : okBB (fnS' 26) ["script"] = true := by kernel_rfl
theorem bd_quote (P : Params) (v : Value) : bindArgs (fdAt P 62) ⟨[v], []⟩ = pure [(Str.ofString "c", v)] := by kernel_rfl
theorem df_capwords (w : World) : HasD (PW w) (fdAt w.params 39) (seqAt w.params 32).toArray := fun h k => ⟨32, objAt w.params 32, 0, by kernel_rfl, k _ _ (by kernel_rfl), by kernel_rfl⟩
theorem bd_capwords (P : Params) (v u : Value) : (bindK (fdAt P 39) [v, u]).1 (some (seqAt P 32).toArray) = pure [(Str.ofString "s", v), (Str.ofString "sep", u)] := by kernel_rfl
theorem bd_quote_periods (P : Params) (v : Value) : bindArgs (fdAt P 87) ⟨[v], []⟩ = pure [(Str.ofString "bindata", v)] := by kernel_rfl
theorem df_body_encode (w : World) : HasD (PW w) (fdAt w.params 75) (seqAt w.params 68).toArray := fun h k => ⟨68, objAt w.params 68, 0, by kernel_rfl, k _ _ (by kernel_rfl), by kernel_rfl⟩
theorem bd_body_encode (P : Params) (v u t : Value) : (bindK (fdAt P 75) [v, u, t]).1 (some (seqAt P 68).toArray) = pure [(Str.ofString "body", v), (Str.ofString "maxlinelen", u), (Str.ofString "eol", t)] := by kernel_rfl
theorem bd_law_dealt (P : Params) (a b c d e : Value) : bindArgs (fdAt P 92) ⟨[a, b, c, d, e], []⟩ = pure [(Str.ofString "ring", a), (Str.ofString "row", b), (Str.ofString "spare", c), (Str.ofString "end", d), (Str.ofString "small", e)] := by kernel_rfl
theorem bd_law (P : Params) (v : Value) : bindArgs (fdAt P 97) ⟨[v], []⟩ = pure [(Str.ofString "script", v)] := by kernel_rfl
theorem h_quote (w : World) (n : Nat) : OpOk (PW w) (n + 1) (fun vs => call (.ref 62) vs) c_quote :=
  fn_contract (fn_quote w) (sc_quote w) (e_quote w n) fun as os Q h => by
    obtain ⟨c, rfl, h⟩ := h
    exact ⟨[("c", .str (tx [c]))], bnd1 (bd_quote w.params), okB_of kB_quote, quote_ok h.1 h.2⟩
theorem h_capwords (w : World) (n : Nat) : OpOk (PW w) (n + 1) (fun vs => call (.ref 39) vs) c_cap :=
  fn_contract (fn_capwords w) (sc_capwords w) (e_capwords w n) fun as os Q h => by
    obtain ⟨l, m, ps, rfl, h⟩ := h
    exact ⟨[("s", .str (tx l)), ("sep", .str (tx m))], bndD2 (df_capwords w) (bd_capwords w.params), okB_of kB_capwords, cap_ok h⟩
theorem h_quote_periods (w : World) (n : Nat) : OpOk (PW w) (n + 1) (fun vs => call (.ref 87) vs) c_periods :=
  fn_contract (fn_quote_periods w) (sc_quote_periods w) (e_quote_periods w n) fun as os Q h => by
    obtain ⟨b, rfl, h⟩ := h
    exact ⟨[("bindata", .bytes b)], bnd1 (bd_quote_periods w.params), okB_of kB_quote_periods, periods_ok h⟩
theorem h_body_encode (w : World) (n : Nat) : OpOk (PW w) (n + 2) (fun vs => call (.ref 75) vs) c_body :=
  fn_contract (fn_body_encode w) (sc_body_encode w) (e_body_encode w (n + 1) c_quote (h_quote w n)) fun as os Q h => by
    obtain ⟨B, k, e, ls, out, rfl, h⟩ := h
    exact ⟨[("body", .str (tx B)), ("maxlinelen", .int (k : Int)), ("eol", .str (tx e))], bndD3 (df_body_encode w) (bd_body_encode w.params), okB_of kB_body_encode, c_body_ok h⟩
theorem h_law_dealt (w : World) : OpOk (PW w) 4 (fun vs => call (.ref 92) vs) c_dealt :=
  fn_contract (fn_law_dealt w) (sc_law_dealt w) (e_law_dealt w 3 c_quote c_body c_periods c_cap (h_quote w 2) (h_body_encode w 1) (h_quote_periods w 2) (h_capwords w 2)) fun as os Q h => by
    obtain ⟨cs, r, p, b, small, rows, rfl, d, hQ⟩ := h
    exact ⟨[("ring", .str (tx cs)), ("row", .int (r : Int)), ("spare", .int (p : Int)), ("end", .str (tx (end1 b))), ("small", .bool small)], bnd5 (bd_law_dealt w.params), okB_of kB_law_dealt, dealt_ok d hQ⟩
theorem law_addr (w : World) {h : Heap} {mg : Str → Option Value} {fa : Addr} (hk : ∀ b o, (hp1 w.params).get? b = some o → h.get? b = some o) (hn : h.Ns mainGlobals mg) (hm : mg (Str.ofString "law") = some (.ref fa)) : fa = 97 := by
  have h1 := hn.eq_nsMap
  have h2 := ((Heap.Ns.of_isNs (ns_g w.params)).keeps hk).eq_nsMap
  rw [h1, ← h2] at hm
  rcases gl_21 w.params with h | h
  · have e : some (Value.ref fa) = some (Value.ref 97) := hm.symm.trans h
    exact Value.ref.inj (Option.some.inj e)
  · have e := hm.symm.trans h.1
    cases e
end Mine
end P49
section P50
set_option maxRecDepth 100000
set_option Elab.async false
set_option autoImplicit false
set_option linter.unusedVariables false
set_option maxHeartbeats 4000000
namespace Mine
open PySem PySem.W PyProof.Rows
theorem aOk : AOk 5 callerA := ⟨rfl, by decide, by decide⟩
theorem law_ok' {sc : List Int} (hsc : sc.length ≤ 63) {Q : VP} {m : Nat} (hm : m = 1) (hQ : ∀ ex, Q (.bool true) ex) : t_law c_dealt ⟨⟨[("script", .ref 0)], m⟩, [.list (sc.map .int)]⟩ fun fl σ' => Q (retOf fl) σ'.objs := by
  subst hm
  exact law_ok hsc hQ
theorem law_call (w : World) {s₁ : Shared} {sc : List Int} {us : List Value} {L n : Nat} (hkeep : ∀ b o, (hp1 w.params).get? b = some o → s₁.heap.get? b = some o) (hobj : s₁.heap.get? L = some (listObj us n)) (hInts : IntsAre us sc) (hlen : sc.length ≤ 63) {Q' E : Value → Shared → Prop}
    (hQ : ∀ h' tk, (∀ b o, s₁.heap.get? b = some o → h'.get? b = some o) → Q' (.bool true) { s₁ with heap := h', toks := tk }) : wpAny (model (PW w).prog (PW w).w) callerA (call (.ref 97) [.ref L]) Q' E s₁ := by
  have gf : ∀ h, (∀ b o, s₁.heap.get? b = some o → h.get? b = some o) → (PW w).GF h := fun h hk b o e => hk b o (hkeep b o e)
  have ob : ∀ (k : Nat) (o : AO), [AO.list (sc.map .int)][k]? = some o → ∃ a, [L][k]? = some a ∧ RO [L] s₁.heap a o := fun k o hk => by
    cases k with
    | zero =>
      have e : AO.list (sc.map .int) = o := Option.some.inj hk
      subst e
      exact ⟨L, rfl, us, n, hobj, ints_rv hInts⟩
    | succ k => simp at hk
  exact fn_top (P := PW w) (n := 4) (fn_law w) (sc_law w) ((e_law w 4 c_dealt (h_law_dealt w)).t 0) (ad := [L]) (os := [.list (sc.map .int)]) (avs := [.ref 0]) (bs := [("script", .ref 0)]) (Q := fun a _ => a = .bool true) aOk (Nat.zero_le _) gf rfl (by simp) ob (.cons (.ref 0 L rfl) .nil) (bnd1 (bd_law w.params)) (okB_of kB_law) (law_ok' (Q := fun a _ => a = .bool true) hlen rfl fun _ => rfl)
    fun h' tk v ad' os' a hk r e => by
      subst e
      cases r with
      | bool => exact hQ h' tk hk
theorem law_holds : PySem.Challenge.rw_wo0024_03.Holds := by
  refine HE3 ?_
  intro w s₀ s₁ mg mb G Y fa o pm cd doc dV kV ho hd hcd hD hmg hg args vals as hL hpre hlay hrd hwl hlo
  wrow_args hpre hlay hrd hwl hlo
  rename_i sc _ _ _ _ _ asl as2 L us asx hList _ _ _ hInts _ hcond _
  have hkeep : ∀ b o, (hp1 w.params).get? b = some o → s₁.heap.get? b = some o := fun b o e => by
    have e0 : s₀.heap = hp1 w.params := congrArg Prod.fst Y
    exact hL.keeps b o (by rw [e0]; exact e)
  have hfa : fa = 97 := law_addr w hkeep G.T.g hmg
  subst hfa
  obtain ⟨ord, _, hlaid⟩ := hL.laid
  obtain ⟨n, hobj⟩ := lay_list (xs := sc) (us := us) (L := L) (by
    have e : (ofPy (PyData.list (List.map PyData.int sc))) = .list (sc.map fun i => .int i) := by
      show WData.list (ofPys (List.map PyData.int sc)) = _
      congr 1
      have : ∀ l : List Int, ofPys (l.map PyData.int) = l.map fun i => WData.int i := by
        intro l
        induction l with
        | nil => rfl
        | cons a r ih => show WData.int a :: ofPys (r.map PyData.int) = _; rw [ih]; rfl
      exact this sc
    rw [e] at hlaid
    exact hlaid) hList
  have hlen : sc.length ≤ 63 := by lia  
  refine law_call w hkeep hobj hInts hlen fun h' tk hk => ?_
  refine ⟨.inl ⟨.bool true, .bool true, [], rfl, fun _ => rfl, .bool true, ?_, fun _ => ⟨List.nodup_nil, fun _ h => by cases h⟩⟩, .of_keep hk, rfl, ?_⟩
  · kernel_rfl
  · show AllBare s₁.gens
    rw [hg]
    intro y hy
    simp at hy
end Mine
end P50
set_option maxRecDepth 100000 in
theorem PySem.Challenge.cw_wo0024_03_holds : PySem.Challenge.rw_wo0024_03.Holds :=
  Mine.law_holds
