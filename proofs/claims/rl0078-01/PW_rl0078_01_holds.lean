import PyProof.Rows.All
import Wide.All
import OpenK.AllK
import Wide.FinOn
import PySem.Challenge.RW_rl0078_01

open PySem PySem.W PyProof.Rows
set_option Elab.async false
set_option maxRecDepth 100000
set_option linter.unusedVariables false

open PySem.Calls

section
namespace Mine

inductive AV where
  | none
  | bool (b : Bool)
  | int (i : Int)
  | str (s : List Nat)
  | ref (l : Nat)
  | top (v : Value)

noncomputable def VR (as : List Addr) : AV → Value → Prop
  | .none, v => v = .none
  | .bool b, v => v = .bool b
  | .int i, v => ∃ t, v = .int i t
  | .str s, v => ∃ t, v = .str ⟨s.toArray⟩ t
  | .ref l, v => ∃ a, as[l]? = some a ∧ v = .ref a
  | .top x, v => v = x

inductive VRs (as : List Addr) : List AV → List Value → Prop
  | nil : VRs as [] []
  | cons {x v xs vs} : VR as x v → VRs as xs vs → VRs as (x :: xs) (v :: vs)

theorem get_append {as bs : List Addr} {l : Nat} {a : Addr} (h : as[l]? = some a) : (as ++ bs)[l]? = some a := by
  have hl : l < as.length := by
    rcases Nat.lt_or_ge l as.length with q | q
    · exact q
    · rw [List.getElem?_eq_none q] at h; cases h
  rw [List.getElem?_append_left hl]; exact h

theorem VR.mono {as bs : List Addr} {x : AV} {v : Value} (h : VR as x v) : VR (as ++ bs) x v := by
  cases x with
  | ref l => obtain ⟨a, e, rfl⟩ := h; exact ⟨a, get_append e, rfl⟩
  | _ => exact h
theorem VRs.mono {as bs : List Addr} {xs : List AV} {vs : List Value} (h : VRs as xs vs) : VRs (as ++ bs) xs vs := by
  induction h with
  | nil => exact .nil
  | cons a _ ih => exact .cons a.mono ih
theorem VRs.length {as : List Addr} {xs : List AV} {vs : List Value} (h : VRs as xs vs) : xs.length = vs.length := by
  induction h with
  | nil => rfl
  | cons _ _ ih => simp [ih]
theorem VRs.get {as : List Addr} {xs : List AV} {vs : List Value} (h : VRs as xs vs) : ∀ {i : Nat} {x : AV}, xs[i]? = some x → ∃ v, vs[i]? = some v ∧ VR as x v := by
  induction h with
  | nil => intro i x e; simp at e
  | @cons x v xs vs a _ ih =>
    intro i y e
    cases i with
    | zero => simp only [List.getElem?_cons_zero, Option.some.injEq] at e ⊢; exact ⟨v, rfl, e ▸ a⟩
    | succ i => simp only [List.getElem?_cons_succ] at e ⊢; exact ih e
theorem VRs.get_none {as : List Addr} {xs : List AV} {vs : List Value} (h : VRs as xs vs) {i : Nat} (e : xs[i]? = none) : vs[i]? = none := by
  rw [List.getElem?_eq_none_iff] at e ⊢; rw [← h.length]; exact e
theorem VRs.append {as : List Addr} {xs ys : List AV} {vs us : List Value} (h : VRs as xs vs) (g : VRs as ys us) : VRs as (xs ++ ys) (vs ++ us) := by
  induction h with
  | nil => exact g
  | cons a _ ih => exact .cons a ih
theorem VRs.one {as : List Addr} {x : AV} {v : Value} (h : VR as x v) : VRs as [x] [v] := .cons h .nil
theorem VRs.set {as : List Addr} {xs : List AV} {vs : List Value} (h : VRs as xs vs) {x : AV} {v : Value} (g : VR as x v) : ∀ i, VRs as (xs.set i x) (vs.set i v) := by
  induction h with
  | nil => intro i; exact .nil
  | cons a r ih => intro i; cases i with
    | zero => exact .cons g r
    | succ i => exact .cons a (ih i)
theorem VRs.take {as : List Addr} {xs : List AV} {vs : List Value} (h : VRs as xs vs) : ∀ i, VRs as (xs.take i) (vs.take i) := by
  induction h with
  | nil => intro i; simp; exact .nil
  | cons a r ih => intro i; cases i with
    | zero => exact .nil
    | succ i => exact .cons a (ih i)
theorem VRs.drop {as : List Addr} {xs : List AV} {vs : List Value} (h : VRs as xs vs) : ∀ i, VRs as (xs.drop i) (vs.drop i) := by
  induction h with
  | nil => intro i; simp; exact .nil
  | cons a r ih => intro i; cases i with
    | zero => exact .cons a r
    | succ i => exact ih i
theorem VRs.reverse {as : List Addr} {xs : List AV} {vs : List Value} (h : VRs as xs vs) : VRs as xs.reverse vs.reverse := by
  induction h with
  | nil => exact .nil
  | cons a _ ih => rw [List.reverse_cons, List.reverse_cons]; exact ih.append (.one a)

inductive ER (as : List Addr) : List (Str × AV) → List DictEntry → Prop
  | nil : ER as [] []
  | cons {n v hs t val fs es} : VR as v val → ER as fs es → ER as ((n, v) :: fs) (⟨hs, .str n t, val⟩ :: es)
theorem ER.mono {as bs : List Addr} {fs es} (h : ER as fs es) : ER (as ++ bs) fs es := by
  induction h with
  | nil => exact .nil
  | cons a _ ih => exact .cons a.mono ih

structure FnI where
  qual : Str
  params : Arguments
  body : Expr
  scope : Scope

inductive AO where
  | list (xs : List AV)
  | tuple (xs : List AV)
  | inst (C : Addr) (d : Nat)
  | dict (fs : List (Str × AV))
  | cell (v : Option AV)
  | meth (f : Addr) (self : AV)
  | citer (f : AV) (sent : AV)
  | cdone
  | lam (c : Nat) (cell : Nat)
    | fn (F : FnI) (cl : List (Str × Nat)) (code : Nat)
  | code (q : Str)
    | tab (t : Nat) (P : Addr) (fresh : Bool)
  | raw (P : Obj → Prop)

noncomputable def getC (x : Str) : List (Str × Nat) → Option Nat
  | [] => none
  | p :: r => if p.1 = x then some p.2 else getC x r
noncomputable def ClR (as : List Addr) (cl : List (Str × Nat)) (clos : List (Str × Addr)) : Prop := ∀ n l, getC n cl = some l → ∃ a : Addr, as[l]? = some a ∧ clos.lookup n = some a
theorem ClR.mono {as bs : List Addr} {cl clos} (h : ClR as cl clos) : ClR (as ++ bs) cl clos := fun n l e => let ⟨a, x, y⟩ := h n l e; ⟨a, get_append x, y⟩

noncomputable def OVR (as : List Addr) : Option AV → Option Value → Prop
  | none, v => v = none
  | some x, v => ∃ v', v = some v' ∧ VR as x v'

noncomputable def OR (LM : Nat → Addr → Obj → Prop) (as : List Addr) : AO → Obj → Prop
  | .list xs, o => ∃ vs n, o = listOf vs n ∧ VRs as xs vs.toList
  | .tuple xs, o => ∃ vs n, o = { cls := .type "tuple", data := .seq vs n } ∧ VRs as xs vs.toList
  | .inst C d, o => ∃ dx, as[d]? = some dx ∧ o = instObj C dx
  | .dict fs, o => ∃ es n, o = dictOf es n ∧ ER as fs es
  | .cell v, o => ∃ v', o.data = .cell v' ∧ OVR as v v'
  | .meth f self, o => ∃ s', VR as self s' ∧ o = methodObj (.ref f) s'
  | .citer f sent, o => ∃ f' s', VR as f f' ∧ VR as sent s' ∧ o = { cls := .type "callable_iterator", data := .fields #[f', s', .bool false] }
  | .cdone, o => o = { cls := .type "callable_iterator", data := .fields #[.none, .none, .bool true] }
  | .lam c l, o => ∃ a, as[l]? = some a ∧ LM c a o
  | .fn F cl cd, o => ∃ ca clos pm ctv, as[cd]? = some ca ∧ ClR as cl clos ∧ o = kla_obj "<lambda>" F.qual F.params F.body F.scope clos pm ca ctv
  | .code q, o => ∃ vs t, o.data = .fields vs ∧ vs[1]? = some (.str q t)
  | .tab t P fresh, o => as[t]? = some P ∧ ∃ ps, o = tabObj ps ∧ TriplesOk ps.toList ∧ (fresh = true → ps = #[])
  | .raw P, o => P o

variable {LM : Nat → Addr → Obj → Prop}
theorem OVR.mono {as bs : List Addr} {x v} (h : OVR as x v) : OVR (as ++ bs) x v := by
  cases x with
  | none => exact h
  | some x => obtain ⟨v', e, r⟩ := h; exact ⟨v', e, r.mono⟩
theorem OR.mono {as bs : List Addr} {x : AO} {o : Obj} (h : OR LM as x o) : OR LM (as ++ bs) x o := by
  cases x with
  | list => obtain ⟨vs, n, e, r⟩ := h; exact ⟨vs, n, e, r.mono⟩
  | tuple => obtain ⟨vs, n, e, r⟩ := h; exact ⟨vs, n, e, r.mono⟩
  | inst => obtain ⟨dx, e, r⟩ := h; exact ⟨dx, get_append e, r⟩
  | dict => obtain ⟨es, n, e, r⟩ := h; exact ⟨es, n, e, r.mono⟩
  | cell => obtain ⟨v', e, r⟩ := h; exact ⟨v', e, r.mono⟩
  | meth => obtain ⟨s', e, r⟩ := h; exact ⟨s', e.mono, r⟩
  | citer => obtain ⟨f', s', a, b, e⟩ := h; exact ⟨f', s', a.mono, b.mono, e⟩
  | cdone => exact h
  | lam => obtain ⟨a, e, r⟩ := h; exact ⟨a, get_append e, r⟩
  | fn => obtain ⟨ca, clos, pm, ctv, e, r, z⟩ := h; exact ⟨ca, clos, pm, ctv, get_append e, r.mono, z⟩
  | code => exact h
  | tab => obtain ⟨e, r⟩ := h; exact ⟨get_append e, r⟩
  | raw => exact h

noncomputable abbrev Lc := List (Str × AV)
noncomputable def getV (x : Str) : Lc → Option AV
  | [] => none
  | p :: r => if p.1 = x then some p.2 else getV x r
noncomputable def putV (x : Str) (v : AV) : Lc → Lc
  | [] => [(x, v)]
  | p :: r => if p.1 = x then (x, v) :: r else p :: putV x v r
theorem getV_putV (x : Str) (v : AV) (y : Str) : ∀ l : Lc, getV y (putV x v l) = if y = x then some v else getV y l
  | [] => by simp only [putV, getV]; by_cases h : x = y <;> simp [h, eq_comm]
  | p :: r => by
    simp only [putV]
    by_cases h : p.1 = x
    · rw [if_pos h]; simp only [getV]
      by_cases q : x = y
      · simp [q]
      · rw [if_neg q, if_neg (fun z => q z.symm), if_neg (fun z => q (h.symm.trans z))]
    · rw [if_neg h]; simp only [getV]
      rw [getV_putV x v y r]
      by_cases q : p.1 = y
      · rw [if_pos q, if_neg (fun z => h (q.trans z)), if_pos q]
      · rw [if_neg q]
        by_cases z : y = x
        · simp [z]
        · rw [if_neg z, if_neg z, if_neg q]

noncomputable def LR (as : List Addr) (lc : Lc) (m : Str → Option Value) : Prop := ∀ x v, getV x lc = some v → ∃ v', m x = some v' ∧ VR as v v'
theorem LR.mono {as bs : List Addr} {lc m} (h : LR as lc m) : LR (as ++ bs) lc m := fun x v e => let ⟨v', a, b⟩ := h x v e; ⟨v', a, b.mono⟩
theorem LR.put {as : List Addr} {lc m} (h : LR as lc m) {x : Str} {v : AV} {v' : Value} (r : VR as v v') : LR as (putV x v lc) (fun y => if y = x then some v' else m y) := by
  intro y u e
  rw [getV_putV] at e
  by_cases q : y = x
  · rw [if_pos q] at e; cases e; exact ⟨v', by simp [q], r⟩
  · rw [if_neg q] at e; obtain ⟨u', a, b⟩ := h y u e; exact ⟨u', by simp [q, a], b⟩

noncomputable def cut (h : Heap) (L : Addr) : Heap := ⟨h.objs.extract 0 L, h.life⟩
theorem cut_size (h : Heap) (L : Addr) : (cut h L).objs.size ≤ L := by simp [cut]; omega
theorem cut_arr (x : Array Obj) (L b : Nat) : (x.extract 0 L)[b]? = if b < L then x[b]? else none := by
  rw [Array.getElem?_extract]
  split
  · rename_i q
    rw [if_pos (by omega), Nat.zero_add]
  · rename_i q
    split
    · rw [Array.getElem?_eq_none (by omega)]
    · rfl
theorem cut_get (h : Heap) (L b : Addr) : (cut h L).get? b = if b < L then h.get? b else none := by
  unfold cut Heap.get?
  dsimp only
  rw [cut_arr]
  by_cases q : b < L
  · rw [if_pos q, if_pos q]
  · rw [if_neg q, if_neg q]
noncomputable def hi (h : Heap) (L : Addr) : List (Addr × Obj) := (List.range h.objs.size).filterMap fun b => if L < b then (h.get? b).map fun o => (b, o) else none
theorem mem_hi {h : Heap} {L b : Addr} {o : Obj} : (b, o) ∈ hi h L ↔ L < b ∧ h.get? b = some o := by
  unfold hi
  rw [List.mem_filterMap]
  constructor
  · rintro ⟨x, _, e⟩
    by_cases q : L < x
    · rw [if_pos q] at e
      obtain ⟨o', ho, z⟩ := Option.map_eq_some_iff.mp e
      cases z
      exact ⟨q, ho⟩
    · rw [if_neg q] at e; cases e
  · rintro ⟨q, ho⟩
    exact ⟨b, List.mem_range.mpr (Heap.lt_size ho), by rw [if_pos q, ho]; rfl⟩

structure St (LM : Nat → Addr → Obj → Prop) (base : Heap) (L : Addr) (as : List Addr) (σ : List AO) (lc : Lc) (h : Heap) : Prop where
  keep : ∀ b o, base.get? b = some o → h.get? b = some o
  lf : base.get? L = none
  lo : 191 ≤ L
  ns : ∃ m, h.Ns L m ∧ LR as lc m
  len : as.length = σ.length
  fresh : ∀ a ∈ as, base.get? a = none ∧ a ≠ L
  obj : ∀ (l : Nat) (a : Addr) (ao : AO), as[l]? = some a → σ[l]? = some ao → ∃ o, h.get? a = some o ∧ OR LM as ao o
  nd : as.Nodup

namespace St
variable {base h h' : Heap} {L : Addr} {as : List Addr} {σ : List AO} {lc : Lc}
theorem ne_L (S : St LM base L as σ lc h) {b : Addr} {o : Obj} (e : base.get? b = some o) : b ≠ L := fun z => by rw [z, S.lf] at e; cases e
theorem fr (S : St LM base L as σ lc h) : ∃ m, Fr (cut base L) L h m ∧ LR as lc m := by
  obtain ⟨m, n, r⟩ := S.ns
  refine ⟨m, ⟨n, fun b o e => ?_, cut_size _ _⟩, r⟩
  rw [cut_get] at e
  by_cases q : b < L
  · rw [if_pos q] at e; exact S.keep b o e
  · rw [if_neg q] at e; cases e
theorem addr (S : St LM base L as σ lc h) {l : Nat} {ao : AO} (e : σ[l]? = some ao) : ∃ a o, as[l]? = some a ∧ a ∈ as ∧ h.get? a = some o ∧ OR LM as ao o := by
  have hl : l < as.length := by
    rw [S.len]
    rcases Nat.lt_or_ge l σ.length with q | q
    · exact q
    · rw [List.getElem?_eq_none q] at e; cases e
  obtain ⟨o, ho, r⟩ := S.obj l as[l] ao (List.getElem?_eq_getElem hl) e
  exact ⟨as[l], o, List.getElem?_eq_getElem hl, List.getElem_mem hl, ho, r⟩
theorem at_ (S : St LM base L as σ lc h) {l : Nat} {a : Addr} {ao : AO} (ea : as[l]? = some a) (e : σ[l]? = some ao) : ∃ o, h.get? a = some o ∧ OR LM as ao o := S.obj l a ao ea e

theorem ext (S : St LM base L as σ lc h) (k : ∀ b o, h.get? b = some o → h'.get? b = some o) : St LM base L as σ lc h' where
  keep := fun b o e => k b o (S.keep b o e)
  lf := S.lf
  lo := S.lo
  ns := let ⟨m, n, r⟩ := S.ns; ⟨m, n.keeps k, r⟩
  len := S.len
  fresh := S.fresh
  obj := fun l a ao ea e => let ⟨o, ho, r⟩ := S.obj l a ao ea e; ⟨o, k _ _ ho, r⟩
  nd := S.nd

theorem alloc (S : St LM base L as σ lc h) {o : Obj} {ao : AO} (hf : o.isFreed = false) (r : OR LM (as ++ [h.objs.size]) ao o) : St LM base L (as ++ [h.objs.size]) (σ ++ [ao]) lc (h.push o) := by
  have kp : ∀ b o', h.get? b = some o' → (h.push o).get? b = some o' := fun b o' e => Heap.get?_push_of_some _ e
  have nm : h.objs.size ∉ as := fun q => by
    obtain ⟨l, hl, e⟩ := List.getElem_of_mem q
    have hs : l < σ.length := S.len ▸ hl
    obtain ⟨o', ho, _⟩ := S.obj l as[l] σ[l] (List.getElem?_eq_getElem hl) (List.getElem?_eq_getElem hs)
    rw [e] at ho
    exact absurd (Heap.lt_size ho) (Nat.lt_irrefl _)
  refine ⟨fun b o' e => kp _ _ (S.keep b o' e), S.lf, S.lo, ?_, by simp [S.len], ?_, ?_, ?_⟩
  · obtain ⟨m, n, q⟩ := S.ns; exact ⟨m, n.keeps kp, q.mono⟩
  · intro a ha
    rcases List.mem_append.mp ha with ha | ha
    · exact S.fresh a ha
    · have : a = h.objs.size := by simpa using ha
      subst this
      obtain ⟨m, ⟨oL, _, _, hL, _⟩, _⟩ := S.ns
      refine ⟨?_, Nat.ne_of_gt (Heap.lt_size hL)⟩
      cases q : base.get? h.objs.size with
      | none => rfl
      | some o' => exact absurd (Heap.lt_size (S.keep _ _ q)) (Nat.lt_irrefl _)
  · intro l a ao' ea e
    rcases Nat.lt_or_ge l as.length with q | q
    · rw [List.getElem?_append_left q] at ea
      rw [List.getElem?_append_left (S.len ▸ q)] at e
      obtain ⟨o', ho, r'⟩ := S.obj l a ao' ea e
      exact ⟨o', kp _ _ ho, r'.mono⟩
    · rw [List.getElem?_append_right q] at ea
      rw [List.getElem?_append_right (S.len ▸ q), ← S.len] at e
      have hl : l - as.length = 0 := by
        rcases Nat.eq_zero_or_pos (l - as.length) with z | z
        · exact z
        · rw [List.getElem?_eq_none (by simp; omega)] at ea; cases ea
      rw [hl] at ea e
      simp only [List.getElem?_cons_zero, Option.some.injEq] at ea e
      subst ea e
      exact ⟨o, Heap.get?_push_size _ hf, r⟩
  · exact List.nodup_append.mpr ⟨S.nd, by simp, fun a ha b hb => by simp at hb; subst hb; exact fun z => nm (z ▸ ha)⟩

theorem upd (S : St LM base L as σ lc h) {l : Nat} {a : Addr} {o : Obj} {ao : AO} (ea : as[l]? = some a) (hs : Heap.SameBut a h h') (ho : h'.get? a = some o) (r : OR LM as ao o) : St LM base L as (σ.set l ao) lc h' := by
  have hl : l < as.length := by
    rcases Nat.lt_or_ge l as.length with q | q
    · exact q
    · rw [List.getElem?_eq_none q] at ea; cases ea
  have hm : a ∈ as := by
    have := List.getElem?_eq_getElem hl; rw [this] at ea; cases ea; exact List.getElem_mem hl
  have fa := S.fresh a hm
  refine ⟨fun b o' e => (hs.2 b fun z => ?_).trans (S.keep b o' e), S.lf, S.lo, ?_, by simp [S.len], S.fresh, ?_, S.nd⟩
  · rw [z, fa.1] at e; cases e
  · obtain ⟨m, n, q⟩ := S.ns; exact ⟨m, n.sameBut hs (Ne.symm fa.2), q⟩
  · intro l' a' ao' ea' e
    by_cases hll : l' = l
    · subst hll
      rw [ea] at ea'; cases ea'
      rw [List.getElem?_set_self (S.len ▸ hl)] at e
      cases e
      exact ⟨o, ho, r⟩
    · rw [List.getElem?_set_ne (Ne.symm hll)] at e
      obtain ⟨o', ho', r'⟩ := S.obj l' a' ao' ea' e
      refine ⟨o', (hs.2 a' fun z => hll ?_).trans ho', r'⟩
      subst z
      have h1 : l' < as.length := by
        rcases Nat.lt_or_ge l' as.length with q | q
        · exact q
        · rw [List.getElem?_eq_none q] at ea'; cases ea'
      exact (List.getElem?_inj h1 S.nd).mp (ea'.trans ea.symm)

theorem store (S : St LM base L as σ lc h) {x : Str} {v : AV} {v' : Value} (r : VR as v v') (hm : ∀ m, h.Ns L m → h'.Ns L (fun y => if y = x then some v' else m y)) (hs : Heap.SameBut L h h') : St LM base L as σ (putV x v lc) h' := by
  refine ⟨fun b o' e => (hs.2 b fun z => ?_).trans (S.keep b o' e), S.lf, S.lo, ?_, S.len, S.fresh, ?_, S.nd⟩
  · exact S.ne_L e z
  · obtain ⟨m, n, q⟩ := S.ns; exact ⟨_, hm m n, q.put r⟩
  · intro l a ao ea e
    obtain ⟨o, ho, r'⟩ := S.obj l a ao ea e
    have : a ∈ as := by
      have hl : l < as.length := by
        rcases Nat.lt_or_ge l as.length with q | q
        · exact q
        · rw [List.getElem?_eq_none q] at ea; cases ea
      have := List.getElem?_eq_getElem hl; rw [this] at ea; cases ea; exact List.getElem_mem hl
    exact ⟨o, (hs.2 a (S.fresh a this).2).trans ho, r'⟩

noncomputable def rest (h : Heap) (L : Addr) (as : List Addr) : Heap := hideAll h (L :: as)
theorem rest_get {b : Addr} {o : Obj} (e : h.get? b = some o) (hL : b ≠ L) (ha : b ∉ as) : (rest h L as).get? b = some o :=
  hideAll_get _ e fun q => by rcases List.mem_cons.mp q with q | q; exact hL q; exact ha q
theorem rest_sub {b : Addr} {o : Obj} (e : (rest h L as).get? b = some o) : h.get? b = some o := of_hideAll _ e
theorem rest_none {b : Addr} (q : b = L ∨ b ∈ as) : (rest h L as).get? b = none := hideAll_none _ (by rcases q with rfl | q; exact .head _; exact .tail _ q)
theorem base_rest (S : St LM base L as σ lc h) {b : Addr} {o : Obj} (e : base.get? b = some o) : (rest h L as).get? b = some o :=
  rest_get (S.keep b o e) (S.ne_L e) (fun q => by rw [(S.fresh b q).1] at e; cases e)

theorem hi_news (S : St LM base L as σ lc h) : ∀ p ∈ hi base L, h.get? p.1 = some p.2 ∧ p.1 ≠ L ∧ (cut base L).get? p.1 = none := by
  rintro ⟨b, o⟩ hp
  have := mem_hi.mp hp
  refine ⟨S.keep _ _ this.2, Nat.ne_of_gt this.1, ?_⟩
  rw [cut_get, if_neg (Nat.not_lt.mpr (Nat.le_of_lt this.1))]
theorem led (S : St LM base L as σ lc h) : ∃ obs : List Obj, obs.length = as.length ∧ News (cut base L) L h (as.zip obs ++ hi base L) ∧ ∀ (l : Nat) (a : Addr) (ao : AO), as[l]? = some a → σ[l]? = some ao → ∃ o, obs[l]? = some o ∧ h.get? a = some o ∧ OR LM as ao o := by
  have hex : ∀ a ∈ as, ∃ o, h.get? a = some o := fun a ha => by
    obtain ⟨l, hl, e⟩ := List.getElem_of_mem ha
    have hs : l < σ.length := S.len ▸ hl
    obtain ⟨o, ho, _⟩ := S.obj l as[l] σ[l] (List.getElem?_eq_getElem hl) (List.getElem?_eq_getElem hs)
    exact ⟨o, e ▸ ho⟩
  refine ⟨as.map fun a => (h.get? a).getD default, by simp, ?_, ?_⟩
  · intro p hp
    rcases List.mem_append.mp hp with hp | hp
    · have h1 := (List.of_mem_zip (a := p.1) (b := p.2) hp).1
      obtain ⟨o, ho⟩ := hex _ h1
      have h2 : p.2 = (h.get? p.1).getD default := by
        obtain ⟨i, hi, e⟩ := List.getElem_of_mem hp
        simp only [List.getElem_zip, List.getElem_map] at e
        rw [← e]
      refine ⟨by rw [h2, ho]; rfl, (S.fresh _ h1).2, ?_⟩
      rw [cut_get, (S.fresh _ h1).1]; split <;> rfl
    · exact S.hi_news p hp
  · intro l a ao ea e
    obtain ⟨o, ho, r⟩ := S.obj l a ao ea e
    exact ⟨o, by simp [ea, ho], ho, r⟩
theorem zip_mem {obs : List Obj} {l : Nat} {a : Addr} {o : Obj} (ea : as[l]? = some a) (eo : obs[l]? = some o) : (a, o) ∈ as.zip obs := by
  refine List.mem_of_getElem? (i := l) ?_
  rw [List.getElem?_zip_eq_some]; exact ⟨ea, eo⟩
theorem upd_zip0 {o o' : Obj} {r : List (Addr × Obj)} : ∀ {as : List Addr} {obs : List Obj} {l : Nat} {a : Addr}, (∀ p ∈ r, p.1 ≠ a) → as.Nodup → obs.length = as.length → as[l]? = some a → obs[l]? = some o → Upd a o o' (as.zip obs ++ r) (as.zip (obs.set l o') ++ r)
  | [], _, _, _, _, _, _, ea, _ => by simp at ea
  | _ :: _, [], _, _, _, _, hl, _, _ => by simp at hl
  | b :: as, p :: obs, l, a, hr, nd, hl, ea, eo => by
    cases l with
    | zero =>
      simp only [List.getElem?_cons_zero, Option.some.injEq] at ea eo
      subst ea eo
      refine Upd.head fun q hq z => ?_
      rcases List.mem_append.mp hq with hq | hq
      · exact (List.nodup_cons.mp nd).1 (z ▸ (List.of_mem_zip (a := q.1) (b := q.2) hq).1)
      · exact hr q hq z
    | succ l =>
      simp only [List.getElem?_cons_succ] at ea eo
      refine Upd.tail (fun z => ?_) (upd_zip0 hr (List.nodup_cons.mp nd).2 (by simpa using hl) ea eo)
      have z' : b = a := z
      exact (List.nodup_cons.mp nd).1 (z' ▸ List.mem_of_getElem? ea)
theorem upd_zip (S : St LM base L as σ lc h) {obs : List Obj} {l : Nat} {a : Addr} {o o' : Obj} (hl : obs.length = as.length) (ea : as[l]? = some a) (eo : obs[l]? = some o) : Upd a o o' (as.zip obs ++ hi base L) (as.zip (obs.set l o') ++ hi base L) :=
  upd_zip0 (fun p hp z => by
    have := (mem_hi.mp (show (p.1, p.2) ∈ hi base L from hp)).2
    rw [z, (S.fresh a (List.mem_of_getElem? ea)).1] at this; cases this) S.nd hl ea eo
theorem keep_back (S : St LM base L as σ lc h) {m : Str → Option Value} (F : Fr (cut base L) L h' m) (N : ∀ p ∈ hi base L, h'.get? p.1 = some p.2) : ∀ b o, base.get? b = some o → h'.get? b = some o := by
  intro b o e
  rcases Nat.lt_trichotomy b L with q | q | q
  · exact F.keep b o (by rw [cut_get, if_pos q]; exact e)
  · exact absurd q (S.ne_L e)
  · exact N (b, o) (mem_hi.mpr ⟨q, e⟩)
theorem of_led (S : St LM base L as σ lc h) {obs : List Obj} {l : Nat} {ao : AO} {o' : Obj} {m : Str → Option Value} (hlen : obs.length = as.length)
    (hob : ∀ (l : Nat) (a : Addr) (ao : AO), as[l]? = some a → σ[l]? = some ao → ∃ o, obs[l]? = some o ∧ h.get? a = some o ∧ OR LM as ao o)
    (F : Fr (cut base L) L h' m) (lr : LR as lc m) (N : News (cut base L) L h' (as.zip (obs.set l o') ++ hi base L)) (r : OR LM as ao o') : St LM base L as (σ.set l ao) lc h' := by
  refine ⟨S.keep_back F fun p hp => (N p (List.mem_append_right _ hp)).1, S.lf, S.lo, ⟨m, F.ns, lr⟩, by simp [S.len], S.fresh, ?_, S.nd⟩
  intro l' a' ao' ea' e
  have hl' : l' < as.length := by
    rcases Nat.lt_or_ge l' as.length with q | q
    · exact q
    · rw [List.getElem?_eq_none q] at ea'; cases ea'
  by_cases q : l' = l
  · subst q
    rw [List.getElem?_set_self (S.len ▸ hl')] at e
    cases e
    exact ⟨o', (N _ (List.mem_append_left _ (zip_mem ea' (by rw [List.getElem?_set_self (hlen ▸ hl')])))).1, r⟩
  · rw [List.getElem?_set_ne (Ne.symm q)] at e
    obtain ⟨o, eo, ho, r'⟩ := hob l' a' ao' ea' e
    exact ⟨o, (N _ (List.mem_append_left _ (zip_mem ea' (by rw [List.getElem?_set_ne (Ne.symm q)]; exact eo)))).1, r'⟩
theorem of_led0 (S : St LM base L as σ lc h) {obs : List Obj} {m : Str → Option Value}
    (hob : ∀ (l : Nat) (a : Addr) (ao : AO), as[l]? = some a → σ[l]? = some ao → ∃ o, obs[l]? = some o ∧ h.get? a = some o ∧ OR LM as ao o)
    (F : Fr (cut base L) L h' m) (lr : LR as lc m) (N : News (cut base L) L h' (as.zip obs ++ hi base L)) : St LM base L as σ lc h' := by
  refine ⟨S.keep_back F fun p hp => (N p (List.mem_append_right _ hp)).1, S.lf, S.lo, ⟨m, F.ns, lr⟩, S.len, S.fresh, ?_, S.nd⟩
  intro l' a' ao' ea' e
  obtain ⟨o, eo, ho, r'⟩ := hob l' a' ao' ea' e
  exact ⟨o, (N _ (List.mem_append_left _ (zip_mem ea' eo))).1, r'⟩

theorem rebase (S : St LM base L as σ lc h) : St LM (rest h L as) L as σ lc h where
  keep := fun b o e => rest_sub e
  lf := rest_none (.inl rfl)
  lo := S.lo
  ns := S.ns
  len := S.len
  fresh := fun a ha => ⟨rest_none (.inr ha), (S.fresh a ha).2⟩
  obj := S.obj
  nd := S.nd
theorem back {h' : Heap} {bs : List Addr} {σ' : List AO} {lc' : Lc} (S : St LM base L as σ lc h) (S' : St LM (rest h L as) L (as ++ bs) σ' lc' h') : St LM base L (as ++ bs) σ' lc' h' where
  keep := fun b o e => S'.keep b o (S.base_rest e)
  lf := S.lf
  lo := S.lo
  ns := S'.ns
  len := S'.len
  fresh := fun a ha => by
    refine ⟨?_, (S'.fresh a ha).2⟩
    cases q : base.get? a with
    | none => rfl
    | some o => have := S.base_rest q; rw [(S'.fresh a ha).1] at this; cases this
  obj := S'.obj
  nd := S'.nd
end St
end Mine
end

section
namespace Mine

structure G where
  prog : Program
  w : World
  K : Frag
  mg : Str → Option Value
  mb : Str → Option Value
  LM : Nat → Addr → Obj → Prop
  gt : List (Str × Value)

noncomputable def getG (x : Str) : List (Str × Value) → Option Value
  | [] => none
  | p :: r => if p.1 = x then some p.2 else getG x r

structure TopF (g : G) (h : Heap) : Prop where
  kin : g.K.In h
  gl : h.Ns mainGlobals g.mg
  bi : h.Ns builtinsNs g.mb
  nolimit : h.NoLimit
  names : ∀ x v, getG x g.gt = some v → g.mg x = some v ∨ (g.mg x = none ∧ g.mb x = some v)
  low : ∀ a o, g.K.lookup a = some o → a < 191
  bm : ∃ bm ob, g.mg "__builtins__" = some (.ref bm) ∧ bm ≠ builtinsNs ∧ h.get? bm = some ob ∧ ob.cls = .type "module" ∧ ob.dict = some builtinsNs ∧ ob.data = .plain
theorem TopF.keeps {g : G} {h h' : Heap} (T : TopF g h) (k : ∀ b o, h.get? b = some o → h'.get? b = some o) : TopF g h' :=
  ⟨T.kin.keeps k, T.gl.keeps k, T.bi.keeps k, T.nolimit.keeps k, T.names, T.low, let ⟨bm, ob, a, b, c, d⟩ := T.bm; ⟨bm, ob, a, b, k _ _ c, d⟩⟩
theorem TopF.cut {g : G} {h : Heap} (T : TopF g h) {L : Addr} (hl : 191 ≤ L) : g.K.In (cut h L) := fun a o e => by
  rw [cut_get, if_pos (Nat.lt_of_lt_of_le (T.low a o e) hl)]; exact T.kin a o e

structure Cx where
  d : Nat
  sc : Scope
  cl : List (Str × Nat)
  cd : Option (Value × Str)

structure EnvR (as : List Addr) (c : Cx) (L : Addr) (env : Env) : Prop where
  scope : env.scope = c.sc
  kind : c.sc.kind = .function
  loc : env.locals = L
  cells : ∀ n l, getC n c.cl = some l → ∃ a : Addr, as[l]? = some a ∧ env.cells.lookup n = some a
  glob : env.globals = mainGlobals
  bi : env.builtins = builtinsNs
  code : ∀ v q, c.cd = some (v, q) → env.code = v ∧ env.qual = q
theorem EnvR.mono {as bs : List Addr} {c : Cx} {L : Addr} {env : Env} (h : EnvR as c L env) : EnvR (as ++ bs) c L env :=
  ⟨h.scope, h.kind, h.loc, fun n l e => let ⟨a, x, y⟩ := h.cells n l e; ⟨a, get_append x, y⟩, h.glob, h.bi, h.code⟩

structure Room (d : Nat) (A : Around) : Prop where
  handled : A.handled = none
  depth : A.depth + 8 * d ≤ 900
  units : A.units + 64 * d ≤ 9000

section
variable (g : G)
noncomputable abbrev MM := model g.prog g.w

noncomputable def Tri {β γ : Type} (base : Heap) (L : Addr) (as : List Addr) (lc : Lc) (s : Shared) (A : Around) (t : Sem β) (R : List Addr → γ → β → Prop) (k : γ → List AO → Prop) : Prop :=
  ∀ (Q : β → Shared → Prop) (E : Value → Shared → Prop), (∀ h' tk bs x b σ', k x σ' → St g.LM base L (as ++ bs) σ' lc h' → R (as ++ bs) x b → Q b { s with heap := h', toks := tk }) → wpAny (MM g) A t Q E s
noncomputable def TriS {β γ : Type} (base : Heap) (L : Addr) (as : List Addr) (s : Shared) (A : Around) (t : Sem β) (R : List Addr → γ → β → Prop) (k : γ → List AO → Lc → Prop) : Prop :=
  ∀ (Q : β → Shared → Prop) (E : Value → Shared → Prop), (∀ h' tk bs x b σ' lc', k x σ' lc' → St g.LM base L (as ++ bs) σ' lc' h' → R (as ++ bs) x b → Q b { s with heap := h', toks := tk }) → wpAny (MM g) A t Q E s

noncomputable def WE (c : Cx) (σ : List AO) (lc : Lc) (e : Expr) (k : AV → List AO → Prop) : Prop :=
  ∀ A env base L as s, Room c.d A → EnvR as c L env → TopF g base → St g.LM base L as σ lc s.heap → Tri g base L as lc s A (eval e env) VR k
noncomputable def BR (_ : List Addr) (x b : Bool) : Prop := b = x
noncomputable def WB (c : Cx) (σ : List AO) (lc : Lc) (e : Expr) (k : Bool → List AO → Prop) : Prop :=
  ∀ A env base L as s, Room c.d A → EnvR as c L env → TopF g base → St g.LM base L as σ lc s.heap → Tri g base L as lc s A (isTrue e env (eval e env)) BR k

inductive AF where
  | next | brk | cont
  | ret (v : AV)
noncomputable def FR (as : List Addr) : AF → Flow → Prop
  | .next, f => f = .next
  | .brk, f => f = .brk
  | .cont, f => f = .cont
  | .ret v, f => ∃ v', f = .ret v' ∧ VR as v v'
noncomputable def WS (c : Cx) (σ : List AO) (lc : Lc) (st : Stmt) (k : AF → List AO → Lc → Prop) : Prop :=
  ∀ A env base L as s, Room c.d A → EnvR as c L env → TopF g base → St g.LM base L as σ lc s.heap → TriS g base L as s A (exec st env) FR k
noncomputable def WSs (c : Cx) (σ : List AO) (lc : Lc) (st : List Stmt) (k : AF → List AO → Lc → Prop) : Prop :=
  ∀ A env base L as s, Room c.d A → EnvR as c L env → TopF g base → St g.LM base L as σ lc s.heap → TriS g base L as s A (execs st env) FR k

noncomputable def WV1 {β γ : Type} (d : Nat) (σ : List AO) (lc : Lc) (x : AV) (t : Value → Sem β) (R : List Addr → γ → β → Prop) (k : γ → List AO → Prop) : Prop :=
  ∀ A base L as s x', Room d A → TopF g base → St g.LM base L as σ lc s.heap → VR as x x' → Tri g base L as lc s A (t x') R k
noncomputable def WV2 {β γ : Type} (d : Nat) (σ : List AO) (lc : Lc) (x y : AV) (t : Value → Value → Sem β) (R : List Addr → γ → β → Prop) (k : γ → List AO → Prop) : Prop :=
  ∀ A base L as s x' y', Room d A → TopF g base → St g.LM base L as σ lc s.heap → VR as x x' → VR as y y' → Tri g base L as lc s A (t x' y') R k
noncomputable def WVs {β γ : Type} (d : Nat) (σ : List AO) (lc : Lc) (xs : List AV) (t : List Value → Sem β) (R : List Addr → γ → β → Prop) (k : γ → List AO → Prop) : Prop :=
  ∀ A base L as s xs', Room d A → TopF g base → St g.LM base L as σ lc s.heap → VRs as xs xs' → Tri g base L as lc s A (t xs') R k
noncomputable abbrev WBin (d : Nat) (σ : List AO) (lc : Lc) (op : Operator) (x y : AV) (k : AV → List AO → Prop) : Prop := WV2 g d σ lc x y (binaryOp op) VR k
noncomputable abbrev WCmp (d : Nat) (σ : List AO) (lc : Lc) (op : CmpOp) (x y : AV) (k : AV → List AO → Prop) : Prop := WV2 g d σ lc x y (compareOp op) VR k
noncomputable abbrev WTru (d : Nat) (σ : List AO) (lc : Lc) (x : AV) (k : Bool → List AO → Prop) : Prop := WV1 g d σ lc x truthy BR k
end

section
variable {g : G} {c : Cx} {σ : List AO} {lc : Lc} {β γ : Type} {base : Heap} {L : Addr} {as bs : List Addr} {s : Shared} {A : Around} {t : Sem β} {R : List Addr → γ → β → Prop}

theorem app_nil (as : List Addr) : as ++ [] = as := List.append_nil as
theorem Tri.here {x : γ} {b : β} {k : γ → List AO → Prop} (hk : k x σ) (S : St g.LM base L as σ lc s.heap) (r : R as x b)
    (h : ∀ (Q : β → Shared → Prop) (E : Value → Shared → Prop), (∀ tk, Q b { s with toks := tk }) → wpAny (MM g) A t Q E s) : Tri g base L as lc s A t R k :=
  fun Q E q => h Q E fun tk => q s.heap tk [] x b σ hk (by rw [app_nil]; exact S) (by rw [app_nil]; exact r)
theorem Tri.next {h' : Heap} {tk : Nat} {k : γ → List AO → Prop} {Q : β → Shared → Prop}
    (q : ∀ h' tk bs x b σ', k x σ' → St g.LM base L (as ++ bs) σ' lc h' → R (as ++ bs) x b → Q b { s with heap := h', toks := tk }) :
    ∀ h'' tk' cs x b σ', k x σ' → St g.LM base L ((as ++ bs) ++ cs) σ' lc h'' → R ((as ++ bs) ++ cs) x b → Q b { ({ s with heap := h', toks := tk } : Shared) with heap := h'', toks := tk' } :=
  fun h'' tk' cs x b σ' hk S r => q h'' tk' (bs ++ cs) x b σ' hk (by rw [← List.append_assoc]; exact S) (by rw [← List.append_assoc]; exact r)
theorem TriS.next {h' : Heap} {tk : Nat} {k : γ → List AO → Lc → Prop} {Q : β → Shared → Prop}
    (q : ∀ h' tk bs x b σ' lc', k x σ' lc' → St g.LM base L (as ++ bs) σ' lc' h' → R (as ++ bs) x b → Q b { s with heap := h', toks := tk }) :
    ∀ h'' tk' cs x b σ' lc', k x σ' lc' → St g.LM base L ((as ++ bs) ++ cs) σ' lc' h'' → R ((as ++ bs) ++ cs) x b → Q b { ({ s with heap := h', toks := tk } : Shared) with heap := h'', toks := tk' } :=
  fun h'' tk' cs x b σ' lc' hk S r => q h'' tk' (bs ++ cs) x b σ' lc' hk (by rw [← List.append_assoc]; exact S) (by rw [← List.append_assoc]; exact r)
theorem VR.ref_app {as : List Addr} {l : Nat} {v : Value} (h : VR as (.ref l) v) : ∃ a : Addr, as[l]? = some a ∧ v = .ref a := h

theorem we_int {i : Int} {n : Nat} {pos : Pos} {k : AV → List AO → Prop} (h : k (.int i) σ) : WE g c σ lc (.Constant (.int i) n pos) k :=
  fun _ _ _ _ _ _ _ _ _ S => Tri.here h S ⟨_, rfl⟩ fun _ _ q => wpAny_Constant_int (q _)
theorem we_str {x : Str} (l : List Nat) {n : Nat} {pos : Pos} {k : AV → List AO → Prop} (hx : x = ⟨l.toArray⟩) (h : k (.str l) σ) : WE g c σ lc (.Constant (.str x) n pos) k :=
  fun _ _ _ _ _ _ _ _ _ S => Tri.here h S ⟨_, rfl⟩ fun _ _ q => hx ▸ wpAny_Constant_str (q _)
theorem we_none {n : Nat} {pos : Pos} {k : AV → List AO → Prop} (h : k .none σ) : WE g c σ lc (.Constant .none n pos) k :=
  fun _ _ _ _ _ s _ _ _ S => Tri.here h S rfl fun _ _ q => wpAny_Constant_none (q s.toks)
theorem we_bool {b : Bool} {n : Nat} {pos : Pos} {k : AV → List AO → Prop} (h : k (.bool b) σ) : WE g c σ lc (.Constant (.bool b) n pos) k :=
  fun _ _ _ _ _ s _ _ _ S => Tri.here h S rfl fun _ _ q => wpAny_Constant_bool (q s.toks)

theorem kindOf_eq {env : Env} {as : List Addr} {L : Addr} (R : EnvR as c L env) {x : Str} {kd : Option NameKind} (h : c.sc.names.lookup x = kd) : env.kindOf x = kd := by
  show env.scope.names.lookup x = kd
  rw [R.scope]; exact h
theorem we_loc {x : Str} {pos : Pos} {v : AV} {k : AV → List AO → Prop} (hl : c.sc.names.lookup x = some .local) (hv : getV x lc = some v) (h : k v σ) (hd : (x == ("__debug__" : Str)) = false) :
    WE g c σ lc (.Name x pos) k := fun _ env _ L as s _ R _ S => by
  obtain ⟨m, n, lr⟩ := S.ns
  obtain ⟨v', e, r⟩ := lr x v hv
  refine Tri.here h S r fun Q E q => wpAny_Name (wpAny_loadName_local (m := m) (by rw [R.scope]; exact R.kind) (kindOf_eq R hl) (by rw [R.loc]; exact n) e (q s.toks)) hd
theorem we_cell {x : Str} {pos : Pos} {l : Nat} {v : AV} {k : AV → List AO → Prop} (hl : c.sc.names.lookup x = some .cell) (hc : getC x c.cl = some l) (ho : σ[l]? = some (.cell (some v))) (h : k v σ) (hd : (x == ("__debug__" : Str)) = false) :
    WE g c σ lc (.Name x pos) k := fun _ env _ L as s _ R _ S => by
  obtain ⟨a, ea, ec⟩ := R.cells x l hc
  obtain ⟨o, ho, v', hd', r⟩ := S.at_ ea ho
  obtain ⟨v'', rfl, r⟩ := r
  exact Tri.here h S r fun Q E q => wpAny_Name (wpAny_loadName_cell (by rw [R.scope]; exact R.kind) (kindOf_eq R hl) ec ⟨o, ho, hd'⟩ (q s.toks)) hd
theorem we_free {x : Str} {pos : Pos} {l : Nat} {v : AV} {k : AV → List AO → Prop} (hl : c.sc.names.lookup x = some .free) (hc : getC x c.cl = some l) (ho : σ[l]? = some (.cell (some v))) (h : k v σ) (hd : (x == ("__debug__" : Str)) = false)
    (hn : (x == ("__classdict__" : Str)) = false) : WE g c σ lc (.Name x pos) k := fun _ env _ L as s _ R _ S => by
  obtain ⟨a, ea, ec⟩ := R.cells x l hc
  obtain ⟨o, ho, v', hd', r⟩ := S.at_ ea ho
  obtain ⟨v'', rfl, r⟩ := r
  exact Tri.here h S r fun Q E q => wpAny_Name (wpAny_loadName_free (by rw [R.scope]; exact R.kind) (kindOf_eq R hl) ec ⟨o, ho, hd'⟩ (q s.toks) hn) hd
theorem we_glob {x : Str} {pos : Pos} {v : Value} {k : AV → List AO → Prop} (hl : c.sc.names.lookup x = some .globalImplicit) (hv : getG x g.gt = some v) (h : k (.top v) σ) (hd : (x == ("__debug__" : Str)) = false) :
    WE g c σ lc (.Name x pos) k := fun _ env base L as s _ R T S => by
  have T' := T.keeps S.keep
  refine Tri.here h S rfl fun Q E q => Name_function_global (by rw [R.scope]; exact R.kind) (kindOf_eq R hl) ?_ hd
  rcases T.names x v hv with e | ⟨e1, e2⟩
  · exact loadGlobal_global (by rw [R.glob]; exact T'.gl) e (q s.toks)
  · exact loadGlobal_builtin (by rw [R.glob]; exact T'.gl) e1 (by rw [R.bi]; exact T'.bi) e2 (q s.toks)

theorem we_bin {l r : Expr} {op : Operator} {pos : Pos} {k : AV → List AO → Prop} (h : WE g c σ lc l fun a σ₁ => WE g c σ₁ lc r fun b σ₂ => WBin g c.d σ₂ lc op a b k) : WE g c σ lc (.BinOp l op r pos) k :=
  fun A env base L as s Rm Re T S Q E q => wpAny_BinOp (h A env base L as s Rm Re T S _ E fun h₁ tk₁ bs a a' σ₁ hk S₁ ra =>
    hk A env base L (as ++ bs) _ Rm Re.mono T S₁ _ E fun h₂ tk₂ cs b b' σ₂ hk₂ S₂ rb =>
      hk₂ A base L (as ++ bs ++ cs) _ a' b' Rm T S₂ ra.mono rb Q E (Tri.next (s := { s with heap := h₁, toks := tk₁ }) (bs := cs) (Tri.next q)))
theorem we_cmp {l r : Expr} {op : CmpOp} {pos : Pos} {k : AV → List AO → Prop} (hm : behindInMarks op r = false) (h : WE g c σ lc l fun a σ₁ => WE g c σ₁ lc r fun b σ₂ => WCmp g c.d σ₂ lc op a b k) : WE g c σ lc (.Compare l [op] [r] pos) k :=
  fun A env base L as s Rm Re T S Q E q => wpAny_Compare1 (h A env base L as s Rm Re T S _ E fun h₁ tk₁ bs a a' σ₁ hk S₁ ra =>
    hk A env base L (as ++ bs) _ Rm Re.mono T S₁ _ E fun h₂ tk₂ cs b b' σ₂ hk₂ S₂ rb =>
      hk₂ A base L (as ++ bs ++ cs) _ a' b' Rm T S₂ ra.mono rb Q E (Tri.next (s := { s with heap := h₁, toks := tk₁ }) (bs := cs) (Tri.next q))) hm
theorem wb_cmp {l r : Expr} {op : CmpOp} {pos : Pos} {k : Bool → List AO → Prop} (hm : behindInMarks op r = false) (h : WE g c σ lc l fun a σ₁ => WE g c σ₁ lc r fun b σ₂ => WCmp g c.d σ₂ lc op a b fun x σ₃ => WTru g c.d σ₃ lc x k) : WB g c σ lc (.Compare l [op] [r] pos) k :=
  fun A env base L as s Rm Re T S Q E q => wpAny_isTrue_Compare1 (h A env base L as s Rm Re T S _ E fun h₁ tk₁ bs a a' σ₁ hk S₁ ra =>
    hk A env base L (as ++ bs) _ Rm Re.mono T S₁ _ E fun h₂ tk₂ cs b b' σ₂ hk₂ S₂ rb =>
      hk₂ A base L (as ++ bs ++ cs) _ a' b' Rm T S₂ ra.mono rb _ E fun h₃ tk₃ ds x x' σ₃ hk₃ S₃ rx =>
        hk₃ A base L (as ++ bs ++ cs ++ ds) _ x' Rm T S₃ rx Q E (Tri.next (s := { s with heap := h₂, toks := tk₂ }) (bs := ds) (Tri.next (s := { s with heap := h₁, toks := tk₁ }) (bs := cs) (Tri.next q)))) hm
theorem wb_val {e : Expr} {k : Bool → List AO → Prop} (he : ∀ env whole, isTrue e env whole = (do let v ← whole; standAt e.pos; holding [v] (truthy v))) (h : WE g c σ lc e fun a σ₁ => WTru g c.d σ₁ lc a k) : WB g c σ lc e k :=
  fun A env base L as s Rm Re T S Q E q => wpAny_isTrue_value (h A env base L as s Rm Re T S _ E fun h₁ tk₁ bs a a' σ₁ hk S₁ ra =>
    hk A base L (as ++ bs) _ a' Rm T S₁ ra Q E (Tri.next q)) (he _ _)
theorem wb_not {e : Expr} {pos : Pos} {k : Bool → List AO → Prop} (h : WB g c σ lc e fun b σ₁ => k (!b) σ₁) : WB g c σ lc (.UnaryOp .Not e pos) k :=
  fun A env base L as s Rm Re T S Q E q => wpAny_isTrue_Not (h A env base L as s Rm Re T S _ E fun h₁ tk₁ bs a a' σ₁ hk S₁ ra => q h₁ tk₁ bs _ _ σ₁ hk S₁ (by cases ra; rfl))
theorem wb_and2 {x y : Expr} {pos : Pos} {k : Bool → List AO → Prop} (h : WB g c σ lc x fun b σ₁ => if b then WB g c σ₁ lc y k else k false σ₁) : WB g c σ lc (.BoolOp .And [x, y] pos) k :=
  fun A env base L as s Rm Re T S Q E q => wpAny_isTrue_BoolOp (wpAny_allTrue_And_cons (h A env base L as s Rm Re T S _ E fun h₁ tk₁ bs a a' σ₁ hk S₁ ra => by
    cases ra
    cases a with
    | false => exact q h₁ tk₁ bs false false σ₁ hk S₁ rfl
    | true =>
      refine wpAny_allTrue_And_cons ((show WB g c σ₁ lc y k from hk) A env base L (as ++ bs) _ Rm Re.mono T S₁ _ E fun h₂ tk₂ cs b b' σ₂ hk₂ S₂ rb => ?_)
      cases rb
      have z := Tri.next (s := s) (bs := bs) (h' := h₁) (tk := tk₁) q h₂ tk₂ cs b b σ₂ hk₂ S₂ rfl
      cases b with
      | false => exact z
      | true => exact wpAny_allTrue_And_nil z))
theorem wb_or2 {x y : Expr} {pos : Pos} {k : Bool → List AO → Prop} (h : WB g c σ lc x fun b σ₁ => if b then k true σ₁ else WB g c σ₁ lc y k) : WB g c σ lc (.BoolOp .Or [x, y] pos) k :=
  fun A env base L as s Rm Re T S Q E q => wpAny_isTrue_BoolOp (wpAny_allTrue_Or_cons (h A env base L as s Rm Re T S _ E fun h₁ tk₁ bs a a' σ₁ hk S₁ ra => by
    cases ra
    cases a with
    | true => exact q h₁ tk₁ bs true true σ₁ hk S₁ rfl
    | false =>
      refine wpAny_allTrue_Or_cons ((show WB g c σ₁ lc y k from hk) A env base L (as ++ bs) _ Rm Re.mono T S₁ _ E fun h₂ tk₂ cs b b' σ₂ hk₂ S₂ rb => ?_)
      cases rb
      have z := Tri.next (s := s) (bs := bs) (h' := h₁) (tk := tk₁) q h₂ tk₂ cs b b σ₂ hk₂ S₂ rfl
      cases b with
      | true => exact z
      | false => exact wpAny_allTrue_Or_nil z))
theorem we_and2 {x y : Expr} {pos : Pos} {k : AV → List AO → Prop} (h : WE g c σ lc x fun a σ₁ => WTru g c.d σ₁ lc a fun b σ₂ => if b then WE g c σ₂ lc y k else k a σ₂) : WE g c σ lc (.BoolOp .And [x, y] pos) k :=
  fun A env base L as s Rm Re T S Q E q => wpAny_And2 (h A env base L as s Rm Re T S _ E fun h₁ tk₁ bs a a' σ₁ hk S₁ ra =>
    hk A base L (as ++ bs) _ a' Rm T S₁ ra _ E fun h₂ tk₂ cs b b' σ₂ hk₂ S₂ rb => by
      cases rb
      cases b with
      | false => exact Tri.next (s := s) (bs := bs) (h' := h₁) (tk := tk₁) q h₂ tk₂ cs a a' σ₂ hk₂ S₂ ra.mono
      | true => exact (show WE g c σ₂ lc y k from hk₂) A env base L (as ++ bs ++ cs) _ Rm Re.mono.mono T S₂ Q E (Tri.next (s := { s with heap := h₁, toks := tk₁ }) (bs := cs) (Tri.next q)))
theorem we_if {t x y : Expr} {pos : Pos} {k : AV → List AO → Prop} (h : WB g c σ lc t fun b σ₁ => if b then WE g c σ₁ lc x k else WE g c σ₁ lc y k) : WE g c σ lc (.IfExp t x y pos) k :=
  fun A env base L as s Rm Re T S Q E q => wpAny_IfExp (h A env base L as s Rm Re T S _ E fun h₁ tk₁ bs b b' σ₁ hk S₁ rb => by
    cases rb
    cases b with
    | false => exact (show WE g c σ₁ lc y k from hk) A env base L (as ++ bs) _ Rm Re.mono T S₁ Q E (Tri.next q)
    | true => exact (show WE g c σ₁ lc x k from hk) A env base L (as ++ bs) _ Rm Re.mono T S₁ Q E (Tri.next q))
end
end Mine
end

section
namespace Mine
section
variable {g : G} {c : Cx} {σ : List AO} {lc : Lc}

noncomputable def WN (g : G) (c : Cx) (σ : List AO) (lc : Lc) (x : Str) (v : AV) (k : List AO → Lc → Prop) : Prop :=
  ∀ A env base L as s v', Room c.d A → EnvR as c L env → TopF g base → St g.LM base L as σ lc s.heap → VR as v v' → TriS g base L as s A (storeName env x v') (fun _ _ _ => True) (fun (_ : Unit) σ' lc' => k σ' lc')
theorem wn_loc {x : Str} {v : AV} {k : List AO → Lc → Prop} (hl : c.sc.names.lookup x = some .local) (h : k σ (putV x v lc)) : WN g c σ lc x v k :=
  fun A env base L as s v' Rm Re T S r Q E q => by
    obtain ⟨m, n, lr⟩ := S.ns
    refine wpAny_storeName_local (m := m) (kindOf_eq Re hl) (by rw [Re.loc]; exact n) (fun h' hn hs => ?_) (by rw [Re.scope, Re.kind]; rfl)
    rw [Re.loc] at hn hs
    refine q h' _ [] () () σ (putV x v lc) h ?_ trivial
    rw [app_nil]
    refine ⟨fun b o e => (hs.2 b fun z => ?_).trans (S.keep b o e), S.lf, S.lo, ⟨_, hn, lr.put r⟩, S.len, S.fresh, ?_, S.nd⟩
    · exact S.ne_L e z
    · intro l a ao ea e
      obtain ⟨o, ho, r'⟩ := S.obj l a ao ea e
      exact ⟨o, (hs.2 a (S.fresh a (List.mem_of_getElem? ea)).2).trans ho, r'⟩
theorem wn_loc' {x : Str} {v : AV} {lc' : Lc} {k : List AO → Lc → Prop} (hl : c.sc.names.lookup x = some .local) (e : putV x v lc = lc') (h : k σ lc') : WN g c σ lc x v k := wn_loc hl (e ▸ h)
theorem wn_cell {x : Str} {v : AV} {l : Nat} {v₀ : Option AV} {k : List AO → Lc → Prop} (hl : c.sc.names.lookup x = some .cell) (hc : getC x c.cl = some l) (ho : σ[l]? = some (.cell v₀)) (h : k (σ.set l (.cell (some v))) lc) : WN g c σ lc x v k :=
  fun A env base L as s v' Rm Re T S r Q E q => by
    obtain ⟨a, ea, ec⟩ := Re.cells x l hc
    obtain ⟨o, ho, v₁, hd', r₁⟩ := S.at_ ea ho
    refine wpAny_storeName_cell (v₀ := v₁) (by rw [Re.scope]; exact Re.kind) (kindOf_eq Re hl) ec ⟨o, ho, hd'⟩ fun h' hc' hs => ?_
    obtain ⟨o', ho', hd''⟩ := hc'
    refine q h' _ [] () () _ lc h ?_ trivial
    rw [app_nil]
    exact S.upd ea hs ho' ⟨_, hd'', v', rfl, r⟩

theorem ws_assign {x : Str} {pos' pos : Pos} {e : Expr} {k : AF → List AO → Lc → Prop} (hs : ∀ env, swapsWith e (some (.Name x pos')) pos.line env = pure false) (h : WE g c σ lc e fun v σ₁ => WN g c σ₁ lc x v (k .next)) : WS g c σ lc (.Assign [.Name x pos'] e pos) k :=
  fun A env base L as s Rm Re T S Q E q => wpAny_Assign_Name (h A env base L as s Rm Re T S _ E fun h₁ tk₁ bs v v' σ₁ hk S₁ rv =>
    hk A env base L (as ++ bs) _ v' Rm Re.mono T S₁ rv _ E fun h₂ tk₂ cs u u' σ₂ lc₂ hk₂ S₂ _ =>
      TriS.next (s := s) (bs := bs) (h' := h₁) (tk := tk₁) q h₂ tk₂ cs .next .next σ₂ lc₂ hk₂ S₂ rfl) (hs env)
theorem ws_aug {x : Str} {pos' pos : Pos} {op : Operator} {e : Expr} {a : AV} {k : AF → List AO → Lc → Prop} (hl : c.sc.names.lookup x = some .local) (hv : getV x lc = some a)
    (h : WE g c σ lc e fun b σ₂ => WV2 g c.d σ₂ lc a b (inplaceOp op) VR fun r σ₃ => WN g c σ₃ lc x r (k .next)) : WS g c σ lc (.AugAssign (.Name x pos') op e pos) k :=
  fun A env base L as s Rm Re T S Q E q => by
    obtain ⟨m, n, lr⟩ := S.ns
    obtain ⟨a', ea, ra⟩ := lr x a hv
    refine wpAny_AugAssign_Name (wpAny_loadName_local (m := m) (by rw [Re.scope]; exact Re.kind) (kindOf_eq Re hl) (by rw [Re.loc]; exact n) ea ?_)
    exact h A env base L as s Rm Re T S _ E fun h₁ tk₁ bs b b' σ₁ hk S₁ rb =>
      hk A base L (as ++ bs) _ a' b' Rm T S₁ ra.mono rb _ E fun h₃ tk₃ ds r r' σ₃ hk₃ S₃ rr =>
        hk₃ A env base L (as ++ bs ++ ds) _ r' Rm Re.mono.mono T S₃ rr _ E fun h₄ tk₄ es u u' σ₄ lc₄ hk₄ S₄ _ =>
          TriS.next (s := { s with heap := h₁, toks := tk₁ }) (bs := ds) (TriS.next q) h₄ tk₄ es .next .next σ₄ lc₄ hk₄ S₄ rfl

theorem wss_nil {k : AF → List AO → Lc → Prop} (h : k .next σ lc) : WSs g c σ lc [] k :=
  fun A env base L as s Rm Re T S Q E q => wpAny_execs_nil (q s.heap s.toks [] .next .next σ lc h (by rw [app_nil]; exact S) rfl)
noncomputable def seqK (g : G) (c : Cx) (rest : List Stmt) (k : AF → List AO → Lc → Prop) (f : AF) (σ : List AO) (lc : Lc) : Prop := match f with
  | .next => WSs g c σ lc rest k
  | f => k f σ lc
theorem seq_next {rest : List Stmt} {k : AF → List AO → Lc → Prop} (h : WSs g c σ lc rest k) : seqK g c rest k .next σ lc := h
theorem seq_brk {rest : List Stmt} {k : AF → List AO → Lc → Prop} (h : k .brk σ lc) : seqK g c rest k .brk σ lc := h
theorem seq_cont {rest : List Stmt} {k : AF → List AO → Lc → Prop} (h : k .cont σ lc) : seqK g c rest k .cont σ lc := h
theorem seq_ret {rest : List Stmt} {v : AV} {k : AF → List AO → Lc → Prop} (h : k (.ret v) σ lc) : seqK g c rest k (.ret v) σ lc := h
theorem ite_yes {X Y : Prop} (h : X) : if true = true then X else Y := by simpa using h
theorem ite_no {X Y : Prop} (h : Y) : if false = true then X else Y := by simpa using h
theorem wss_cons {st : Stmt} {rest : List Stmt} {k : AF → List AO → Lc → Prop} (h : WS g c σ lc st (seqK g c rest k)) : WSs g c σ lc (st :: rest) k :=
  fun A env base L as s Rm Re T S Q E q => wpAny_execs_cons (h A env base L as s Rm Re T S _ E fun h₁ tk₁ bs f f' σ₁ lc₁ hk S₁ rf => by
    cases f with
    | next => cases rf; exact (show WSs g c σ₁ lc₁ rest k from hk) A env base L (as ++ bs) _ Rm Re.mono T S₁ Q E (TriS.next q)
    | brk => cases rf; exact q h₁ tk₁ bs .brk .brk σ₁ lc₁ hk S₁ rfl
    | cont => cases rf; exact q h₁ tk₁ bs .cont .cont σ₁ lc₁ hk S₁ rfl
    | ret v => obtain ⟨v', rfl, rv⟩ := rf; exact q h₁ tk₁ bs (.ret v) _ σ₁ lc₁ hk S₁ ⟨v', rfl, rv⟩)
theorem ws_if {t : Expr} {x y : List Stmt} {pos : Pos} {k : AF → List AO → Lc → Prop} (h : WB g c σ lc t fun b σ₁ => if b then WSs g c σ₁ lc x k else WSs g c σ₁ lc y k) : WS g c σ lc (.If t x y pos) k :=
  fun A env base L as s Rm Re T S Q E q => wpAny_If (h A env base L as s Rm Re T S _ E fun h₁ tk₁ bs b b' σ₁ hk S₁ rb => by
    cases rb
    cases b with
    | false => exact (show WSs g c σ₁ lc y k from hk) A env base L (as ++ bs) _ Rm Re.mono T S₁ Q E (TriS.next q)
    | true => exact (show WSs g c σ₁ lc x k from hk) A env base L (as ++ bs) _ Rm Re.mono T S₁ Q E (TriS.next q))
theorem ws_ret {e : Expr} {pos : Pos} {k : AF → List AO → Lc → Prop} (h : WE g c σ lc e fun v σ₁ => k (.ret v) σ₁ lc) : WS g c σ lc (.Return (some e) pos) k :=
  fun A env base L as s Rm Re T S Q E q => wpAny_Return_some (h A env base L as s Rm Re T S _ E fun h₁ tk₁ bs v v' σ₁ hk S₁ rv => q h₁ tk₁ bs (.ret v) _ σ₁ lc hk S₁ ⟨v', rfl, rv⟩)
theorem ws_break {pos : Pos} {k : AF → List AO → Lc → Prop} (h : k .brk σ lc) : WS g c σ lc (.Break pos) k :=
  fun A env base L as s Rm Re T S Q E q => wpAny_Break (q s.heap s.toks [] .brk .brk σ lc h (by rw [app_nil]; exact S) rfl)
theorem ws_cont {pos : Pos} {k : AF → List AO → Lc → Prop} (h : k .cont σ lc) : WS g c σ lc (.Continue pos) k :=
  fun A env base L as s Rm Re T S Q E q => wpAny_Continue (q s.heap s.toks [] .cont .cont σ lc h (by rw [app_nil]; exact S) rfl)
theorem ws_expr {e : Expr} {pos : Pos} {k : AF → List AO → Lc → Prop} (hi : c.sc.kind = .function) (hs : ∀ env, swapsWith e none pos.line env = pure false) (h : WE g c σ lc e fun _ σ₁ => k .next σ₁ lc) : WS g c σ lc (.Expr e pos) k :=
  fun A env base L as s Rm Re T S Q E q => wpAny_Expr_any (h A env base L as s Rm Re T S _ E fun h₁ tk₁ bs v v' σ₁ hk S₁ rv => q h₁ tk₁ bs .next _ σ₁ lc hk S₁ rfl)
    (by show (env.scope.kind == .module && _) = false; rw [Re.scope, hi]; rfl) (hs env)

variable {d : Nat}
theorem bin_add_int {a b : Int} {k : AV → List AO → Prop} (h : k (.int (a + b)) σ) : WBin g d σ lc .Add (.int a) (.int b) k := by
  rintro A base L as s _ _ Rm T S ⟨t, rfl⟩ ⟨u, rfl⟩
  exact Tri.here h S ⟨_, rfl⟩ fun Q E q => P.add_int (q _)
theorem bin_sub_int {a b : Int} {k : AV → List AO → Prop} (h : k (.int (a - b)) σ) : WBin g d σ lc .Sub (.int a) (.int b) k := by
  rintro A base L as s _ _ Rm T S ⟨t, rfl⟩ ⟨u, rfl⟩
  exact Tri.here h S ⟨_, rfl⟩ fun Q E q => P.sub_int (q _)
theorem bin_mul_int {a b : Int} {k : AV → List AO → Prop} (hm : IntMulOk a b) (h : k (.int (a * b)) σ) : WBin g d σ lc .Mult (.int a) (.int b) k := by
  rintro A base L as s _ _ Rm T S ⟨t, rfl⟩ ⟨u, rfl⟩
  exact Tri.here h S ⟨_, rfl⟩ fun Q E q => P.mul_int (q _) hm
theorem bin_div_int {a b : Int} {k : AV → List AO → Prop} (h0 : 0 < b) (hb : b < 1000000000) (h : k (.int (a / b)) σ) : WBin g d σ lc .FloorDiv (.int a) (.int b) k := by
  rintro A base L as s _ _ Rm T S ⟨t, rfl⟩ ⟨u, rfl⟩
  refine Tri.here h S ⟨s.toks, rfl⟩ fun Q E q => PyProof.Rows.floordiv_int (by omega) ?_ (Or.inl (PyProof.noPylong_small (by omega)))
  rw [Int.fdiv_eq_ediv_of_nonneg _ (by omega)]; exact q _
theorem bin_mod_int {a b : Int} {k : AV → List AO → Prop} (h0 : 0 < b) (h : k (.int (a % b)) σ) : WBin g d σ lc .Mod (.int a) (.int b) k := by
  rintro A base L as s _ _ Rm T S ⟨t, rfl⟩ ⟨u, rfl⟩
  refine Tri.here h S ⟨s.toks, rfl⟩ fun Q E q => PyProof.Rows.mod_int' (by omega) ?_
  rw [Int.fmod_eq_emod_of_nonneg _ (by omega)]; exact q _
theorem bin_pow_int {a n : Int} {k : AV → List AO → Prop} (hn : 0 ≤ n) (hsz : (Builtin.Int.intBits a : Int) * n ≤ 2 ^ 27) (h : k (.int (a ^ n.toNat)) σ) : WBin g d σ lc .Pow (.int a) (.int n) k := by
  rintro A base L as s _ _ Rm T S ⟨t, rfl⟩ ⟨u, rfl⟩
  exact Tri.here h S ⟨_, rfl⟩ fun Q E q => PyProof.Rows.pow_int hn hsz (q _)
theorem bin_shr_int {a n : Int} {k : AV → List AO → Prop} (hn : 0 ≤ n) (h : k (.int (a / 2 ^ n.toNat)) σ) : WBin g d σ lc .RShift (.int a) (.int n) k := by
  rintro A base L as s _ _ Rm T S ⟨t, rfl⟩ ⟨u, rfl⟩
  refine Tri.here h S ⟨s.toks, rfl⟩ fun Q E q => PyProof.Rows.rshift_int hn ?_
  rw [Int.fdiv_eq_ediv_of_nonneg _ (Int.le_of_lt (Int.pow_pos (by decide)))]; exact q _
theorem bin_and_int {a b : Int} {k : AV → List AO → Prop} (h : k (.int (Builtin.bitAnd a b)) σ) : WBin g d σ lc .BitAnd (.int a) (.int b) k := by
  rintro A base L as s _ _ Rm T S ⟨t, rfl⟩ ⟨u, rfl⟩
  exact Tri.here h S ⟨_, rfl⟩ fun Q E q => PyProof.Rows.and_int (q _)
theorem str_app (x y : List Nat) : (⟨x.toArray⟩ : Str) ++ (⟨y.toArray⟩ : Str) = ⟨(x ++ y).toArray⟩ := by
  show Str.append _ _ = _
  simp [Str.append]
theorem str_len (x : List Nat) : Str.length ⟨x.toArray⟩ = x.length := by simp [Str.length]
theorem add_str_post {x y : List Nat} {t u : Tok} {s : Shared} {Q : Value → Shared → Prop} (hz : (x ++ y).length ≤ sizeLine) (q : ∀ t tk, Q (.str ⟨(x ++ y).toArray⟩ t) { s with toks := tk }) :
    (if Str.length ⟨x.toArray⟩ == 0 then Made.val (.str ⟨y.toArray⟩ u) else if Str.length ⟨y.toArray⟩ == 0 then Made.val (.str ⟨x.toArray⟩ t) else Made.str ((⟨x.toArray⟩ : Str) ++ ⟨y.toArray⟩)).post Q s := by
  rw [str_len, str_len, str_app]
  split
  · rename_i e
    have : x = [] := List.length_eq_zero_iff.mp (by simpa using e)
    subst this
    exact q u s.toks
  · split
    · rename_i e
      have : y = [] := List.length_eq_zero_iff.mp (by simpa using e)
      subst this
      have := q t s.toks
      rw [List.append_nil] at this
      exact this
    · exact ⟨by rw [str_len]; exact hz, q _ _⟩
theorem bin_add_str {x y : List Nat} {k : AV → List AO → Prop} (hz : (x ++ y).length ≤ sizeLine) (h : k (.str (x ++ y)) σ) : WBin g d σ lc .Add (.str x) (.str y) k := by
  rintro A base L as s _ _ Rm T S ⟨t, rfl⟩ ⟨u, rfl⟩
  exact fun Q E q => P.add_str (add_str_post hz fun t tk => q s.heap tk [] (.str (x ++ y)) _ σ h (by rw [app_nil]; exact S) ⟨t, rfl⟩)
theorem iadd_str {x y : List Nat} {k : AV → List AO → Prop} (hz : (x ++ y).length ≤ sizeLine) (h : k (.str (x ++ y)) σ) : WV2 g d σ lc (.str x) (.str y) (inplaceOp .Add) VR k := by
  rintro A base L as s _ _ Rm T S ⟨t, rfl⟩ ⟨u, rfl⟩
  exact fun Q E q => P.iadd_str (add_str_post hz fun t tk => q s.heap tk [] (.str (x ++ y)) _ σ h (by rw [app_nil]; exact S) ⟨t, rfl⟩)
theorem cmp_eq_str {x y : List Nat} {k : AV → List AO → Prop} (h : k (.bool (x == y)) σ) : WCmp g d σ lc .Eq (.str x) (.str y) k := by
  rintro A base L as s _ _ Rm T S ⟨t, rfl⟩ ⟨u, rfl⟩
  exact Tri.here h S rfl fun Q E q => P.eq_str (q s.toks)
theorem cmp_ne_str {x y : List Nat} {k : AV → List AO → Prop} (h : k (.bool (x != y)) σ) : WCmp g d σ lc .NotEq (.str x) (.str y) k := by
  rintro A base L as s _ _ Rm T S ⟨t, rfl⟩ ⟨u, rfl⟩
  exact Tri.here h S rfl fun Q E q => P.ne_str (q s.toks)
theorem cmp_eq_int {a b : Int} {k : AV → List AO → Prop} (h : k (.bool (a == b)) σ) : WCmp g d σ lc .Eq (.int a) (.int b) k := by
  rintro A base L as s _ _ Rm T S ⟨t, rfl⟩ ⟨u, rfl⟩
  exact Tri.here h S rfl fun Q E q => P.eq_int (q s.toks)
theorem cmp_lt_int {a b : Int} {k : AV → List AO → Prop} (h : k (.bool (decide (a < b))) σ) : WCmp g d σ lc .Lt (.int a) (.int b) k := by
  rintro A base L as s _ _ Rm T S ⟨t, rfl⟩ ⟨u, rfl⟩
  exact Tri.here h S rfl fun Q E q => P.lt_int (q s.toks)
theorem cmp_gt_int {a b : Int} {k : AV → List AO → Prop} (h : k (.bool (decide (a > b))) σ) : WCmp g d σ lc .Gt (.int a) (.int b) k := by
  rintro A base L as s _ _ Rm T S ⟨t, rfl⟩ ⟨u, rfl⟩
  exact Tri.here h S rfl fun Q E q => P.gt_int (q s.toks)
theorem cmp_ge_int {a b : Int} {k : AV → List AO → Prop} (h : k (.bool (decide (a ≥ b))) σ) : WCmp g d σ lc .GtE (.int a) (.int b) k := by
  rintro A base L as s _ _ Rm T S ⟨t, rfl⟩ ⟨u, rfl⟩
  exact Tri.here h S rfl fun Q E q => P.ge_int (q s.toks)
theorem cmp_le_int {a b : Int} {k : AV → List AO → Prop} (h : k (.bool (decide (a ≤ b))) σ) : WCmp g d σ lc .LtE (.int a) (.int b) k := by
  rintro A base L as s _ _ Rm T S ⟨t, rfl⟩ ⟨u, rfl⟩
  exact Tri.here h S rfl fun Q E q => P.le_int (q s.toks)
theorem tru_bool {b : Bool} {k : Bool → List AO → Prop} (h : k b σ) : WTru g d σ lc (.bool b) k := by
  rintro A base L as s _ Rm T S rfl
  exact Tri.here h S rfl fun Q E q => wpAny_truthy_bool (q s.toks)
theorem tru_int {a : Int} {k : Bool → List AO → Prop} (h : k (a != 0) σ) : WTru g d σ lc (.int a) k := by
  rintro A base L as s _ Rm T S ⟨t, rfl⟩
  exact Tri.here h S rfl fun Q E q => P.truthy_int (q s.toks)
theorem isList_of {xs : List AV} {as : List Addr} {o : Obj} {LM} {h : Heap} {a : Addr} (ho : h.get? a = some o) (r : OR LM as (.list xs) o) : ∃ vs : Array Value, h.IsList a vs ∧ VRs as xs vs.toList := by
  obtain ⟨vs, n, rfl, q⟩ := r
  exact ⟨vs, ⟨_, ho, rfl, n, rfl⟩, q⟩
theorem tru_list {l : Nat} {xs : List AV} {k : Bool → List AO → Prop} (ho : σ[l]? = some (.list xs)) (hz : xs.length ≤ sizeLine) (h : k (!xs.isEmpty) σ) : WTru g d σ lc (.ref l) k := by
  rintro A base L as s _ Rm T S ⟨a, ea, rfl⟩
  obtain ⟨o, hg, r⟩ := S.at_ ea ho
  obtain ⟨vs, il, q⟩ := isList_of hg r
  have hlen : vs.size = xs.length := by rw [q.length]; simp
  refine Tri.here (x := !xs.isEmpty) (b := !vs.isEmpty) h S ?_ fun Q E q' => wpAny_truthy_list il (by rw [hlen]; have : xs.length ≤ 2 ^ 24 := hz; omega) (q' _)
  show (!vs.isEmpty) = !xs.isEmpty
  congr 1
  rw [Bool.eq_iff_iff]
  simp [Array.isEmpty, hlen, List.isEmpty_iff]
end
end Mine
end

section
namespace Mine
section
variable {g : G} {c : Cx} {σ : List AO} {lc : Lc} {d : Nat}

theorem Tri.grown {β γ : Type} {base : Heap} {L : Addr} {as : List Addr} {s : Shared} {A : Around} {t : Sem β} {R : List Addr → γ → β → Prop} {x : γ} {b : β} {k : γ → List AO → Prop} (hk : k x σ) (S : St g.LM base L as σ lc s.heap) (r : R as x b)
    (h : ∀ (Q : β → Shared → Prop) (E : Value → Shared → Prop), (∀ h' tk, (∀ b o, s.heap.get? b = some o → h'.get? b = some o) → Q b { s with heap := h', toks := tk }) → wpAny (MM g) A t Q E s) : Tri g base L as lc s A t R k :=
  fun Q E q => h Q E fun h' tk kp => q h' tk [] x b σ hk (by rw [app_nil]; exact S.ext kp) (by rw [app_nil]; exact r)
theorem Tri.made {β γ : Type} {base : Heap} {L : Addr} {as : List Addr} {s : Shared} {A : Around} {t : Sem β} {R : List Addr → γ → β → Prop} {x : γ} {b : β} {k : γ → List AO → Prop} {o : Obj} {ao : AO} (hk : k x (σ ++ [ao])) (S : St g.LM base L as σ lc s.heap)
    (ro : OR g.LM (as ++ [s.heap.objs.size]) ao o) (hf : o.isFreed = false) (r : R (as ++ [s.heap.objs.size]) x b)
    (h : ∀ (Q : β → Shared → Prop) (E : Value → Shared → Prop), (∀ tk, Q b { s with heap := s.heap.push o, toks := tk }) → wpAny (MM g) A t Q E s) : Tri g base L as lc s A t R k :=
  fun Q E q => h Q E fun tk => q _ tk [s.heap.objs.size] x b _ hk (S.alloc hf ro) r
theorem new_ref {as : List Addr} {a : Addr} {σ : List AO} (h : as.length = σ.length) : (as ++ [a])[σ.length]? = some a := by rw [← h]; simp

noncomputable def WEs (g : G) (c : Cx) (σ : List AO) (lc : Lc) (es : List Expr) (k : List AV → List AO → Prop) : Prop :=
  ∀ A env base L as s pos, Room c.d A → EnvR as c L env → TopF g base → St g.LM base L as σ lc s.heap → Tri g base L as lc s A (spliced (backTo pos (starEach es env))) VRs k
theorem wes_nil {k : List AV → List AO → Prop} (h : k [] σ) : WEs g c σ lc [] k :=
  fun A env base L as s pos Rm Re T S Q E q => spliced_nil (q s.heap s.toks [] [] [] σ h (by rw [app_nil]; exact S) .nil)
theorem wes_cons {e : Expr} {es : List Expr} {k : List AV → List AO → Prop} (he : ∀ env, starEach (e :: es) env = (false, eval e env) :: starEach es env) (h : WE g c σ lc e fun v σ₁ => WEs g c σ₁ lc es fun vs σ₂ => k (v :: vs) σ₂) : WEs g c σ lc (e :: es) k :=
  fun A env base L as s pos Rm Re T S Q E q => by
    rw [he]
    show wpAny _ _ (spliced ((false, eval e env) :: backTo pos (starEach es env))) _ _ _
    refine spliced_cons (h A env base L as s Rm Re T S _ E fun h₁ tk₁ bs v v' σ₁ hk S₁ rv => ?_)
    exact hk A env base L (as ++ bs) _ pos Rm Re.mono T S₁ _ E fun h₂ tk₂ cs vs vs' σ₂ hk₂ S₂ rvs =>
      Tri.next (s := s) (bs := bs) (h' := h₁) (tk := tk₁) q h₂ tk₂ cs (v :: vs) (v' :: vs') σ₂ hk₂ S₂ (.cons rv.mono rvs)
theorem newList_tri {base : Heap} {L : Addr} {as : List Addr} {s : Shared} {A : Around} {vs : List AV} {vs' : List Value} {k : AV → List AO → Prop} (hz : vs.length ≤ sizeLine) (h : k (.ref σ.length) (σ ++ [.list vs])) (S : St g.LM base L as σ lc s.heap) (rv : VRs as vs vs') :
    Tri g base L as lc s A (newList vs') VR k :=
  Tri.made h S ⟨vs'.toArray, _, rfl, by simpa using rv.mono⟩ rfl ⟨_, new_ref S.len, rfl⟩ fun Q E q => wpAny_newList (q _) (by rw [← rv.length]; exact hz)
theorem newTuple_tri {base : Heap} {L : Addr} {as : List Addr} {s : Shared} {A : Around} {vs : List AV} {vs' : List Value} {k : AV → List AO → Prop} (hz : vs.length ≤ sizeLine) (h : k (.ref σ.length) (σ ++ [.tuple vs])) (S : St g.LM base L as σ lc s.heap) (rv : VRs as vs vs') :
    Tri g base L as lc s A (newTuple vs') VR k :=
  Tri.made h S ⟨vs'.toArray, _, rfl, by simpa using rv.mono⟩ rfl ⟨_, new_ref S.len, rfl⟩ fun Q E q => wpAny_newTuple (q _) (by rw [← rv.length]; exact hz)
theorem we_list {es : List Expr} {pos : Pos} {k : AV → List AO → Prop} (h : WEs g c σ lc es fun vs σ₁ => vs.length ≤ sizeLine ∧ k (.ref σ₁.length) (σ₁ ++ [.list vs])) : WE g c σ lc (.List es pos) k :=
  fun A env base L as s Rm Re T S Q E q => List_ (h A env base L as s pos Rm Re T S _ E fun h₁ tk₁ bs vs vs' σ₁ hk S₁ rv =>
    newList_tri hk.1 hk.2 S₁ rv Q E (Tri.next q))
theorem we_tuple {es : List Expr} {n : Nat} {pos : Pos} {k : AV → List AO → Prop} (h : WEs g c σ lc es fun vs σ₁ => vs.length ≤ sizeLine ∧ k (.ref σ₁.length) (σ₁ ++ [.tuple vs])) : WE g c σ lc (.Tuple es n pos) k :=
  fun A env base L as s Rm Re T S Q E q => Tuple_ (h A env base L as s pos Rm Re T S _ E fun h₁ tk₁ bs vs vs' σ₁ hk S₁ rv =>
    newTuple_tri hk.1 hk.2 S₁ rv Q E (Tri.next q))

theorem we_sub {value slice : Expr} {pos : Pos} {k : AV → List AO → Prop} (h : WE g c σ lc value fun o σ₁ => WE g c σ₁ lc slice fun i σ₂ => WV2 g c.d σ₂ lc o i (subscriptTail value slice) VR k) : WE g c σ lc (.Subscript value slice pos) k :=
  fun A env base L as s Rm Re T S Q E q => Subscript_ (h A env base L as s Rm Re T S _ E fun h₁ tk₁ bs o o' σ₁ hk S₁ ro =>
    hk A env base L (as ++ bs) _ Rm Re.mono T S₁ _ E fun h₂ tk₂ cs i i' σ₂ hk₂ S₂ ri =>
      hk₂ A base L (as ++ bs ++ cs) _ o' i' Rm T S₂ ro.mono ri Q E (Tri.next (s := { s with heap := h₁, toks := tk₁ }) (bs := cs) (Tri.next q)))
theorem sub_list {value slice : Expr} {l : Nat} {xs : List AV} {i : Int} {x : AV} {k : AV → List AO → Prop} (ho : σ[l]? = some (.list xs)) (h0 : 0 ≤ i) (hi : i < 2 ^ 63) (hx : xs[i.toNat]? = some x) (h : k x σ)
    (hs : ∀ o i, subscripted slice false o i = operate [o, i] (getItem o i)) : WV2 g d σ lc (.ref l) (.int i) (subscriptTail value slice) VR k := by
  rintro A base L as s _ _ Rm T S ⟨a, ea, rfl⟩ ⟨t, rfl⟩
  obtain ⟨o, hg, r⟩ := S.at_ ea ho
  obtain ⟨vs, il, q⟩ := isList_of hg r
  obtain ⟨v, ev, rv⟩ := q.get hx
  exact Tri.here h S rv fun Q E q' => tail_any il.typeIs slot_list_getitem.lookup (wpAny_getItem_list il h0 hi (by simpa using ev) (q' s.toks)) (hs _ _)
theorem sub_str {value slice : Expr} {x : List Nat} {i : Int} {ch : Nat} {k : AV → List AO → Prop} (h0 : 0 ≤ i) (hi : i < 2 ^ 63) (hx : x[i.toNat]? = some ch) (h : k (.str [ch]) σ)
    (hs : ∀ o i, subscripted slice false o i = operate [o, i] (getItem o i)) : WV2 g d σ lc (.str x) (.int i) (subscriptTail value slice) VR k := by
  rintro A base L as s _ _ Rm T S ⟨u, rfl⟩ ⟨t, rfl⟩
  have hl : i.toNat < x.length := by
    rcases Nat.lt_or_ge i.toNat x.length with q | q
    · exact q
    · rw [List.getElem?_eq_none q] at hx; cases hx
  refine Tri.here (x := .str [ch]) (b := .str ⟨#[ch]⟩ s.toks) h S (show VR as (.str [ch]) _ from ⟨s.toks, rfl⟩) fun Q E q' => tail_any (typeIs_str s _ u) F.slot_str_getitem.lookup (P.getItem_str (c := ch) ?_ ?_ (q' _)) (hs _ _)
  · simp; omega
  · unfold seqIndex?
    rw [str_len]
    have h1 : ¬ i < 0 := by omega
    simp only [h1, if_false]
    have h2 : 0 ≤ i ∧ i < (x.length : Int) := ⟨h0, by omega⟩
    simp only [List.getElem?_eq_getElem hl, Option.some.injEq] at hx
    simp [h2, hx]
end
end Mine
end

section
namespace Mine
section
variable {g : G} {c : Cx} {σ : List AO} {lc : Lc} {d : Nat}

noncomputable def KpV (g : G) (f' : Value) (h : Heap) : Prop := ∃ k, (k = Keeper.frame ∨ k = Keeper.machine ∨ k = Keeper.boundFrame) ∧ Looks (MM g) h (keeperOf f') k
noncomputable def Kp (g : G) (σ : List AO) (f : AV) : Prop := ∀ base L as lc h f', TopF g base → St g.LM base L as σ lc h → VR as f f' → KpV g f' h
noncomputable def WCall (g : G) (d : Nat) (σ : List AO) (lc : Lc) (f : AV) (args : List AV) (k : AV → List AO → Prop) : Prop :=
  ∀ A base L as s f' args', Room d A → TopF g base → St g.LM base L as σ lc s.heap → VR as f f' → VRs as args args' → Tri g base L as lc s A (call f' args') VR k
theorem kp_builtin {i : String} : Kp g σ (.top (.builtin i)) := by rintro base L as lc h _ T S rfl; exact ⟨.machine, .inr (.inl rfl), Looks.now⟩
theorem kp_type {i : String} : Kp g σ (.top (.type i)) := by rintro base L as lc h _ T S rfl; exact ⟨.machine, .inr (.inl rfl), Looks.now⟩
theorem kp_K {a : Addr} (hk : keepIn g.K (.ref a) = true) : Kp g σ (.top (.ref a)) := by rintro base L as lc h _ T S rfl; exact keeps_K hk h (T.keeps S.keep).kin

theorem evalArgs_nilS {M : Model} {A : Around} {E : Value → Shared → Prop} {s : Shared} {f : Value} {Q : Args → Shared → Prop} (h : wpAny M A (spliced []) (fun vs s₁ => Q ⟨vs, []⟩ s₁) E s) : wpAny M A (evalArgs f true [] []) Q E s := by
  unfold evalArgs
  show wpAny M A (spliced [] >>= _) Q E s
  refine wpAny_bind (wpAny_mono h (fun vs s₁ h₁ => ?_) fun _ _ x => x)
  refine wpAny_bind (wpAny_pure ?_)
  refine wpAny_holding ?_
  simp only [List.all_nil, if_true]
  refine wpAny_bind (wpAny_evalAll_nil ?_)
  exact wpAny_bind (wpAny_pure (wpAny_pure h₁))

theorem we_call0 {func : Expr} {pos : Pos} {k : AV → List AO → Prop} (he : ∀ env, eval (.Call func [] [] pos) env = (eval func env >>= fun f => callWith pos f [] (backTo pos (starEach [] env)) (backToKw pos (keywordEach [] env))))
    (h : WE g c σ lc func fun f σ₁ => Kp g σ₁ f ∧ WCall g c.d σ₁ lc f [] k) : WE g c σ lc (.Call func [] [] pos) k :=
  fun A env base L as s Rm Re T S Q E q => by
    rw [he]
    refine wpAny_bind (h A env base L as s Rm Re T S _ E fun h₁ tk₁ bs f f' σ₁ hk S₁ rf => ?_)
    exact callWith_of (P := KpV g f') rfl (fun _ z => z) (evalArgs_nil3 ⟨hk.1 base L (as ++ bs) lc h₁ f' T S₁ rf, hk.2 A base L (as ++ bs) _ f' [] Rm T S₁ rf .nil Q E (Tri.next q)⟩)
theorem we_call {func e : Expr} {es : List Expr} {pos : Pos} {k : AV → List AO → Prop} (he : ∀ env, eval (.Call func (e :: es) [] pos) env = (eval func env >>= fun f => callWith pos f [] (backTo pos (starEach (e :: es) env)) (backToKw pos (keywordEach [] env))))
    (hs : ∀ env, starEach (e :: es) env = (false, eval e env) :: starEach es env) (hp : ∀ env, (backTo pos (starEach es env)).any (·.1) = false)
    (h : WE g c σ lc func fun f σ₁ => WEs g c σ₁ lc (e :: es) fun vs σ₂ => Kp g σ₂ f ∧ WCall g c.d σ₂ lc f vs k) : WE g c σ lc (.Call func (e :: es) [] pos) k :=
  fun A env base L as s Rm Re T S Q E q => by
    rw [he]
    refine wpAny_bind (h A env base L as s Rm Re T S _ E fun h₁ tk₁ bs f f' σ₁ hk S₁ rf => ?_)
    have z := hk A env base L (as ++ bs) { s with heap := h₁, toks := tk₁ } pos Rm Re.mono T S₁
    rw [hs] at z ⊢
    refine callWith_of (P := KpV g f') (by show ((false || (backTo pos (starEach es env)).any (·.1)) || false) = false; rw [hp]; rfl) (fun _ z => z) (evalArgs_plain (z _ E fun h₂ tk₂ cs vs vs' σ₂ hk₂ S₂ rvs => ?_))
    exact ⟨hk₂.1 base L (as ++ bs ++ cs) lc h₂ f' T S₂ rf.mono, hk₂.2 A base L (as ++ bs ++ cs) _ f' vs' Rm T S₂ rf.mono rvs Q E (Tri.next (s := { s with heap := h₁, toks := tk₁ }) (bs := cs) (Tri.next q))⟩

noncomputable def PR (as : List Addr) (x : AV × List AV) (b : Value × List Value) : Prop := VR as x.1 b.1 ∧ VRs as x.2 b.2
noncomputable def WM (g : G) (d : Nat) (σ : List AO) (lc : Lc) (o : AV) (name : Str) (k : AV × List AV → List AO → Prop) : Prop := ∀ pl : Sem Bool, WV1 g d σ lc o (fun v => getMethod v name pl) PR k
theorem we_meth {o : Expr} {args : List Expr} {name : Str} {apos pos : Pos} {pl : Env → Sem Bool} {k : AV → List AO → Prop}
    (he : ∀ env, eval (.Call (.Attribute o name apos) args [] pos) env = (do
      let ov ← eval o env
      standAt apos.atName
      let (f, first) ← holding [ov] (getMethod ov name (pl env))
      callWith pos f first (backTo pos (starEach args env)) []))
    (hp : ∀ env, (backTo pos (starEach args env)).any (·.1) = false) (hf : ∀ env, args = [] ∨ ∃ x r, backTo pos (starEach args env) = (false, x) :: r)
    (h : WE g c σ lc o fun ov σ₁ => WM g c.d σ₁ lc ov name fun fx σ₂ => WEs g c σ₂ lc args fun vs σ₃ => Kp g σ₃ fx.1 ∧ WCall g c.d σ₃ lc fx.1 (fx.2 ++ vs) k) : WE g c σ lc (.Call (.Attribute o name apos) args [] pos) k :=
  fun A env base L as s Rm Re T S Q E q => by
    refine MethodCall_ (pl := pl env) (h A env base L as s Rm Re T S _ E fun h₁ tk₁ bs ov ov' σ₁ hk S₁ ro => ?_) (he env)
    refine hk (pl env) A base L (as ++ bs) _ ov' Rm T S₁ ro _ E fun h₂ tk₂ cs fx fx' σ₂ hk₂ S₂ rf => ?_
    have z := hk₂ A env base L (as ++ bs ++ cs) { s with heap := h₂, toks := tk₂ } pos Rm Re.mono.mono T S₂
    refine callWith_of (P := KpV g fx'.1) (by rw [hp env]; rfl) (fun _ z => z) ?_
    have fin : wpAny (MM g) A (spliced (backTo pos (starEach args env))) (fun vs s₁ => KpV g fx'.1 s₁.heap ∧ wpAny (MM g) A (call fx'.1 (fx'.2 ++ vs) []) Q E s₁) E { s with heap := h₂, toks := tk₂ } :=
      z _ E fun h₃ tk₃ ds vs vs' σ₃ hk₃ S₃ rvs => ⟨hk₃.1 base L _ lc h₃ fx'.1 T S₃ rf.1.mono, hk₃.2 A base L (as ++ bs ++ cs ++ ds) _ fx'.1 (fx'.2 ++ vs') Rm T S₃ rf.1.mono (rf.2.mono.append rvs) Q E
        (Tri.next (s := { s with heap := h₂, toks := tk₂ }) (bs := ds) (Tri.next (s := { s with heap := h₁, toks := tk₁ }) (bs := cs) (Tri.next q)))⟩
    rcases hf env with rfl | ⟨x, r, e⟩
    · exact evalArgs_nilS fin
    · rw [e] at fin ⊢
      exact evalArgs_plain fin
end
end Mine
end

section
namespace Mine

theorem ER.get {as : List Addr} {fs : Lc} {es : List DictEntry} (h : ER as fs es) {x : Str} {v : AV} (e : getV x fs = some v) : ∃ v', getL x es = some (some v') ∧ VR as v v' := by
  induction h with
  | nil => cases e
  | @cons n u hs t val fs es r _ ih =>
    simp only [getV] at e
    unfold getL
    by_cases q : n = x
    · rw [if_pos q] at e; cases e
      refine ⟨val, ?_, r⟩
      rw [List.find?_cons_of_pos (by simp [Value.isStr, q])]
    · rw [if_neg q] at e
      obtain ⟨v', e', r'⟩ := ih e
      refine ⟨v', ?_, r'⟩
      rw [List.find?_cons_of_neg (by simp [Value.isStr, q])]
      unfold getL at e'
      split at e'
      · exact e'
      · split at e' <;> cases e'
theorem ER.get_none {as : List Addr} {fs : Lc} {es : List DictEntry} (h : ER as fs es) {x : Str} (e : getV x fs = none) : getL x es = some none := by
  induction h with
  | nil => rfl
  | @cons n u hs t val fs es r _ ih =>
    simp only [getV] at e
    by_cases q : n = x
    · rw [if_pos q] at e; cases e
    · rw [if_neg q] at e
      have e' := ih e
      unfold getL at e' ⊢
      rw [List.find?_cons_of_neg (by simp [Value.isStr, q])]
      split at e'
      · cases e'
      · split at e'
        · cases e'
        · rename_i hz
          rw [List.any_cons]
          have : (({ hash := hs, key := .str n t, val := val } : DictEntry).refKey) = false := rfl
          rw [this, Bool.false_or, if_neg hz]
theorem ER.put {as : List Addr} {fs : Lc} {es : List DictEntry} (h : ER as fs es) (x : Str) (hsh : Int) (t : Tok) {v : AV} {v' : Value} (r : VR as v v') : ER as (putV x v fs) (putL x hsh (.str x t) v' es) := by
  induction h with
  | nil => exact .cons r .nil
  | @cons n u hs tt val fs es r' h' ih =>
    simp only [putV, putL]
    by_cases q : n = x
    · subst q
      rw [if_pos rfl, if_pos (by simp [Value.isStr])]
      exact .cons r h'
    · rw [if_neg q, if_neg (by simp [Value.isStr, q])]
      exact .cons r' ih
theorem ER.length {as : List Addr} {fs : Lc} {es : List DictEntry} (h : ER as fs es) : fs.length = es.length := by
  induction h with
  | nil => rfl
  | cons _ _ ih => simp [ih]

section
variable {g : G} {c : Cx} {σ : List AO} {lc : Lc} {d : Nat}

theorem inst_at {base h : Heap} {L : Addr} {as : List Addr} {l dl : Nat} {C a : Addr} {fs : Lc} (S : St g.LM base L as σ lc h) (ea : as[l]? = some a) (hI : σ[l]? = some (.inst C dl)) (hD : σ[dl]? = some (.dict fs)) :
    ∃ dx es n, as[dl]? = some dx ∧ InstAt h a (instObj C dx) C (some (dictOf es n)) ∧ ER as fs es ∧ h.get? dx = some (dictOf es n) := by
  obtain ⟨o, ho, dx, edx, rfl⟩ := S.at_ ea hI
  obtain ⟨o', ho', es, n, rfl, r⟩ := S.at_ edx hD
  exact ⟨dx, es, n, edx, ⟨ho, rfl, rfl, ho'⟩, r, ho'⟩
noncomputable def plainV : AV → Bool
  | .top _ => false
  | _ => true
theorem handed_of {as : List Addr} {v : AV} {v' : Value} (h : plainV v = true) (r : VR as v v') : handedIn v' = true := by
  cases v with
  | top => cases h
  | none => cases r; rfl
  | bool => cases r; rfl
  | int => obtain ⟨t, rfl⟩ := r; rfl
  | str => obtain ⟨t, rfl⟩ := r; rfl
  | ref => obtain ⟨a, _, rfl⟩ := r; rfl
noncomputable abbrev WGet (g : G) (d : Nat) (σ : List AO) (lc : Lc) (o : AV) (name : Str) (k : AV → List AO → Prop) : Prop := ∀ b, WV1 g d σ lc o (fun v => getAttr v name b) VR k
structure FieldOk (K : Frag) (C : Addr) (name : Str) : Prop where
  get : plainGet K C name = true
  dict : hasDictIn K C = true
  none : findIn K (.ref C) name = some Option.none
theorem get_field {l dl : Nat} {C : Addr} {fs : Lc} {name : Str} {v : AV} {k : AV → List AO → Prop} (ok : FieldOk g.K C name) (hI : σ[l]? = some (.inst C dl)) (hD : σ[dl]? = some (.dict fs)) (hf : getV name fs = some v) (hp : plainV v = true) (h : k v σ) :
    WGet g d σ lc (.ref l) name k := by
  rintro b A base L as s _ Rm T S ⟨a, ea, rfl⟩
  obtain ⟨dx, es, n, edx, I, r, _⟩ := inst_at S ea hI hD
  obtain ⟨v', el, rv⟩ := r.get hf
  obtain ⟨m, F, lr⟩ := S.fr
  exact Tri.here h S rv fun Q E q => get_own F (T.cut S.lo) I ok.get ok.dict ok.none rfl el (handed_of hp rv) (q _)
theorem we_attr {value : Expr} {attr : Str} {pos : Pos} {k : AV → List AO → Prop} (he : ∀ env, eval (.Attribute value attr pos) env = (do
      let o ← eval value env
      standAt pos.atName
      let r ← holding [o] (getAttr o attr true)
      letTemporaryGo value o r
      pure r)) (h : WE g c σ lc value fun o σ₁ => WGet g c.d σ₁ lc o attr k) : WE g c σ lc (.Attribute value attr pos) k :=
  fun A env base L as s Rm Re T S Q E q => Attribute_any_ (h A env base L as s Rm Re T S _ E fun h₁ tk₁ bs o o' σ₁ hk S₁ ro => hk true A base L (as ++ bs) _ o' Rm T S₁ ro Q E (Tri.next q)) (he env)
noncomputable abbrev WSet (g : G) (d : Nat) (σ : List AO) (lc : Lc) (o : AV) (name : Str) (v : AV) (k : List AO → Prop) : Prop := WV2 g d σ lc o v (fun o v => setAttr o name v) (fun _ _ _ => True) (fun (_ : Unit) σ' => k σ')
structure StoreOk (K : Frag) (C : Addr) (name : Str) : Prop where
  set : findIn K (.ref C) "__setattr__" = some (some (.builtin "object.__setattr__"))
  plain : plainOver K C = true
  taker : takerIn K C name = some Option.none
  dict : hasDictIn K C = true
theorem set_field {l dl : Nat} {C : Addr} {fs : Lc} {name : Str} {v : AV} {k : List AO → Prop} (ok : StoreOk g.K C name) (hI : σ[l]? = some (.inst C dl)) (hD : σ[dl]? = some (.dict fs)) (hz : fs.length ≤ 900) (h : k (σ.set dl (.dict (putV name v fs)))) :
    WSet g d σ lc (.ref l) name v k := by
  rintro A base L as s _ v' Rm T S ⟨a, ea, rfl⟩ rv Q E q
  obtain ⟨dx, es, n, edx, I, r, hdx⟩ := inst_at S ea hI hD
  obtain ⟨m, F, lr⟩ := S.fr
  obtain ⟨obs, hlen, N, hob⟩ := S.led
  obtain ⟨o, eo, ho, _⟩ := hob dl dx _ edx hD
  rw [hdx] at ho; cases ho
  have rp := r.put name (PyData.keyHash g.w.params name) (s.toks + 1) rv
  have hgl : (getL name es).isSome = true := by
    cases e : getV name fs with
    | none => rw [r.get_none e]; rfl
    | some u => obtain ⟨u', e', _⟩ := r.get e; rw [e']; rfl
  have hlen' : (putL name (PyData.keyHash g.w.params name) (.str name (s.toks + 1)) v' es).length ≤ 1000 := by
    rw [← rp.length]
    have : ∀ fs : Lc, (putV name v fs).length ≤ fs.length + 1 := by
      intro fs
      induction fs with
      | nil => simp [putV]
      | cons p r ih => simp only [putV]; split <;> simp <;> omega
    have := this fs
    omega
  refine set_dict F (T.cut S.lo) N I rfl ok.set ok.plain ok.taker ok.dict hgl rfl (S.upd_zip hlen edx eo) hlen' fun h' F' N' => ?_
  refine q h' _ [] () () _ h ?_ trivial
  rw [app_nil]
  exact S.of_led hlen hob F' lr N' ⟨_, _, rfl, rp⟩
theorem ws_setattr {o : Expr} {attr : Str} {pos' pos : Pos} {e : Expr} {k : AF → List AO → Lc → Prop} (hs : ∀ env, swapsWith e (some (.Attribute o attr pos')) pos.line env = pure false)
    (h : WE g c σ lc e fun v σ₁ => WE g c σ₁ lc o fun ov σ₂ => WSet g c.d σ₂ lc ov attr v fun σ₃ => k .next σ₃ lc) : WS g c σ lc (.Assign [.Attribute o attr pos'] e pos) k :=
  fun A env base L as s Rm Re T S Q E q => plainObj_wpAny_Assign_Attribute (h A env base L as s Rm Re T S _ E fun h₁ tk₁ bs v v' σ₁ hk S₁ rv =>
    hk A env base L (as ++ bs) _ Rm Re.mono T S₁ _ E fun h₂ tk₂ cs ov ov' σ₂ hk₂ S₂ ro =>
      hk₂ A base L (as ++ bs ++ cs) _ ov' v' Rm T S₂ ro rv.mono _ E fun h₃ tk₃ ds u u' σ₃ hk₃ S₃ _ =>
        TriS.next (s := { s with heap := h₁, toks := tk₁ }) (bs := cs) (TriS.next q) h₃ tk₃ ds .next .next σ₃ lc hk₃ S₃ rfl) (hs env)
theorem ws_augattr {o : Expr} {attr : Str} {tpos pos : Pos} {op : Operator} {e : Expr} {k : AF → List AO → Lc → Prop}
    (h : WE g c σ lc o fun ov σ₁ => WGet g c.d σ₁ lc ov attr fun old σ₂ => WE g c σ₂ lc e fun v σ₃ => WV2 g c.d σ₃ lc old v (inplaceOp op) VR fun new σ₄ => WSet g c.d σ₄ lc ov attr new fun σ₅ => k .next σ₅ lc) :
    WS g c σ lc (.AugAssign (.Attribute o attr tpos) op e pos) k :=
  fun A env base L as s Rm Re T S Q E q => wpAny_AugAssign_AttributeAny (h A env base L as s Rm Re T S _ E fun h₁ tk₁ bs ov ov' σ₁ hk S₁ ro =>
    hk true A base L (as ++ bs) _ ov' Rm T S₁ ro _ E fun h₂ tk₂ cs old old' σ₂ hk₂ S₂ rold =>
      hk₂ A env base L (as ++ bs ++ cs) _ Rm Re.mono.mono T S₂ _ E fun h₃ tk₃ ds v v' σ₃ hk₃ S₃ rv =>
        hk₃ A base L (as ++ bs ++ cs ++ ds) _ old' v' Rm T S₃ rold.mono rv _ E fun h₄ tk₄ es new new' σ₄ hk₄ S₄ rn =>
          hk₄ A base L (as ++ bs ++ cs ++ ds ++ es) _ ov' new' Rm T S₄ ro.mono.mono.mono rn _ E fun h₅ tk₅ fs u u' σ₅ hk₅ S₅ _ =>
            TriS.next (s := { s with heap := h₃, toks := tk₃ }) (bs := es) (TriS.next (s := { s with heap := h₂, toks := tk₂ }) (bs := ds) (TriS.next (s := { s with heap := h₁, toks := tk₁ }) (bs := cs) (TriS.next q))) h₅ tk₅ fs .next .next σ₅ lc hk₅ S₅ rfl)

structure MethOk (K : Frag) (C : Addr) (name : Str) (f : Addr) : Prop where
  get : plainGet K C name = true
  dict : hasDictIn K C = true
  find : findIn K (.ref C) name = some (some (.ref f))
  fn : isFn K (.ref f) = true
  dget : specialIn K (.ref f) "__get__" = some (some (.builtin "function.__get__"))
  takes : takesIn K (.ref f) = some false
  copied : copiedNames.contains name = false
theorem meth_inst {l dl : Nat} {C f : Addr} {fs : Lc} {name : Str} {k : AV × List AV → List AO → Prop} (ok : MethOk g.K C name f) (hI : σ[l]? = some (.inst C dl)) (hD : σ[dl]? = some (.dict fs)) (hf : getV name fs = none) (h : k (.top (.ref f), [.ref l]) σ) :
    WM g d σ lc (.ref l) name k := by
  rintro pl A base L as s _ Rm T S ⟨a, ea, rfl⟩
  obtain ⟨dx, es, n, edx, I, r, _⟩ := inst_at S ea hI hD
  obtain ⟨m, F, lr⟩ := S.fr
  exact Tri.here (x := (AV.top (.ref f), [AV.ref l])) (b := (Value.ref f, [Value.ref a])) h S ⟨rfl, .one ⟨a, ea, rfl⟩⟩ fun Q E q => method_inst F (T.cut S.lo) I ok.get ok.find ok.fn (r.get_none hf) (q s.toks)
theorem meth_field {l dl : Nat} {C : Addr} {fs : Lc} {name : Str} {v : AV} {k : AV × List AV → List AO → Prop} (ok : FieldOk g.K C name) (hI : σ[l]? = some (.inst C dl)) (hD : σ[dl]? = some (.dict fs)) (hf : getV name fs = some v) (hp : plainV v = true) (h : k (v, []) σ) :
    WM g d σ lc (.ref l) name k := by
  rintro pl A base L as s _ Rm T S ⟨a, ea, rfl⟩
  obtain ⟨dx, es, n, edx, I, r, _⟩ := inst_at S ea hI hD
  obtain ⟨v', el, rv⟩ := r.get hf
  obtain ⟨m, F, lr⟩ := S.fr
  exact Tri.here (x := (v, ([] : List AV))) (b := (v', ([] : List Value))) h S ⟨rv, .nil⟩ fun Q E q => kmu_own F (T.cut S.lo) I ok.get ok.none (get_own F (T.cut S.lo) I ok.get ok.dict ok.none rfl el (handed_of hp rv) (q _))
theorem get_bound {l dl : Nat} {C f : Addr} {fs : Lc} {name : Str} {k : AV → List AO → Prop} (ok : MethOk g.K C name f) (hI : σ[l]? = some (.inst C dl)) (hD : σ[dl]? = some (.dict fs)) (hf : getV name fs = none) (h : k (.ref σ.length) (σ ++ [.meth f (.ref l)])) :
    WGet g d σ lc (.ref l) name k := by
  rintro b A base L as s _ Rm T S ⟨a, ea, rfl⟩
  obtain ⟨dx, es, n, edx, I, r, _⟩ := inst_at S ea hI hD
  obtain ⟨m, F, lr⟩ := S.fr
  refine Tri.made (o := methodObj (.ref f) (.ref a)) h S ⟨.ref a, ⟨a, get_append ea, rfl⟩, rfl⟩ rfl ⟨_, new_ref S.len, rfl⟩ fun Q E q => ?_
  exact get_bind (T.keeps S.keep).kin I (plainGet_of ok.get).1 (findObj_fn ok.dict ok.find ok.dget ok.takes ok.copied (by show lookIn name (dictOf es n) = _; rw [lookIn_dict, r.get_none hf])) (plainGet_of ok.get).2
    (wpAny_call (fn_get (s := { s with toks := s.toks + 1 }) (T.keeps S.keep).kin (beq_iff_eq.mp ok.fn) (handed_on rfl (q _))))

theorem meth_list {l : Nat} {xs : List AV} {name : Str} {id : String} {k : AV × List AV → List AO → Prop} (slot : Slot "list" name id) (hty : typeOf (.builtin id) = pure (.type "method_descriptor")) (ho : σ[l]? = some (.list xs)) (h : k (.top (.builtin id), [.ref l]) σ) : WM g d σ lc (.ref l) name k := by
  rintro pl A base L as s _ Rm T S ⟨a, ea, rfl⟩
  obtain ⟨o, hg, vs, n, rfl, r⟩ := S.at_ ea ho
  exact Tri.here (x := (AV.top (.builtin id), [AV.ref l])) (b := (Value.builtin id, [Value.ref a])) h S ⟨rfl, .one ⟨a, ea, rfl⟩⟩ fun Q E q =>
    getMethod_builtin ⟨_, hg, rfl⟩ PySem.F.plainAttrs_list slot hty (fun a e => by cases e; exact ⟨_, hg, rfl⟩) (q s.toks)
theorem call_append {l : Nat} {xs : List AV} {x : AV} {k : AV → List AO → Prop} (ho : σ[l]? = some (.list xs)) (hz : xs.length ≤ sizeLine) (h : k .none (σ.set l (.list (xs ++ [x])))) : WCall g d σ lc (.top (.builtin "list.append")) [.ref l, x] k := by
  rintro A base L as s _ _ Rm T S rfl ra Q E q
  cases ra with
  | cons r1 ra => cases ra with
    | cons r2 ra =>
      cases ra
      obtain ⟨a, ea, rfl⟩ := r1
      obtain ⟨o, hg, vs, n, rfl, r⟩ := S.at_ ea ho
      refine wpAny_list_append_plain ⟨n, hg⟩ (fun h' hp hs => ?_) (by have := r.length; simp at this; rw [← this]; exact hz)
      obtain ⟨n', hg'⟩ := hp
      refine q h' _ [] .none .none _ h ?_ rfl
      rw [app_nil]
      exact S.upd ea hs hg' ⟨_, n', rfl, by rw [Array.toList_push]; exact r.append (.one r2)⟩
theorem call_pop {l : Nat} {xs : List AV} {x : AV} {k : AV → List AO → Prop} (ho : σ[l]? = some (.list (xs ++ [x]))) (hz : (xs ++ [x]).length ≤ sizeLine) (h : k x (σ.set l (.list xs))) : WCall g d σ lc (.top (.builtin "list.pop")) [.ref l] k := by
  rintro A base L as s _ _ Rm T S rfl ra Q E q
  cases ra with
  | cons r1 ra =>
    cases ra
    obtain ⟨a, ea, rfl⟩ := r1
    obtain ⟨o, hg, vs, n, rfl, r⟩ := S.at_ ea ho
    obtain ⟨m, F, lr⟩ := S.fr
    obtain ⟨obs, hlen, N, hob⟩ := S.led
    obtain ⟨o, eo, ho', _⟩ := hob l a _ ea ho
    rw [hg] at ho'; cases ho'
    have hl := r.length
    have hne : vs.toList ≠ [] := by intro z; rw [z] at hl; simp at hl
    have esp : vs.toList = vs.toList.dropLast ++ [vs.toList.getLast hne] := (List.dropLast_concat_getLast hne).symm
    have hkl : kl_last vs.toList = some (vs.toList.dropLast, vs.toList.getLast hne) := by
      conv => lhs; rw [esp]
      exact kpa_last _ _
    have hdl : vs.toList.dropLast.length = xs.length := by simp at hl; simp; omega
    have r1 : VRs as xs vs.toList.dropLast := by
      have z := r.take xs.length
      rw [List.take_left' rfl] at z
      rw [esp, List.take_left' hdl] at z
      exact z
    have r2 : VR as x (vs.toList.getLast hne) := by
      have z := r.drop xs.length
      rw [List.drop_left' rfl] at z
      rw [esp, List.drop_left' hdl] at z
      cases z with
      | cons a _ => exact a
    refine kl_pop F N hkl (S.upd_zip hlen ea eo) (by rw [← hl]; exact hz) fun h' F' N' => ?_
    refine q h' _ [] x _ _ h ?_ (by rw [app_nil]; exact r2)
    rw [app_nil]
    exact S.of_led hlen hob F' lr N' ⟨_, _, rfl, by simpa using r1⟩
end
end Mine
end

section
namespace Mine

namespace St
variable {LM : Nat → Addr → Obj → Prop} {base h h₁ h' : Heap} {L L' : Addr} {as bs : List Addr} {σ σ' : List AO} {lc lc' : Lc}
noncomputable def under (h : Heap) (as : List Addr) : Heap := hideAll h as
theorem base_under (S : St LM base L as σ lc h) {b : Addr} {o : Obj} (e : base.get? b = some o) : (under h as).get? b = some o :=
  hideAll_get _ (S.keep b o e) fun q => by rw [(S.fresh b q).1] at e; cases e
theorem tracked_lt (S : St LM base L as σ lc h) {a : Addr} (ha : a ∈ as) : a < h.objs.size := by
  obtain ⟨l, hl, e⟩ := List.getElem_of_mem ha
  have hs : l < σ.length := S.len ▸ hl
  obtain ⟨o, ho, _⟩ := S.obj l as[l] σ[l] (List.getElem?_eq_getElem hl) (List.getElem?_eq_getElem hs)
  rw [← e]; exact Heap.lt_size ho
theorem enter (S : St LM base L as σ lc h) {m : Str → Option Value} (hn : h₁.Ns h.objs.size m) (lr : LR as lc' m) (hk : ∀ b o, h.get? b = some o → h₁.get? b = some o) : St LM (under h as) h.objs.size as σ lc' h₁ where
  keep := fun b o e => hk b o (of_hideAll _ e)
  lf := by
    cases q : (under h as).get? h.objs.size with
    | none => rfl
    | some o => exact absurd (Heap.lt_size (of_hideAll _ q)) (Nat.lt_irrefl _)
  lo := by
    obtain ⟨m, ⟨oL, _, _, hL, _⟩, _⟩ := S.ns
    exact Nat.le_of_lt (Nat.lt_of_le_of_lt S.lo (Heap.lt_size hL))
  ns := ⟨m, hn, lr⟩
  len := S.len
  fresh := fun a ha => ⟨hideAll_none _ ha, Nat.ne_of_lt (S.tracked_lt ha)⟩
  obj := fun l a ao ea e => let ⟨o, ho, r⟩ := S.obj l a ao ea e; ⟨o, hk _ _ ho, r⟩
  nd := S.nd
theorem leave (S : St LM base L as σ lc h) (S' : St LM (under h as) L' (as ++ bs) σ' lc' h') : St LM base L (as ++ bs) σ' lc h' := by
  have nL : L ∉ as := fun q => (S.fresh L q).2 rfl
  obtain ⟨m, n, lr⟩ := S.ns
  refine ⟨fun b o e => S'.keep b o (S.base_under e), S.lf, S.lo, ⟨m, n.at' fun o e => S'.keep _ _ (hideAll_get _ e nL), lr.mono⟩, S'.len, fun a ha => ⟨?_, ?_⟩, S'.obj, S'.nd⟩
  · cases q : base.get? a with
    | none => rfl
    | some o => have := S.base_under q; rw [(S'.fresh a ha).1] at this; cases this
  · intro z
    obtain ⟨oL, _, _, hL, _⟩ := n
    have := hideAll_get as hL nL
    rw [← z] at this
    rw [show (hideAll h as).get? a = none from (S'.fresh a ha).1] at this
    cases this
end St

theorem Room.deeper {d : Nat} {A : Around} (R : Room (d + 1) A) (env : Env) : Room d (A.deeper env) :=
  ⟨R.handled, by show A.depth + 1 + 8 * d ≤ 900; have := R.depth; omega, by show A.units + 3 + 64 * d ≤ 9000; have := R.units; omega⟩
theorem Room.down {d d' : Nat} {A : Around} (R : Room d A) (h : d' ≤ d) : Room d' A :=
  ⟨R.handled, by have := R.depth; omega, by have := R.units; omega⟩

section
variable {g : G} {c : Cx} {σ : List AO} {lc : Lc} {d : Nat}
noncomputable def endOf (k : AV → List AO → Prop) : AF → List AO → Lc → Prop
  | .ret v, σ, _ => k v σ
  | .next, σ, _ => k .none σ
  | _, _, _ => False
theorem end_ret {v : AV} {k : AV → List AO → Prop} (h : k v σ) : endOf k (.ret v) σ lc := h
theorem end_next {k : AV → List AO → Prop} (h : k .none σ) : endOf k .next σ lc := h
theorem call_core {f : Addr} {args : List AV} {name qual : Str} {params : Arguments} {body : List Stmt} {scope : Scope} {dV kV doc pm cdv ct oc : Value} {an od : Option Addr} {osl : Array (Option Value)} {k : AV → List AO → Prop} {lc₀ : Lc} (binds : List Value → List (Str × Value))
    (hK : g.K.lookup f = some ⟨oc, od, .func (fnOf name qual params body scope dV kV doc pm an cdv ct), osl⟩) (hcd : codeIn g.K cdv qual = true)
    (hbind : ∀ vals : List Value, vals.length = args.length → bindArgs (fnOf name qual params body scope dV kV doc pm an cdv ct) ⟨vals, []⟩ = pure (binds vals)) (hloc : ∀ vals : List Value, vals.length = args.length → ∀ x ∈ binds vals, scope.names.lookup x.1 = some .local)
    (hlr : ∀ as vals, VRs as args vals → LR as lc₀ fun x => (binds vals).reverse.lookup x)
    (hcell : ∀ x ∈ scope.names, x.2 ≠ .cell) (hco : scope.isCoroutine = false) (hgen : scope.isGenerator = false) (hk : scope.kind = .function)
    (h : WSs g ⟨d, scope, [], none⟩ σ lc₀ body (endOf k)) : WCall g (d + 1) σ lc (.top (.ref f)) args k := by
  rintro A base L as s _ vals Rm T S rfl rv Q E q
  have T' := T.keeps S.keep
  have hlen : vals.length = args.length := rv.length.symm
  refine wpAny_call (codeAny_call_def (fd := fnOf name qual params body scope dV kV doc pm an cdv ct) (body := body) (binds := binds vals) (by have := Rm.depth; show A.depth < 1000; omega) (T'.kin _ _ hK) rfl T'.nolimit (codeRec_of T'.kin hcd) rfl (BindsTo.of_eq (hbind vals hlen)) hcell (hloc vals hlen) (fun h₀ hns hk₀ => ?_) hco hgen hk)
  have S₁ := S.enter (lc' := lc₀) hns (hlr as vals rv) hk₀
  have T₁ : TopF g (St.under s.heap as) := T.keeps fun b o e => S.base_under e
  refine h (A.deeper _) _ (St.under s.heap as) s.heap.objs.size as _ (Rm.deeper _) ⟨rfl, hk, rfl, fun n l e => (nomatch e), rfl, rfl, fun _ _ e => (nomatch e)⟩ T₁ S₁ _ _ fun h' tk bs f f' σ' lc' hk' S' rf => ?_
  have S'' := S.leave S'
  cases f with
  | ret v => obtain ⟨v', rfl, rv'⟩ := rf; exact q h' tk bs v v' σ' hk' S'' rv'
  | next => cases rf; exact q h' tk bs .none .none σ' hk' S'' rfl
  | brk => exact hk'.elim
  | cont => exact hk'.elim
theorem call_fn1 {f : Addr} {a : AV} {n1 : Str} {name qual : Str} {params : Arguments} {body : List Stmt} {scope : Scope} {dV kV doc pm cdv ct oc : Value} {an od : Option Addr} {osl : Array (Option Value)} {k : AV → List AO → Prop}
    (hK : g.K.lookup f = some ⟨oc, od, .func (fnOf name qual params body scope dV kV doc pm an cdv ct), osl⟩) (hcd : codeIn g.K cdv qual = true)
    (hbind : ∀ v : Value, bindArgs (fnOf name qual params body scope dV kV doc pm an cdv ct) ⟨[v], []⟩ = pure [(n1, v)]) (h1 : scope.names.lookup n1 = some .local)
    (hcell : ∀ x ∈ scope.names, x.2 ≠ .cell) (hco : scope.isCoroutine = false) (hgen : scope.isGenerator = false) (hk : scope.kind = .function)
    (h : WSs g ⟨d, scope, [], none⟩ σ [(n1, a)] body (endOf k)) : WCall g (d + 1) σ lc (.top (.ref f)) [a] k := by
  refine call_core (fun vals => match vals with | [v] => [(n1, v)] | _ => []) hK hcd (fun vals e => ?_) (fun vals e x hx => ?_) (fun as vals rv => ?_) hcell hco hgen hk h
  · match vals, e with
    | [v], _ => exact hbind v
  · match vals, e with
    | [v], _ => have : x = (n1, v) := by simpa using hx
                subst this; exact h1
  · cases rv with
    | @cons _ v _ vs r1 rv =>
      cases rv
      intro x u e
      simp only [getV] at e
      by_cases q : n1 = x
      · rw [if_pos q] at e; cases e; exact ⟨v, by simp [List.lookup, q], r1⟩
      · rw [if_neg q] at e; cases e
theorem call_fn2 {f : Addr} {a b : AV} {n1 n2 : Str} {name qual : Str} {params : Arguments} {body : List Stmt} {scope : Scope} {dV kV doc pm cdv ct oc : Value} {an od : Option Addr} {osl : Array (Option Value)} {k : AV → List AO → Prop}
    (hK : g.K.lookup f = some ⟨oc, od, .func (fnOf name qual params body scope dV kV doc pm an cdv ct), osl⟩) (hcd : codeIn g.K cdv qual = true)
    (hbind : ∀ v u : Value, bindArgs (fnOf name qual params body scope dV kV doc pm an cdv ct) ⟨[v, u], []⟩ = pure [(n1, v), (n2, u)]) (h1 : scope.names.lookup n1 = some .local) (h2 : scope.names.lookup n2 = some .local) (hne : n1 ≠ n2)
    (hcell : ∀ x ∈ scope.names, x.2 ≠ .cell) (hco : scope.isCoroutine = false) (hgen : scope.isGenerator = false) (hk : scope.kind = .function)
    (h : WSs g ⟨d, scope, [], none⟩ σ [(n1, a), (n2, b)] body (endOf k)) : WCall g (d + 1) σ lc (.top (.ref f)) [a, b] k := by
  refine call_core (fun vals => match vals with | [v, u] => [(n1, v), (n2, u)] | _ => []) hK hcd (fun vals e => ?_) (fun vals e x hx => ?_) (fun as vals rv => ?_) hcell hco hgen hk h
  · match vals, e with
    | [v, u], _ => exact hbind v u
  · match vals, e with
    | [v, u], _ =>
      have : x = (n1, v) ∨ x = (n2, u) := by simpa using hx
      rcases this with rfl | rfl
      · exact h1
      · exact h2
  · cases rv with
    | @cons _ v _ vs r1 rv =>
      cases rv with
      | @cons _ u _ us r2 rv =>
        cases rv
        intro x y e
        simp only [getV] at e
        by_cases q : n1 = x
        · rw [if_pos q] at e; cases e
          refine ⟨v, ?_, r1⟩
          show List.lookup x [(n2, u), (n1, v)] = some v
          rw [List.lookup_cons, List.lookup_cons]
          have : (x == n2) = false := by simpa [← q] using hne
          rw [this]; simp [q]
        · rw [if_neg q] at e
          by_cases q2 : n2 = x
          · rw [if_pos q2] at e; cases e
            exact ⟨u, by show List.lookup x [(n2, u), (n1, v)] = some u; simp [List.lookup, q2], r2⟩
          · rw [if_neg q2] at e; cases e
end
end Mine
end

section
namespace Mine

namespace St
variable {LM : Nat → Addr → Obj → Prop} {base h h' : Heap} {L it : Addr} {as : List Addr} {σ : List AO} {lc : Lc}
theorem side (S : St LM base L as σ lc h) (hb : base.get? it = none) (hL : it ≠ L) (ha : it ∉ as) (hs : ∀ b o, b ≠ it → h.get? b = some o → h'.get? b = some o) : St LM base L as σ lc h' where
  keep := fun b o e => hs b o (fun z => by rw [z, hb] at e; cases e) (S.keep b o e)
  lf := S.lf
  lo := S.lo
  ns := let ⟨m, n, r⟩ := S.ns; ⟨m, n.at' fun o e => hs _ o (Ne.symm hL) e, r⟩
  len := S.len
  fresh := S.fresh
  obj := fun l a ao ea e => let ⟨o, ho, r⟩ := S.obj l a ao ea e; ⟨o, hs _ o (fun z => ha (z ▸ List.mem_of_getElem? ea)) ho, r⟩
  nd := S.nd
end St

section
variable {g : G} {c : Cx} {σ : List AO} {lc : Lc} {d : Nat}

noncomputable def loopK (n : Nat) (I : Nat → List AO → Lc → Prop) (k : AF → List AO → Lc → Prop) : AF → List AO → Lc → Prop
  | .next, σ, lc => ∃ m, m < n ∧ I m σ lc
  | .cont, σ, lc => ∃ m, m < n ∧ I m σ lc
  | .brk, σ, lc => k .next σ lc
  | .ret v, σ, lc => k (.ret v) σ lc
theorem loop_brk {n : Nat} {I : Nat → List AO → Lc → Prop} {k : AF → List AO → Lc → Prop} (h : k .next σ lc) : loopK n I k .brk σ lc := h
theorem loop_ret {n : Nat} {v : AV} {I : Nat → List AO → Lc → Prop} {k : AF → List AO → Lc → Prop} (h : k (.ret v) σ lc) : loopK n I k (.ret v) σ lc := h
theorem ws_while {test : Expr} {body : List Stmt} {pos : Pos} {k : AF → List AO → Lc → Prop} (I : Nat → List AO → Lc → Prop)
    (turn : ∀ n σ lc, I n σ lc → WB g c σ lc test fun b σ₁ => if b then WSs g c σ₁ lc body (loopK n I k) else k .next σ₁ lc) {n : Nat} (h : I n σ lc) : WS g c σ lc (.While test body [] pos) k :=
  fun A env base L as s Rm Re T S Q E q => by
    refine wpAny_While (codeAny_whileLoop (fun n s' => ∃ bs σ lc h tk, s' = { s with heap := h, toks := tk } ∧ I n σ lc ∧ St g.LM base L (as ++ bs) σ lc h) ?_ n ⟨[], σ, lc, s.heap, s.toks, rfl, h, by rw [app_nil]; exact S⟩)
    rintro n _ ⟨bs, σ, lc, h, tk, rfl, hI, S⟩
    refine turn n σ lc hI A env base L (as ++ bs) _ Rm Re.mono T S _ _ fun h₁ tk₁ cs b b' σ₁ hk S₁ rb => ?_
    cases rb
    cases b with
    | false => exact wpAny_execs_nil (TriS.next (s := s) (bs := bs) (h' := h) (tk := tk) q h₁ tk₁ cs .next .next σ₁ lc hk S₁ rfl)
    | true =>
      refine (show WSs g c σ₁ lc body (loopK n I k) from hk) A env base L (as ++ bs ++ cs) _ Rm Re.mono.mono T S₁ _ _ fun h₂ tk₂ ds f f' σ₂ lc₂ hk₂ S₂ rf => ?_
      have q' := TriS.next (s := { s with heap := h, toks := tk }) (bs := cs) (h' := h₁) (tk := tk₁) (TriS.next (s := s) (bs := bs) (h' := h) (tk := tk) q) h₂ tk₂ ds
      have S₂' : St g.LM base L (as ++ (bs ++ cs ++ ds)) σ₂ lc₂ h₂ := by rw [← List.append_assoc, ← List.append_assoc]; exact S₂
      cases f with
      | next => cases rf; obtain ⟨m, hm, hI'⟩ := hk₂; exact ⟨m, hm, bs ++ cs ++ ds, σ₂, lc₂, h₂, tk₂, rfl, hI', S₂'⟩
      | cont => cases rf; obtain ⟨m, hm, hI'⟩ := hk₂; exact ⟨m, hm, bs ++ cs ++ ds, σ₂, lc₂, h₂, tk₂, rfl, hI', S₂'⟩
      | brk => cases rf; exact q' .next .next σ₂ lc₂ hk₂ S₂ rfl
      | ret v => obtain ⟨v', rfl, rv⟩ := rf; exact q' (.ret v) _ σ₂ lc₂ hk₂ S₂ ⟨v', rfl, rv⟩

structure Itr (g : G) (it : Addr) (xs : List AV) (Gd : List AO → Prop) (P : List Addr → Nat → Heap → Prop) : Prop where
  frame : ∀ {as bs i h h'}, P as i h → (∀ o, h.get? it = some o → h'.get? it = some o) → P (as ++ bs) i h'
  there : ∀ {as i h}, P as i h → ∃ o, h.get? it = some o
  item : ∀ {d A base L as σ lc i x} {s : Shared} (Q : Option Value → Shared → Prop) (E : Value → Shared → Prop), Room d A → St g.LM base L as σ lc s.heap → it ∉ as → Gd σ → P as i s.heap → xs[i]? = some x →
    (∀ v' h' tk, VR as x v' → P as (i + 1) h' → (∀ b o, b ≠ it → s.heap.get? b = some o → h'.get? b = some o) → Q (some v') { s with heap := h', toks := tk }) → wpAny (MM g) A (pyNext (.ref it)) Q E s
  done : ∀ {d A base L as σ lc} {s : Shared} (Q : Option Value → Shared → Prop) (E : Value → Shared → Prop), Room d A → St g.LM base L as σ lc s.heap → it ∉ as → Gd σ → P as xs.length s.heap →
    (∀ h' tk, (∀ b o, b ≠ it → s.heap.get? b = some o → h'.get? b = some o) → Q none { s with heap := h', toks := tk }) → wpAny (MM g) A (pyNext (.ref it)) Q E s
  self : ∀ {d A as i} {s : Shared} (Q : Value → Shared → Prop) (E : Value → Shared → Prop), Room d A → P as i s.heap → Q (.ref it) s → wpAny (MM g) A (pyIter (.ref it)) Q E s
noncomputable def WIt (g : G) (d : Nat) (σ : List AO) (lc : Lc) (v : AV) (xs : List AV) (Gd : List AO → Prop) : Prop :=
  ∀ A base L as s v' (Q : Value → Shared → Prop) (E : Value → Shared → Prop), Room d A → TopF g base → St g.LM base L as σ lc s.heap → VR as v v' →
    (∀ h' tk it P, Itr g it xs Gd P → P as 0 h' → s.heap.objs.size ≤ it → (∀ b o, s.heap.get? b = some o → h'.get? b = some o) → Q (.ref it) { s with heap := h', toks := tk }) → wpAny (MM g) A (pyIter v') Q E s
theorem none_of_ge {h : Heap} {a : Addr} (q : h.objs.size ≤ a) : h.get? a = none := by
  cases e : h.get? a with
  | none => rfl
  | some o => exact absurd (Heap.lt_size e) (Nat.not_lt.mpr q)
theorem walk_itr {it : Addr} {n : Nat} {PV : Nat → Value → Prop} {SW : Nat → Heap → Prop} {xs : List AV} (W : ∀ A' : Around, A'.handled = none → Walks g.prog g.w A' it [it] [it] n PV SW) (hn : xs.length = n) (hx : ∀ as i v x, PV i v → xs[i]? = some x → VR as x v)
    (hth : ∀ i h, SW i h → ∃ o, h.get? it = some o) : Itr g it xs (fun _ => True) fun _ i h => SW i h where
  frame := fun st hk => (W { handled := none } rfl).frame _ _ _ st fun b hb o e => by
    have : b = it := by simpa using hb
    subst this; exact hk o e
  there := fun st => hth _ _ st
  item := fun {d A base L as σ lc i x s} Q E Rm S _ _ st hxi hQ => by
    have hi : i < n := by
      rw [← hn]
      rcases Nat.lt_or_ge i xs.length with q | q
      · exact q
      · rw [List.getElem?_eq_none q] at hxi; cases hxi
    exact (W A Rm.handled).item i s Q E hi st fun v h' tk hp st' hk => hQ v h' tk (hx as i v x hp hxi) st' fun b o hb e => hk b o (by simpa using hb) e
  done := fun {d A base L as σ lc s} Q E Rm S _ _ st hQ => (W A Rm.handled).done s Q E (hn ▸ st) fun h' tk hk => hQ h' tk fun b o hb e => hk b o (by simpa using hb) e
  self := fun {d A as i s} Q E Rm st hQ => (W A Rm.handled).self i s Q E st hQ
theorem strIter_itr {ty : String} {it : Addr} {x : List Nat} {t : Tok} (W : ∀ A' : Around, A'.handled = none → Walks g.prog g.w A' it [it] [it] (Str.mk x.toArray).cps.size (SignAt ⟨x.toArray⟩) fun i h => h.IsStrIter it ty ⟨x.toArray⟩ t i) :
    Itr g it (x.map fun c => .str [c]) (fun _ => True) fun _ i h => h.IsStrIter it ty ⟨x.toArray⟩ t i :=
  walk_itr W (by simp) (fun as i v y hp hy => by
    obtain ⟨ch, u, e, rfl⟩ := hp
    have e' : x[i]? = some ch := by simpa using e
    rw [List.getElem?_map, e'] at hy
    simp only [Option.map_some, Option.some.injEq] at hy
    subst hy
    exact ⟨u, rfl⟩) fun i h st => let ⟨o, ho, _⟩ := st; ⟨o, ho⟩
theorem it_str {x : List Nat} : WIt g d σ lc (.str x) (x.map fun c => .str [c]) (fun _ => True) := by
  rintro A base L as s _ Q E Rm T S ⟨t, rfl⟩ hQ
  cases ha : (Str.mk x.toArray).cps.all (· < 128)
  · exact wpAny_pyIter_wide ha (hQ _ s.toks s.heap.objs.size _ (strIter_itr (t := t) fun A' hA => Walks.strWide hA _ _ t) ⟨_, Heap.get?_push_size _ rfl, rfl, rfl⟩ (Nat.le_refl _) fun b o e => Heap.get?_push_of_some _ e)
  · exact wpAny_pyIter_ascii ha (hQ _ s.toks s.heap.objs.size _ (strIter_itr (t := t) fun A' hA => Walks.strAscii hA _ _ t) ⟨_, Heap.get?_push_size _ rfl, rfl, rfl⟩ (Nat.le_refl _) fun b o e => Heap.get?_push_of_some _ e)
theorem it_list {l : Nat} {xs : List AV} (ho : σ[l]? = some (.list xs)) : WIt g d σ lc (.ref l) xs (fun σ' => σ'[l]? = some (.list xs)) := by
  rintro A base L as s _ Q E Rm T S ⟨a, ea, rfl⟩ hQ
  obtain ⟨o, hg, r⟩ := S.at_ ea ho
  obtain ⟨vs, il, q⟩ := isList_of hg r
  refine wpAny_pyIter_list il (hQ _ s.toks s.heap.objs.size (fun as i h => ∃ a, as[l]? = some a ∧ h.IsListIter s.heap.objs.size a i) ?_ ⟨a, ea, ⟨_, Heap.get?_push_size _ rfl, rfl, rfl⟩⟩ (Nat.le_refl _) fun b o e => Heap.get?_push_of_some _ e)
  refine ⟨?_, ?_, ?_, ?_, ?_⟩
  · rintro as bs i h h' ⟨a, ea, o, ho, r⟩ hk
    exact ⟨a, get_append ea, o, hk o ho, r⟩
  · rintro as i h ⟨a, ea, o, ho, r⟩
    exact ⟨o, ho⟩
  · rintro d A base L as σ lc i x s Q E Rm S hn ho ⟨a, ea, hit⟩ hx hQ
    obtain ⟨o, hg, r⟩ := S.at_ ea ho
    obtain ⟨vs, il, q⟩ := isList_of hg r
    obtain ⟨v, ev, rv⟩ := q.get hx
    exact wpAny_pyNext_list_item hit il (by simpa using ev) fun h' hit' hs => hQ v h' s.toks rv ⟨a, ea, hit'⟩ fun b o hb e => hs.extBut b o hb e
  · rintro d A base L as σ lc s Q E Rm S hn ho ⟨a, ea, hit⟩ hQ
    obtain ⟨o, hg, r⟩ := S.at_ ea ho
    obtain ⟨vs, il, q⟩ := isList_of hg r
    refine wpAny_pyNext_list_end Rm.handled hit il ?_ fun h' he => hQ h' s.toks fun b o hb e => he b o hb e
    have := q.get_none (i := xs.length) (by simp)
    simpa using this
  · rintro d A as i s Q E Rm ⟨a, ea, hit⟩ hQ
    exact wpAny_pyIter_listiter hit hQ

noncomputable def forK (J : List AO → Lc → Prop) (k : AF → List AO → Lc → Prop) : AF → List AO → Lc → Prop
  | .next, σ, lc => J σ lc
  | .cont, σ, lc => J σ lc
  | .brk, σ, lc => k .next σ lc
  | .ret v, σ, lc => k (.ret v) σ lc
theorem for_next {J : List AO → Lc → Prop} {k : AF → List AO → Lc → Prop} (h : J σ lc) : forK J k .next σ lc := h
theorem for_cont {J : List AO → Lc → Prop} {k : AF → List AO → Lc → Prop} (h : J σ lc) : forK J k .cont σ lc := h
theorem for_brk {J : List AO → Lc → Prop} {k : AF → List AO → Lc → Prop} (h : k .next σ lc) : forK J k .brk σ lc := h
theorem for_ret {v : AV} {J : List AO → Lc → Prop} {k : AF → List AO → Lc → Prop} (h : k (.ret v) σ lc) : forK J k (.ret v) σ lc := h
noncomputable def ForOk (g : G) (c : Cx) (σ : List AO) (lc : Lc) (v : AV) (x : Str) (body : List Stmt) (k : AF → List AO → Lc → Prop) : Prop :=
  ∃ (xs : List AV) (Gd : List AO → Prop) (J : Nat → List AO → Lc → Prop), WIt g c.d σ lc v xs Gd ∧ J 0 σ lc ∧ (∀ i σ lc, J i σ lc → Gd σ) ∧
    (∀ i v σ lc, xs[i]? = some v → J i σ lc → WN g c σ lc x v fun σ₁ lc₁ => WSs g c σ₁ lc₁ body (forK (J (i + 1)) k)) ∧ ∀ σ lc, J xs.length σ lc → k .next σ lc
theorem ws_for {x : Str} {xp pos : Pos} {iter : Expr} {body : List Stmt} {k : AF → List AO → Lc → Prop} (hfs : ∀ env v, foldedSetIterable iter env v = pure v) (h : WE g c σ lc iter fun v σ₁ => ForOk g c σ₁ lc v x body k) :
    WS g c σ lc (.For (.Name x xp) iter body [] pos) k :=
  fun A env base L as s Rm Re T S Q E q => by
    refine wpAny_For (h A env base L as s Rm Re T S _ E fun h₁ tk₁ bs v v' σ₁ hk S₁ rv => ?_) (hfs env)
    obtain ⟨xs, Gd, J, wit, hJ0, hGd, turn, fin⟩ := hk
    refine wit A base L (as ++ bs) _ v' _ E Rm T S₁ rv fun h₂ tk₂ it P I hP hit hk₂ => ?_
    have hit0 : h₁.get? it = none := none_of_ge hit
    have S₂ : St g.LM base L (as ++ bs) σ₁ lc h₂ := S₁.ext hk₂
    have hb : base.get? it = none := by
      cases e : base.get? it with
      | none => rfl
      | some o => have := S₁.keep _ _ e; rw [hit0] at this; cases this
    have hL : it ≠ L := by
      obtain ⟨m, ⟨oL, _, _, eL, _⟩, _⟩ := S₁.ns
      intro z; rw [← z, hit0] at eL; cases eL
    have ha : it ∉ as ++ bs := fun z => by
      have := S₁.tracked_lt z
      exact absurd this (Nat.not_lt.mpr hit)
    refine codeAny_forLoop (fun n s' => ∃ i cs σ lc h tk, s' = { s with heap := h, toks := tk } ∧ i ≤ xs.length ∧ n = xs.length - i ∧ J i σ lc ∧ St g.LM base L (as ++ bs ++ cs) σ lc h ∧ P (as ++ bs ++ cs) i h ∧ it ∉ as ++ bs ++ cs) ?_ xs.length
      ⟨0, [], σ₁, lc, h₂, tk₂, rfl, Nat.zero_le _, rfl, hJ0, by rw [app_nil]; exact S₂, by rw [app_nil]; exact hP, by rw [app_nil]; exact ha⟩
    rintro n _ ⟨i, cs, σ, lc, h, tk, rfl, hi, rfl, hJ, S, hP, ha⟩
    cases ex : xs[i]? with
    | none =>
      have : i = xs.length := by rw [List.getElem?_eq_none_iff] at ex; omega
      subst this
      refine I.done _ _ Rm S ha (hGd _ _ _ hJ) hP fun h' tk' hk => ?_
      have S' := S.side hb hL ha hk
      exact wpAny_execs_nil (q h' tk' (bs ++ cs) .next .next σ lc (fin _ _ hJ) (by rw [← List.append_assoc]; exact S') rfl)
    | some y =>
      have hi' : i < xs.length := by
        rcases Nat.lt_or_ge i xs.length with z | z
        · exact z
        · rw [List.getElem?_eq_none z] at ex; cases ex
      refine I.item _ _ Rm S ha (hGd _ _ _ hJ) hP ex fun y' h' tk' ry hP' hk => ?_
      have S' := S.side hb hL ha hk
      have Sr := S'.rebase
      have Tr : TopF g (St.rest h' L (as ++ bs ++ cs)) := T.keeps fun b o e => S'.base_rest e
      obtain ⟨oi, hoi⟩ := I.there hP'
      refine wpAny_assign_Name (turn i y σ lc ex hJ A env _ L (as ++ bs ++ cs) { s with heap := h', toks := tk' } y' Rm Re.mono.mono Tr Sr ry _ _ fun h₃ tk₃ ds u u' σ₃ lc₃ hk₃ S₃ _ => ?_)
      refine hk₃ A env _ L (as ++ bs ++ cs ++ ds) _ Rm Re.mono.mono.mono Tr S₃ _ _ fun h₄ tk₄ es f f' σ₄ lc₄ hk₄ S₄ rf => ?_
      have S₄' : St g.LM (St.rest h' L (as ++ bs ++ cs)) L (as ++ bs ++ cs ++ (ds ++ es)) σ₄ lc₄ h₄ := by rw [← List.append_assoc]; exact S₄
      have Sb := S'.back S₄'
      have hro : (St.rest h' L (as ++ bs ++ cs)).get? it = some oi := St.rest_get hoi hL ha
      have hn : it ∉ as ++ bs ++ cs ++ (ds ++ es) := fun z => by have := (S₄'.fresh _ z).1; rw [hro] at this; cases this
      have hPn : P (as ++ bs ++ cs ++ (ds ++ es)) (i + 1) h₄ := I.frame hP' fun o e => S₄'.keep _ _ (St.rest_get e hL ha)
      have eas : as ++ (bs ++ cs ++ (ds ++ es)) = as ++ bs ++ cs ++ (ds ++ es) := by simp only [List.append_assoc]
      have go : ∀ f₀ f₁, k f₀ σ₄ lc₄ → FR (as ++ bs ++ cs ++ (ds ++ es)) f₀ f₁ → Q f₁ { s with heap := h₄, toks := tk₄ } := fun f₀ f₁ hk rf =>
        q h₄ tk₄ (bs ++ cs ++ (ds ++ es)) f₀ f₁ σ₄ lc₄ hk (by rw [eas]; exact Sb) (by rw [eas]; exact rf)
      have on : J (i + 1) σ₄ lc₄ → ∃ m, m < xs.length - i ∧ ∃ i cs σ lc h tk, ({ s with heap := h₄, toks := tk₄ } : Shared) = { s with heap := h, toks := tk } ∧ i ≤ xs.length ∧ m = xs.length - i ∧ J i σ lc ∧ St g.LM base L (as ++ bs ++ cs) σ lc h ∧ P (as ++ bs ++ cs) i h ∧ it ∉ as ++ bs ++ cs := fun hj =>
        ⟨xs.length - (i + 1), by omega, i + 1, cs ++ (ds ++ es), σ₄, lc₄, h₄, tk₄, rfl, hi', rfl, hj, by rw [← List.append_assoc]; exact Sb, by rw [← List.append_assoc]; exact hPn, by rw [← List.append_assoc]; exact hn⟩
      cases f with
      | next => cases rf; exact on hk₄
      | cont => cases rf; exact on hk₄
      | brk => cases rf; exact go .next .next hk₄ rfl
      | ret v => obtain ⟨v', rfl, rv⟩ := rf; exact go (.ret v) (.ret v') hk₄ ⟨v', rfl, by rw [← List.append_assoc]; exact rv⟩
end
end Mine
end

section
namespace Mine
noncomputable def bodyOf : Stmt → List Stmt
  | .FunctionDef _ _ body _ _ _ _ _ _ _ => body
  | .ClassDef _ _ _ body _ _ _ _ _ _ _ => body
  | _ => []
noncomputable def scopeOf : Stmt → Scope
  | .FunctionDef _ _ _ _ _ _ scope _ _ _ => scope
  | _ => default
noncomputable def stAt (n : Nat) : Stmt := Challenge.pw_rl0078_01.main.body.getD n (.Pass default)
noncomputable def meAt (n m : Nat) : Stmt := (bodyOf (stAt n)).getD m (.Pass default)
noncomputable def fdAt (K : Frag) (f : Addr) : FuncData := match K.lookup f with
  | some ⟨_, _, .func fd, _⟩ => fd
  | _ => default
structure FnAt (K : Frag) (f : Addr) (body : List Stmt) (scope : Scope) : Prop where
  at_ : ∃ oc od osl, K.lookup f = some ⟨oc, od, .func (fdAt K f), osl⟩
  body : (fdAt K f).body = .stmts body
  scope : (fdAt K f).scope = scope
  globals : (fdAt K f).globals = mainGlobals
  builtins : (fdAt K f).builtins = builtinsNs
  code : codeIn K (fdAt K f).code (fdAt K f).qualname = true
  keep : keepIn K (.ref f) = true

section
variable {g : G} {c : Cx} {σ : List AO} {lc : Lc} {d : Nat}
noncomputable def WCode (g : G) (d : Nat) (σ : List AO) (lc : Lc) (f : AV) (args : List AV) (k : AV → List AO → Prop) : Prop :=
  ∀ A base L as s f' args', Room d A → TopF g base → St g.LM base L as σ lc s.heap → VR as f f' → VRs as args args' → ∀ R : Result → Shared → Prop,
    (∀ h' tk bs x v σ', k x σ' → St g.LM base L (as ++ bs) σ' lc h' → VR (as ++ bs) x v → R (.ok (.ret v)) { s with heap := h', toks := tk }) → codeAny (MM g) A (.call f' ⟨args', []⟩) R s
theorem call_of_code {f : AV} {args : List AV} {k : AV → List AO → Prop} (h : WCode g d σ lc f args k) : WCall g d σ lc f args k :=
  fun A base L as s f' args' Rm T S rf ra Q E q => wpAny_call (h A base L as s f' args' Rm T S rf ra _ fun h' tk bs x v σ' hk S' r => q h' tk bs x v σ' hk S' r)
theorem code_at {f : Addr} {args : List AV} {body : List Stmt} {scope : Scope} {k : AV → List AO → Prop} {lc₀ : Lc} (binds : List Value → List (Str × Value)) (ok : FnAt g.K f body scope)
    (hbind : ∀ vals : List Value, vals.length = args.length → bindArgs (fdAt g.K f) ⟨vals, []⟩ = pure (binds vals)) (hloc : ∀ vals : List Value, vals.length = args.length → ∀ x ∈ binds vals, scope.names.lookup x.1 = some .local)
    (hlr : ∀ as vals, VRs as args vals → LR as lc₀ fun x => (binds vals).reverse.lookup x)
    (hcell : ∀ x ∈ scope.names, x.2 ≠ .cell) (hco : scope.isCoroutine = false) (hgen : scope.isGenerator = false) (hk : scope.kind = .function)
    (h : WSs g ⟨d, scope, [], none⟩ σ lc₀ body (endOf k)) : WCode g (d + 1) σ lc (.top (.ref f)) args k := by
  rintro A base L as s _ vals Rm T S rfl rv R q
  have T' := T.keeps S.keep
  have hlen : vals.length = args.length := rv.length.symm
  obtain ⟨oc, od, osl, hK⟩ := ok.at_
  refine codeAny_call_def (fd := fdAt g.K f) (body := body) (binds := binds vals) (by have := Rm.depth; show A.depth < 1000; omega) (T'.kin _ _ hK) rfl T'.nolimit (codeRec_of T'.kin ok.code) ok.body (BindsTo.of_eq (hbind vals hlen)) (by rw [ok.scope]; exact hcell) (by rw [ok.scope]; exact hloc vals hlen) (fun h₀ hns hk₀ => ?_) (by rw [ok.scope]; exact hco) (by rw [ok.scope]; exact hgen) (by rw [ok.scope]; exact hk)
  have S₁ := S.enter (lc' := lc₀) hns (hlr as vals rv) hk₀
  have T₁ : TopF g (St.under s.heap as) := T.keeps fun b o e => S.base_under e
  refine h (A.deeper _) _ (St.under s.heap as) s.heap.objs.size as _ (Rm.deeper _) ⟨ok.scope, hk, rfl, fun n l e => (nomatch e), ok.globals, ok.builtins, fun _ _ e => (nomatch e)⟩ T₁ S₁ _ _ fun h' tk bs f f' σ' lc' hk' S' rf => ?_
  have S'' := S.leave S'
  cases f with
  | ret v => obtain ⟨v', rfl, rv'⟩ := rf; exact q h' tk bs v v' σ' hk' S'' rv'
  | next => cases rf; exact q h' tk bs .none .none σ' hk' S'' rfl
  | brk => exact hk'.elim
  | cont => exact hk'.elim
theorem call_at {f : Addr} {args : List AV} {body : List Stmt} {scope : Scope} {k : AV → List AO → Prop} {lc₀ : Lc} (binds : List Value → List (Str × Value)) (ok : FnAt g.K f body scope)
    (hbind : ∀ vals : List Value, vals.length = args.length → bindArgs (fdAt g.K f) ⟨vals, []⟩ = pure (binds vals)) (hloc : ∀ vals : List Value, vals.length = args.length → ∀ x ∈ binds vals, scope.names.lookup x.1 = some .local)
    (hlr : ∀ as vals, VRs as args vals → LR as lc₀ fun x => (binds vals).reverse.lookup x)
    (hcell : ∀ x ∈ scope.names, x.2 ≠ .cell) (hco : scope.isCoroutine = false) (hgen : scope.isGenerator = false) (hk : scope.kind = .function)
    (h : WSs g ⟨d, scope, [], none⟩ σ lc₀ body (endOf k)) : WCall g (d + 1) σ lc (.top (.ref f)) args k := call_of_code (code_at binds ok hbind hloc hlr hcell hco hgen hk h)
theorem code1 {f : Addr} {a : AV} {n1 : Str} {body : List Stmt} {scope : Scope} {k : AV → List AO → Prop} (ok : FnAt g.K f body scope)
    (hbind : ∀ v : Value, bindArgs (fdAt g.K f) ⟨[v], []⟩ = pure [(n1, v)]) (h1 : scope.names.lookup n1 = some .local)
    (hcell : ∀ x ∈ scope.names, x.2 ≠ .cell) (hco : scope.isCoroutine = false) (hgen : scope.isGenerator = false) (hk : scope.kind = .function)
    (h : WSs g ⟨d, scope, [], none⟩ σ [(n1, a)] body (endOf k)) : WCode g (d + 1) σ lc (.top (.ref f)) [a] k := by
  refine code_at (fun vals => match vals with | [v] => [(n1, v)] | _ => []) ok (fun vals e => ?_) (fun vals e x hx => ?_) (fun as vals rv => ?_) hcell hco hgen hk h
  · match vals, e with
    | [v], _ => exact hbind v
  · match vals, e with
    | [v], _ => have : x = (n1, v) := by simpa using hx
                subst this; exact h1
  · cases rv with
    | @cons _ v _ vs r1 rv =>
      cases rv
      intro x u e
      simp only [getV] at e
      by_cases q : n1 = x
      · rw [if_pos q] at e; cases e; exact ⟨v, by simp [q], r1⟩
      · rw [if_neg q] at e; cases e
theorem call1 {f : Addr} {a : AV} {n1 : Str} {body : List Stmt} {scope : Scope} {k : AV → List AO → Prop} (ok : FnAt g.K f body scope)
    (hbind : ∀ v : Value, bindArgs (fdAt g.K f) ⟨[v], []⟩ = pure [(n1, v)]) (h1 : scope.names.lookup n1 = some .local)
    (hcell : ∀ x ∈ scope.names, x.2 ≠ .cell) (hco : scope.isCoroutine = false) (hgen : scope.isGenerator = false) (hk : scope.kind = .function)
    (h : WSs g ⟨d, scope, [], none⟩ σ [(n1, a)] body (endOf k)) : WCall g (d + 1) σ lc (.top (.ref f)) [a] k := call_of_code (code1 ok hbind h1 hcell hco hgen hk h)
theorem call2 {f : Addr} {a b : AV} {n1 n2 : Str} {body : List Stmt} {scope : Scope} {k : AV → List AO → Prop} (ok : FnAt g.K f body scope)
    (hbind : ∀ v u : Value, bindArgs (fdAt g.K f) ⟨[v, u], []⟩ = pure [(n1, v), (n2, u)]) (h1 : scope.names.lookup n1 = some .local) (h2 : scope.names.lookup n2 = some .local) (hne : n1 ≠ n2)
    (hcell : ∀ x ∈ scope.names, x.2 ≠ .cell) (hco : scope.isCoroutine = false) (hgen : scope.isGenerator = false) (hk : scope.kind = .function)
    (h : WSs g ⟨d, scope, [], none⟩ σ [(n1, a), (n2, b)] body (endOf k)) : WCall g (d + 1) σ lc (.top (.ref f)) [a, b] k := by
  refine call_at (fun vals => match vals with | [v, u] => [(n1, v), (n2, u)] | _ => []) ok (fun vals e => ?_) (fun vals e x hx => ?_) (fun as vals rv => ?_) hcell hco hgen hk h
  · match vals, e with
    | [v, u], _ => exact hbind v u
  · match vals, e with
    | [v, u], _ =>
      have : x = (n1, v) ∨ x = (n2, u) := by simpa using hx
      rcases this with rfl | rfl
      · exact h1
      · exact h2
  · cases rv with
    | @cons _ v _ vs r1 rv =>
      cases rv with
      | @cons _ u _ us r2 rv =>
        cases rv
        intro x y e
        simp only [getV] at e
        by_cases q : n1 = x
        · rw [if_pos q] at e; cases e
          refine ⟨v, ?_, r1⟩
          show List.lookup x [(n2, u), (n1, v)] = some v
          rw [List.lookup_cons, List.lookup_cons]
          have : (x == n2) = false := by simpa [← q] using hne
          rw [this]; simp [q]
        · rw [if_neg q] at e
          by_cases q2 : n2 = x
          · rw [if_pos q2] at e; cases e
            exact ⟨u, by show List.lookup x [(n2, u), (n1, v)] = some u; simp [List.lookup, q2], r2⟩
          · rw [if_neg q2] at e; cases e

theorem call_len_str {x : List Nat} {k : AV → List AO → Prop} (hz : x.length ≤ sizeLine) (h : k (.int x.length) σ) : WCall g d σ lc (.top (.builtin "len")) [.str x] k := by
  rintro A base L as s _ _ Rm T S rfl ra
  cases ra with
  | cons r1 ra =>
    cases ra
    obtain ⟨t, rfl⟩ := r1
    refine Tri.here (x := .int x.length) (b := .int x.length (s.toks + 1)) h S (show VR as (.int x.length) _ from ⟨s.toks + 1, rfl⟩) fun Q E q => P.len_str ?_ ?_
    · rw [str_len]; have : x.length ≤ 2 ^ 24 := hz; omega
    · rw [str_len]; exact q _
theorem call_len_list {l : Nat} {xs : List AV} {k : AV → List AO → Prop} (ho : σ[l]? = some (.list xs)) (hz : xs.length ≤ sizeLine) (h : k (.int xs.length) σ) : WCall g d σ lc (.top (.builtin "len")) [.ref l] k := by
  rintro A base L as s _ _ Rm T S rfl ra
  cases ra with
  | cons r1 ra =>
    cases ra
    obtain ⟨a, ea, rfl⟩ := r1
    obtain ⟨o, hg, r⟩ := S.at_ ea ho
    obtain ⟨vs, il, q⟩ := isList_of hg r
    have hlen : vs.size = xs.length := by rw [q.length]; simp
    refine Tri.here (x := .int xs.length) (b := .int xs.length (s.toks + 1)) h S (show VR as (.int xs.length) _ from ⟨s.toks + 1, rfl⟩) fun Q E q => PySem.Calls.call_len_list il ?_ ?_
    · rw [hlen]; have : xs.length ≤ 2 ^ 24 := hz; omega
    · rw [hlen]; exact q _

open Builtin.Str in
theorem picks_lo (u : Option Int) (n : Nat) : strSliceIndices none u 1 n = strSliceIndices (some 0) u 1 n := by
  have : max (0 : Int) (min 0 (n : Int)) = 0 := by omega
  simp [strSliceIndices, this]
open Builtin.Str in
theorem picks_hi (l : Option Int) (n : Nat) : strSliceIndices l none 1 n = strSliceIndices l (some (n : Int)) 1 n := by
  have h1 : ¬ ((n : Int) < 0) := by omega
  have : max (0 : Int) (min (n : Int) (n : Int)) = n := by omega
  simp [strSliceIndices, h1, this]
noncomputable def optN : Option Nat → Option Int
  | none => none
  | some a => some (a : Int)
open Builtin.Str in
theorem picks_eq {x : List Nat} {lo hi : Option Nat} (h1 : lo.getD 0 ≤ hi.getD x.length) (h2 : hi.getD x.length ≤ x.length) :
    strSliceIndices (optN lo) (optN hi) 1 x.length = (List.range (hi.getD x.length - lo.getD 0)).map (fun k => lo.getD 0 + k) := by
  have e1 : strSliceIndices (optN lo) (optN hi) 1 x.length = strSliceIndices (some ((lo.getD 0 : Nat) : Int)) (some ((hi.getD x.length : Nat) : Int)) 1 x.length := by
    cases lo with
    | none => cases hi with
      | none => rw [show optN none = none from rfl, picks_lo, picks_hi]; rfl
      | some b => rw [show optN none = none from rfl, picks_lo]; rfl
    | some a => cases hi with
      | none => rw [show optN none = none from rfl, picks_hi]; rfl
      | some b => rfl
  rw [e1, StrLaws.strSliceIndices_plain h1 h2]
noncomputable def sl (x : List Nat) (lo hi : Option Nat) : List Nat := (x.drop (lo.getD 0)).take (hi.getD x.length - lo.getD 0)
theorem slice_post {x : List Nat} {t : Tok} {lo hi : Option Nat} {tl tu : Tok} {s : Shared} {Q : Value → Shared → Prop} (h1 : lo.getD 0 ≤ hi.getD x.length) (h2 : hi.getD x.length ≤ x.length) (hz : x.length ≤ sizeLine) (q : ∀ t tk, Q (.str ⟨(sl x lo hi).toArray⟩ t) { s with toks := tk }) :
    (sliceMade ⟨x.toArray⟩ t ((optN lo).map fun i => (i, tl)) ((optN hi).map fun i => (i, tu)) none).post Q s := by
  have e : slicePicked ⟨x.toArray⟩ ((optN lo).map fun i => (i, tl)) ((optN hi).map fun i => (i, tu)) none = (List.range (hi.getD x.length - lo.getD 0)).map (fun k => lo.getD 0 + k) := by
    unfold slicePicked
    rw [str_len]
    have := picks_eq h1 h2
    rw [← this]
    cases lo <;> cases hi <;> rfl
  have ep : ((List.range (hi.getD x.length - lo.getD 0)).map (fun k => lo.getD 0 + k)).filterMap ((Str.mk x.toArray).cps[·]?) = sl x lo hi := by
    have := StrLaws.picks x (hi.getD x.length - lo.getD 0) (lo.getD 0) (by omega)
    unfold sl
    rw [← this]
    simp [List.filterMap_map, Function.comp_def]
  unfold sliceMade
  rw [e]
  split
  · rename_i hc
    have hc : hi.getD x.length - lo.getD 0 = x.length := by simpa [str_len] using hc
    have : sl x lo hi = x := by
      unfold sl
      rw [hc]
      have : lo.getD 0 = 0 := by omega
      rw [this]; simp
    have z := q t s.toks
    rw [this] at z
    exact z
  · rw [ep]
    refine ⟨?_, q _ _⟩
    rw [str_len]
    unfold sl
    simp only [List.length_take, List.length_drop]
    omega
noncomputable def optV : Option Nat → AV
  | none => .none
  | some a => .int a
noncomputable def WEo (g : G) (c : Cx) (σ : List AO) (lc : Lc) (e : Option Expr) (k : AV → List AO → Prop) : Prop := match e with
  | none => k .none σ
  | some e => WE g c σ lc e k
theorem weo_none {k : AV → List AO → Prop} (h : k .none σ) : WEo g c σ lc none k := h
theorem weo_some {e : Expr} {k : AV → List AO → Prop} (h : WE g c σ lc e k) : WEo g c σ lc (some e) k := h
theorem weo_run {e : Option Expr} {k : AV → List AO → Prop} (h : WEo g c σ lc e k) : ∀ A env base L as s, Room c.d A → EnvR as c L env → TopF g base → St g.LM base L as σ lc s.heap → Tri g base L as lc s A (evalPart e env) VR k := by
  intro A env base L as s Rm Re T S
  cases e with
  | none => exact Tri.here (show k .none σ from h) S rfl fun Q E q => wpAny_pure (q s.toks)
  | some e => exact (show WE g c σ lc e k from h) A env base L as s Rm Re T S
theorem optV_part {as : List Addr} {n : Option Nat} {v : Value} (r : VR as (optV n) v) : ∃ t, v = partValue ((optN n).map fun i => (i, t)) := by
  cases n with
  | none => exact ⟨0, r⟩
  | some a => obtain ⟨t, rfl⟩ := r; exact ⟨t, rfl⟩
theorem we_slice {value : Expr} {lower upper : Option Expr} {p pos : Pos} {k : AV → List AO → Prop} (ht : ∀ o r, letTemporaryGo value o r = pure ())
    (h : WE g c σ lc value fun v σ₁ => WEo g c σ₁ lc lower fun l σ₂ => WEo g c σ₂ lc upper fun u σ₃ => ∃ x lo hi, v = .str x ∧ l = optV lo ∧ u = optV hi ∧ lo.getD 0 ≤ hi.getD x.length ∧ hi.getD x.length ≤ x.length ∧ x.length ≤ sizeLine ∧ k (.str (sl x lo hi)) σ₃) :
    WE g c σ lc (.Subscript value (.Slice lower upper none p) pos) k :=
  fun A env base L as s Rm Re T S Q E q => wpAny_Subscript_str_slice (h A env base L as s Rm Re T S _ E fun h₁ tk₁ bs v v' σ₁ hk S₁ rv =>
    weo_run hk A env base L (as ++ bs) _ Rm Re.mono T S₁ _ E fun h₂ tk₂ cs l l' σ₂ hk₂ S₂ rl =>
      weo_run hk₂ A env base L (as ++ bs ++ cs) _ Rm Re.mono.mono T S₂ _ E fun h₃ tk₃ ds u u' σ₃ hk₃ S₃ ru => by
        obtain ⟨x, lo, hi, rfl, rfl, rfl, e1, e2, hz, hk⟩ := hk₃
        obtain ⟨t, rfl⟩ := rv
        obtain ⟨tl, rfl⟩ := optV_part rl
        obtain ⟨tu, rfl⟩ := optV_part ru
        refine ⟨_, t, _, _, rfl, rfl, rfl, slice_post e1 e2 hz fun t' tk' => ?_⟩
        have S₄ := S₃.ext (h' := h₃.push { cls := .type "slice", data := .fields #[partValue ((optN lo).map fun i => (i, tl)), partValue ((optN hi).map fun i => (i, tu)), .none] }) fun b o e => Heap.get?_push_of_some _ e
        refine q _ tk' (bs ++ cs ++ ds) (.str (sl x lo hi)) _ σ₃ hk ?_ ⟨t', rfl⟩
        rw [← List.append_assoc, ← List.append_assoc]
        exact S₄) ht
end
end Mine
end

section
namespace Mine

namespace St
variable {LM : Nat → Addr → Obj → Prop} {base h h' : Heap} {L : Addr} {as : List Addr} {σ : List AO} {lc : Lc}
theorem sides (S : St LM base L as σ lc h) {own : List Addr} (hb : ∀ b ∈ own, b ∉ as ∧ b ≠ L ∧ base.get? b = none) (hs : ∀ b o, b ∉ own → h.get? b = some o → h'.get? b = some o) : St LM base L as σ lc h' where
  keep := fun b o e => hs b o (fun z => by rw [(hb b z).2.2] at e; cases e) (S.keep b o e)
  lf := S.lf
  lo := S.lo
  ns := let ⟨m, n, r⟩ := S.ns; ⟨m, n.at' fun o e => hs _ o (fun z => (hb _ z).2.1 rfl) e, r⟩
  len := S.len
  fresh := S.fresh
  obj := fun l a ao ea e => let ⟨o, ho, r⟩ := S.obj l a ao ea e; ⟨o, hs _ o (fun z => (hb _ z).1 (List.mem_of_getElem? ea)) ho, r⟩
  nd := S.nd
end St

section
variable {g : G} {c : Cx} {σ : List AO} {lc : Lc} {d : Nat}

noncomputable def Apart (own as : List Addr) (L : Addr) (base : Heap) : Prop := ∀ b ∈ own, b ∉ as ∧ b ≠ L ∧ base.get? b = none
structure ItB (g : G) (c : Cx) (target : Expr) (it : Addr) (own : List Addr) (n : Nat) (bnd : Nat → Lc → Lc) (Gd : List AO → Prop) (P : List Addr → Nat → Heap → Prop) : Prop where
  frame : ∀ {as bs i h h'}, P as i h → (∀ b ∈ own, ∀ o, h.get? b = some o → h'.get? b = some o) → P (as ++ bs) i h'
  there : ∀ {as i h}, P as i h → ∀ b ∈ own, ∃ o, h.get? b = some o
  item : ∀ {A env base L as σ lc i} {s : Shared} (Q : Unit → Shared → Prop) (E : Value → Shared → Prop), Room c.d A → EnvR as c L env → TopF g base → St g.LM base L as σ lc s.heap → Apart own as L base → Gd σ → P as i s.heap → i < n →
    (∀ h' tk, St g.LM base L as σ (bnd i lc) h' → P as (i + 1) h' → Q () { s with heap := h', toks := tk }) →
    wpAny (MM g) A (pyNext (.ref it)) (fun r s₁ => match r with
      | none => False
      | some v => wpAny (MM g) A (letOwnedTupleGo target (.ref it) v) (fun _ s₂ => wpAny (MM g) A (assign target env v) Q E s₂) E s₁) E s
  done : ∀ {A base L as σ lc} {s : Shared} (Q : Option Value → Shared → Prop) (E : Value → Shared → Prop), Room c.d A → St g.LM base L as σ lc s.heap → Apart own as L base → Gd σ → P as n s.heap →
    (∀ h' tk, St g.LM base L as σ lc h' → Q none { s with heap := h', toks := tk }) → wpAny (MM g) A (pyNext (.ref it)) Q E s
  self : ∀ {A as i} {s : Shared} (Q : Value → Shared → Prop) (E : Value → Shared → Prop), Room c.d A → P as i s.heap → Q (.ref it) s → wpAny (MM g) A (pyIter (.ref it)) Q E s

noncomputable def CompTurn (g : G) (c : Cx) (σ : List AO) (lc : Lc) (ifs : List Expr) (elt : Expr) (a0 : Nat) (J : List AO → Lc → Prop) : Prop :=
  let el (σ : List AO) : Prop := WE g c σ lc elt fun y σ' => ∃ ys, σ'[a0]? = some (.list ys) ∧ ys.length ≤ sizeLine ∧ J (σ'.set a0 (.list (ys ++ [y]))) lc
  match ifs with
  | [] => el σ
  | [t] => WB g c σ lc t fun b σ₁ => if b then el σ₁ else J σ₁ lc
  | _ => False

theorem comp_loop {A : Around} {elt target iter : Expr} {ifs : List Expr} {scope : Scope} {pos : Pos} {it D : Addr} {own : List Addr} {cenv : Env} {n : Nat} {bnd : Nat → Lc → Lc} {Gd : List AO → Prop} {P : List Addr → Nat → Heap → Prop} {base : Heap} {C : Addr} {as : List Addr} {a0 : Nat} {s : Shared} {R : Result → Shared → Prop}
    (Rm : Room c.d A) (Re : EnvR as c C cenv) (T : TopF g base) (S : St g.LM base C as σ lc s.heap) (I : ItB g c target it own n bnd Gd P) (hap : Apart own as C base) (hP : P as 0 s.heap) (ea : as[a0]? = some D)
    (J : Nat → List AO → Lc → Prop) (hJ0 : J 0 σ lc) (hGd : ∀ i σ lc, J i σ lc → Gd σ) (turn : ∀ i σ lc, i < n → J i σ lc → CompTurn g c σ (bnd i lc) ifs elt a0 (J (i + 1)))
    (hR : ∀ h' tk bs σ' lc', St g.LM base C (as ++ bs) σ' lc' h' → J n σ' lc' → R (.ok .next) { s with heap := h', toks := tk }) :
    codeAny (MM g) A (.compLoop (.ListComp elt [⟨target, iter, ifs, 0⟩] scope pos) 0 (.ref it) (.ref D) cenv) R s := by
  refine codeAny_loop rfl (fun m s' => ∃ i cs σ lc h tk, s' = { s with heap := h, toks := tk } ∧ i ≤ n ∧ m = n - i ∧ J i σ lc ∧ St g.LM base C (as ++ cs) σ lc h ∧ P (as ++ cs) i h ∧ Apart own (as ++ cs) C base) ?_ n
    ⟨0, [], σ, lc, s.heap, s.toks, rfl, Nat.zero_le _, rfl, hJ0, by rw [app_nil]; exact S, by rw [app_nil]; exact hP, by rw [app_nil]; exact hap⟩
  rintro m _ ⟨i, cs, σ, lc, h, tk, rfl, hi, rfl, hJ, S, hP, hap⟩
  show wpAny _ A ((compTurn (.ListComp elt [⟨target, iter, ifs, 0⟩] scope pos) 0 (.ref it) (.ref D) cenv).onRaise (fun x => do noteFrame x cenv; theTreesLotGoes x)) _ _ _
  refine wpAny_noted ?_
  rw [compTurn_list]
  refine wpAny_bind (wpAny_standAt (wpAny_bind ?_))
  rcases Nat.lt_or_ge i n with hlt | hge
  · have key : wpAny (MM g) A (pyNext (.ref it)) (fun r s₁ => match r with
      | none => False
      | some v => wpAny (MM g) A (letOwnedTupleGo target (.ref it) v) (fun _ s₂ => wpAny (MM g) A (assign target cenv v) (fun _ s₃ => wpAny (MM g) A (do
          let mut ok := true
          for c in ifs do
            if ok then ok ← isTrue c cenv (eval c cenv)
          if ok then
            (do let _ ← call (.builtin "list.append") [.ref D, ← eval elt cenv])
          again (.compLoop (.ListComp elt [⟨target, iter, ifs, 0⟩] scope pos) 0 (.ref it) (.ref D) cenv))
          (fun fin s' => match fin with | .done f => R (.ok f) s' | .again c' => c' = .compLoop (.ListComp elt [⟨target, iter, ifs, 0⟩] scope pos) 0 (.ref it) (.ref D) cenv ∧ ∃ m, m < n - i ∧ ∃ i cs σ lc h tk, s' = { s with heap := h, toks := tk } ∧ i ≤ n ∧ m = n - i ∧ J i σ lc ∧ St g.LM base C (as ++ cs) σ lc h ∧ P (as ++ cs) i h ∧ Apart own (as ++ cs) C base)
          (notedBy (MM g) A cenv fun e s' => R (.error e) s') s₃) (notedBy (MM g) A cenv fun e s' => R (.error e) s') s₂) (notedBy (MM g) A cenv fun e s' => R (.error e) s') s₁) (notedBy (MM g) A cenv fun e s' => R (.error e) s') { s with heap := h, toks := tk } := by
      refine I.item _ _ Rm Re.mono T S hap (hGd _ _ _ hJ) hP hlt fun h' tk' S' hP' => ?_
      have ht := turn i σ lc hlt hJ
      have Sr := S'.rebase
      have Tr : TopF g (St.rest h' C (as ++ cs)) := T.keeps fun b o e => S'.base_rest e
      have hro : ∀ b ∈ own, ∀ o, h'.get? b = some o → (St.rest h' C (as ++ cs)).get? b = some o := fun b hb o e => St.rest_get e (hap b hb).2.1 (hap b hb).1
      -- how a turn ends
      have fin : ∀ h₂ tk₂ ds σ₂, St g.LM (St.rest h' C (as ++ cs)) C (as ++ cs ++ ds) σ₂ (bnd i lc) h₂ → J (i + 1) σ₂ (bnd i lc) → ∃ m, m < n - i ∧ ∃ i cs σ lc h tk, ({ s with heap := h₂, toks := tk₂ } : Shared) = { s with heap := h, toks := tk } ∧ i ≤ n ∧ m = n - i ∧ J i σ lc ∧ St g.LM base C (as ++ cs) σ lc h ∧ P (as ++ cs) i h ∧ Apart own (as ++ cs) C base := by
        intro h₂ tk₂ ds σ₂ S₂ hj
        have Sb := S'.back S₂
        refine ⟨n - (i + 1), by omega, i + 1, cs ++ ds, σ₂, bnd i lc, h₂, tk₂, rfl, hlt, rfl, hj, by rw [← List.append_assoc]; exact Sb, ?_, ?_⟩
        · rw [← List.append_assoc]
          exact I.frame hP' fun b hb o e => S₂.keep _ _ (hro b hb o e)
        · intro b hb
          refine ⟨fun z => ?_, (hap b hb).2⟩
          obtain ⟨o, ho⟩ := I.there hP' b hb
          rw [← List.append_assoc] at z
          have := (S₂.fresh b z).1
          rw [hro b hb o ho] at this; cases this
      have elem : ∀ {h₁ tk₁ ds σ₁}, St g.LM (St.rest h' C (as ++ cs)) C (as ++ cs ++ ds) σ₁ (bnd i lc) h₁ → (WE g c σ₁ (bnd i lc) elt fun y σ' => ∃ ys, σ'[a0]? = some (.list ys) ∧ ys.length ≤ sizeLine ∧ J (i + 1) (σ'.set a0 (.list (ys ++ [y]))) (bnd i lc)) →
          wpAny (MM g) A (eval elt cenv) (fun x s₄ => wpAny (MM g) A (call (.builtin "list.append") [.ref D, x]) (fun _ s₅ => ∃ m, m < n - i ∧ ∃ i cs σ lc h tk, s₅ = { s with heap := h, toks := tk } ∧ i ≤ n ∧ m = n - i ∧ J i σ lc ∧ St g.LM base C (as ++ cs) σ lc h ∧ P (as ++ cs) i h ∧ Apart own (as ++ cs) C base)
            (notedBy (MM g) A cenv fun e s' => R (.error e) s') s₄) (notedBy (MM g) A cenv fun e s' => R (.error e) s') { s with heap := h₁, toks := tk₁ } := by
        intro h₁ tk₁ ds σ₁ S₁ we
        refine we A cenv _ C (as ++ cs ++ ds) _ Rm Re.mono.mono Tr S₁ _ _ fun h₂ tk₂ es y y' σ₂ hk S₂ ry => ?_
        obtain ⟨ys, hys, hz, hj⟩ := hk
        have ea' : (as ++ cs ++ ds ++ es)[a0]? = some D := get_append (get_append (get_append ea))
        obtain ⟨o, hg, vs, nn, rfl, r⟩ := S₂.at_ ea' hys
        refine wpAny_list_append_plain ⟨nn, hg⟩ (fun h₃ hp hs => ?_) (by have := r.length; simp at this; rw [← this]; exact hz)
        obtain ⟨n', hg'⟩ := hp
        have S₃ := S₂.upd (ao := .list (ys ++ [y])) ea' hs hg' ⟨_, n', rfl, by rw [Array.toList_push]; exact r.append (.one ry)⟩
        exact fin h₃ _ (ds ++ es) _ (by rw [← List.append_assoc]; exact S₃) hj
      match ifs, ht with
      | [], ht =>
        have z := elem (h₁ := h') (tk₁ := tk') (ds := []) (σ₁ := σ) (by rw [app_nil]; exact Sr) ht
        refine wpAny_bind (wpAny_tests_nil ?_)
        exact wpAny_bind (wpAny_bind (wpAny_mono z (fun x s₄ h₄ => wpAny_bind (wpAny_mono h₄ (fun _ s₅ h₅ => wpAny_pure (wpAny_pure ⟨rfl, h₅⟩)) fun _ _ h' => h')) fun _ _ h' => h'))
      | [t], ht =>
        refine wpAny_bind (wpAny_tests_one ((show WB g c σ (bnd i lc) t _ from ht) A cenv _ C (as ++ cs) _ Rm Re.mono Tr Sr _ _ fun h₁ tk₁ ds b b' σ₁ hk S₁ rb => ?_))
        cases rb
        cases b with
        | false => exact wpAny_pure ⟨rfl, fin h₁ tk₁ ds σ₁ S₁ hk⟩
        | true =>
          have z := elem S₁ (tk₁ := tk₁) hk
          exact wpAny_bind (wpAny_bind (wpAny_mono z (fun x s₄ h₄ => wpAny_bind (wpAny_mono h₄ (fun _ s₅ h₅ => wpAny_pure (wpAny_pure ⟨rfl, h₅⟩)) fun _ _ h' => h')) fun _ _ h' => h'))
    refine wpAny_mono key (fun r s₁ h₁ => ?_) fun _ _ x => x
    cases r with
    | none => exact h₁.elim
    | some v => exact wpAny_bind (wpAny_mono h₁ (fun _ s₂ h₂ => wpAny_bind h₂) fun _ _ x => x)
  · have : i = n := by omega
    subst this
    exact I.done _ _ Rm S hap (hGd _ _ _ hJ) hP fun h' tk' S' => wpAny_pure (hR h' tk' cs σ lc S' hJ)
end
end Mine
end

section
namespace Mine
section
variable {g : G} {c : Cx} {σ : List AO} {lc : Lc} {d : Nat}

noncomputable def relab (scope psc : Scope) : Scope := { scope with names := scope.names.map fun (n, k) => if (k == .free && psc.kind == .function && psc.names.lookup n == some .cell) then (n, .cell) else (n, k) }
theorem relabel_eq {scope : Scope} {env : Env} {as : List Addr} {L : Addr} (Re : EnvR as c L env) : relabel scope env = relab scope c.sc := by
  unfold relabel relab
  rw [Re.scope]
  have : ∀ n, env.kindOf n = c.sc.names.lookup n := fun n => kindOf_eq Re rfl
  simp only [this]
noncomputable def CellsOk (c : Cx) (scope : Scope) (cl' : List (Str × Nat)) : Prop := ∀ as L env, EnvR as c L env → ∃ cl, closureFor scope env = pure cl ∧ ∀ n l, getC n cl' = some l → ∃ a : Addr, as[l]? = some a ∧ cl.lookup n = some a
theorem cells_none {scope : Scope} (h : ∀ x ∈ scope.names, x.2 ≠ .free) : CellsOk c scope [] := fun as L env Re => ⟨[], closureFor_none h, fun n l e => nomatch e⟩
theorem closure_one (n : Str) (env : Env) (a : Addr) (hc : env.cells.lookup n = some a) : ∀ (names : List (Str × NameKind)), names.filter (·.2 == .free) = [(n, .free)] → (forIn names ([] : List (Str × Addr)) fun (x : Str × NameKind) r => if (x.2 == NameKind.free) = true then do let __do_lift ← cellOf env x.1; pure (ForInStep.yield ((x.1, __do_lift) :: r)) else pure (ForInStep.yield r)) = (pure [(n, a)] : Sem (List (Str × Addr))) := by
  have nofree : ∀ (names : List (Str × NameKind)) (acc : List (Str × Addr)), names.filter (·.2 == .free) = [] → (forIn names acc fun (x : Str × NameKind) r => if (x.2 == NameKind.free) = true then do let __do_lift ← cellOf env x.1; pure (ForInStep.yield ((x.1, __do_lift) :: r)) else pure (ForInStep.yield r)) = (pure acc : Sem (List (Str × Addr))) := by
    intro names
    induction names with
    | nil => intro acc _; rfl
    | cons p r ih =>
      intro acc h
      have hp : (p.2 == NameKind.free) = false := by
        cases q : (p.2 == NameKind.free) with
        | false => rfl
        | true => simp only [List.filter_cons, q, if_true] at h; cases h
      simp only [List.filter_cons, hp, Bool.false_eq_true, if_false] at h
      rw [List.forIn_cons, if_neg (by rw [hp]; decide)]
      exact ih acc h
  intro names
  induction names with
  | nil => intro h; cases h
  | cons p r ih =>
    intro h
    cases q : (p.2 == NameKind.free) with
    | false =>
      simp only [List.filter_cons, q, Bool.false_eq_true, if_false] at h
      rw [List.forIn_cons, if_neg (by rw [q]; decide)]
      exact ih h
    | true =>
      simp only [List.filter_cons, q, if_true] at h
      injection h with h1 h2
      subst h1
      rw [List.forIn_cons, if_pos q]
      have : cellOf env n = pure a := by unfold cellOf; rw [hc]
      show (cellOf env n >>= fun y => pure (ForInStep.yield [(n, y)])) >>= _ = _
      rw [this]
      exact nofree r _ h2
theorem cells_one {scope : Scope} {n : Str} {l : Nat} (h : scope.names.filter (·.2 == .free) = [(n, .free)]) (hc : getC n c.cl = some l) : CellsOk c scope [(n, l)] := fun as L env Re => by
  obtain ⟨a, ea, ec⟩ := Re.cells n l hc
  refine ⟨[(n, a)], ?_, fun n' l' e => ?_⟩
  · have := closure_one n env a ec scope.names h
    exact (congrArg (· >>= fun s => pure s) this).trans rfl
  · simp only [getC] at e
    by_cases q : n = n'
    · rw [if_pos q] at e; cases e; exact ⟨a, ea, by simp [q]⟩
    · rw [if_neg q] at e; cases e

noncomputable def WItE (g : G) (c c' : Cx) (σ : List AO) (lc : Lc) (iter target : Expr) (K : List AO → Nat → (Nat → Lc → Lc) → (List AO → Prop) → Prop) : Prop :=
  ∀ A env base L as s (Q : Value → Shared → Prop) (E : Value → Shared → Prop), Room c.d A → EnvR as c L env → TopF g base → St g.LM base L as σ lc s.heap →
    (∀ h' tk bs σ₁ n bnd Gd it own P, K σ₁ n bnd Gd → ItB g c' target it own n bnd Gd P → P (as ++ bs) 0 h' → Apart own (as ++ bs) L base → St g.LM base L (as ++ bs) σ₁ lc h' → Q (.ref it) { s with heap := h', toks := tk }) →
    wpAny (MM g) A (eval iter env) (fun x s₁ => wpAny (MM g) A (pyIter x) Q E s₁) E s

noncomputable def CompOk (g : G) (c' : Cx) (ifs : List Expr) (elt : Expr) (k : AV → List AO → Prop) (σ₁ : List AO) (n : Nat) (bnd : Nat → Lc → Lc) (Gd : List AO → Prop) : Prop :=
  ∃ J : Nat → List AO → Lc → Prop, J 0 (σ₁ ++ [.list []]) [] ∧ (∀ i σ lc, J i σ lc → Gd σ) ∧ (∀ i σ lc, i < n → J i σ lc → CompTurn g c' σ (bnd i lc) ifs elt σ₁.length (J (i + 1))) ∧ ∀ σ lc, J n σ lc → k (.ref σ₁.length) σ

theorem comp_block {A : Around} {env : Env} {base : Heap} {L : Addr} {as : List Addr} {s : Shared} {elt target iter : Expr} {ifs : List Expr} {scope : Scope} {pos : Pos} {it : Addr} {own : List Addr} {n : Nat} {bnd : Nat → Lc → Lc} {Gd : List AO → Prop} {P : List Addr → Nat → Heap → Prop} {cl' : List (Str × Nat)} {cl : List (Str × Addr)}
    {E : Value → Shared → Prop} {RR : Value → Addr → Result → Shared → Prop} {k : AV → List AO → Prop}
    (hcell : ∀ x ∈ scope.names, x.2 ≠ .cell) (hkind : scope.kind = .function)
    (Rm : Room c.d A) (Re : EnvR as c L env) (T : TopF g base) (S : St g.LM base L as σ lc s.heap) (hcl : ∀ n l, getC n cl' = some l → ∃ a : Addr, as[l]? = some a ∧ cl.lookup n = some a)
    (I : ItB g ⟨c.d, relab scope c.sc, cl', none⟩ target it own n bnd Gd P) (hap : Apart own as L base) (hP : P as 0 s.heap) (ok : CompOk g ⟨c.d, relab scope c.sc, cl', none⟩ ifs elt k σ n bnd Gd)
    (hRR : ∀ D C h' tk bs σ', k (.ref σ.length) σ' → (as ++ bs)[σ.length]? = some D → St g.LM base L (as ++ bs) σ' lc h' → C ∉ as ++ bs → C ≠ L → base.get? C = none → (∃ m, h'.Ns C m) → RR (.ref D) C (.ok .next) { s with heap := h', toks := tk }) :
    wpAny (MM g) A (newList []) (fun acc s₃ => wpAny (MM g) A (newFunctionEnv scope env.globals cl [] env.qual none .none (some env)) (fun cenv s₄ =>
      codeAny (MM g) A (.compStart (.ListComp elt [⟨target, iter, ifs, 0⟩] scope pos) 0 (.ref it) acc { cenv with scope := relabel scope env }) (RR acc cenv.locals) s₄) E s₃) E s := by
  obtain ⟨J, hJ0, hGd, turn, fin⟩ := ok
  refine wpAny_newList ?_ (by simp)
  have S₃ : St g.LM base L (as ++ [s.heap.objs.size]) (σ ++ [.list []]) lc (s.heap.push { cls := .type "list", data := .seq ([] : List Value).toArray }) := S.alloc rfl ⟨_, _, rfl, .nil⟩
  refine wpAny_newFunctionEnv hcell (fun x hx => (nomatch hx)) (fun h₄ hns hsb => ?_) hkind
  dsimp only at hns hsb ⊢
  generalize hH : s.heap.push { cls := .type "list", data := .seq ([] : List Value).toArray } = H at S₃ hns hsb ⊢
  have hsz : H.objs.size = s.heap.objs.size + 1 := by rw [← hH, Heap.size_push]
  have old : ∀ b o, H.get? b = some o → h₄.get? b = some o := fun b o e => hsb.extBut b o (Nat.ne_of_lt (Heap.lt_size e)) (Heap.get?_push_of_some _ e)
  have oldS : ∀ b o, s.heap.get? b = some o → H.get? b = some o := fun b o e => hH ▸ Heap.get?_push_of_some _ e
  have S₄ : St g.LM base L (as ++ [s.heap.objs.size]) (σ ++ [.list []]) lc h₄ := S₃.ext old
  have hown : ∀ b ∈ own, b < s.heap.objs.size := fun b hb => let ⟨o, ho⟩ := I.there hP b hb; Heap.lt_size ho
  obtain ⟨m, nsL, lrL⟩ := S₄.ns
  have hLlt : L < s.heap.objs.size := by obtain ⟨m, ⟨oL, _, _, e, _⟩, _⟩ := S.ns; exact Heap.lt_size e
  have hasl : ∀ a ∈ as ++ [s.heap.objs.size], a < H.objs.size := fun a ha => S₃.tracked_lt ha
  -- the heap that the loop is to keep
  have hC : ∀ b, b < H.objs.size → b ≠ H.objs.size := fun b q => Nat.ne_of_lt q
  let hid := H.objs.size :: (own ++ (as ++ [s.heap.objs.size]))
  have bsub : ∀ b o, base.get? b = some o → (hideAll h₄ hid).get? b = some o := fun b o e => hideAll_get _ (S₄.keep b o e) fun q => by
    rcases List.mem_cons.mp q with q | q
    · have := Heap.lt_size (S₃.keep b o e); rw [q] at this; exact absurd this (Nat.lt_irrefl _)
    · rcases List.mem_append.mp q with q | q
      · rw [(hap b q).2.2] at e; cases e
      · rw [(S₄.fresh b q).1] at e; cases e
  have Lin : ∀ o, h₄.get? L = some o → (hideAll h₄ hid).get? L = some o := fun o e => hideAll_get _ e fun q => by
    rcases List.mem_cons.mp q with q | q
    · exact absurd q (by rw [hsz]; exact Nat.ne_of_lt (Nat.lt_succ_of_lt hLlt))
    · rcases List.mem_append.mp q with q | q
      · exact (hap L q).2.1 rfl
      · exact (S₄.fresh L q).2 rfl
  have SC : St g.LM (hideAll h₄ hid) H.objs.size (as ++ [s.heap.objs.size]) (σ ++ [.list []]) [] h₄ := by
    refine ⟨fun b o e => of_hideAll _ e, hideAll_none _ (.head _), ?_, ⟨_, hns, fun x v e => nomatch e⟩, S₄.len, fun a ha => ⟨hideAll_none _ (.tail _ (List.mem_append_right _ ha)), hC _ (hasl a ha)⟩, S₄.obj, S₄.nd⟩
    exact Nat.le_trans S.lo (by rw [hsz]; exact Nat.le_of_lt (Nat.lt_succ_of_lt hLlt))
  have TC : TopF g (hideAll h₄ hid) := T.keeps bsub
  have apC : Apart own (as ++ [s.heap.objs.size]) H.objs.size (hideAll h₄ hid) := fun b hb => ⟨fun q => by
      rcases List.mem_append.mp q with q | q
      · exact (hap b hb).1 q
      · have : b = s.heap.objs.size := by simpa using q
        exact absurd this (Nat.ne_of_lt (hown b hb)), by rw [hsz]; exact Nat.ne_of_lt (Nat.lt_succ_of_lt (hown b hb)), hideAll_none _ (.tail _ (List.mem_append_left _ hb))⟩
  have PC : P (as ++ [s.heap.objs.size]) 0 h₄ := I.frame hP fun b _ o e => old b o (oldS b o e)
  have ReC : EnvR (as ++ [s.heap.objs.size]) ⟨c.d, relab scope c.sc, cl', none⟩ H.objs.size { (newEnv scope H.objs.size env.globals cl env.qual none .none (some env) builtinsNs) with scope := relabel scope env } := by
    refine ⟨relabel_eq Re, hkind, rfl, fun n' l' e => ?_, Re.glob, Re.bi, fun _ _ e => (nomatch e)⟩
    obtain ⟨a, e1, e2⟩ := hcl n' l' e
    exact ⟨a, get_append e1, e2⟩
  have loop : codeAny (MM g) A (.compLoop (.ListComp elt [⟨target, iter, ifs, 0⟩] scope pos) 0 (.ref it) (.ref s.heap.objs.size) { (newEnv scope H.objs.size env.globals cl env.qual none .none (some env) builtinsNs) with scope := relabel scope env })
      (RR (.ref s.heap.objs.size) H.objs.size) { s with heap := h₄, toks := s.toks + ([] : List (Str × Value)).length } := by
    refine comp_loop (c := ⟨c.d, relab scope c.sc, cl', none⟩) Rm ReC TC SC I apC PC (a0 := σ.length) (new_ref S.len) J hJ0 hGd turn fun h' tk bs σ' lc' S' hj => ?_
    have eas : as ++ ([s.heap.objs.size] ++ bs) = as ++ [s.heap.objs.size] ++ bs := by simp only [List.append_assoc]
    have fr' : ∀ a ∈ as ++ [s.heap.objs.size] ++ bs, base.get? a = none ∧ a ≠ L := fun a ha => by
      have z := S'.fresh a ha
      refine ⟨?_, fun q => ?_⟩
      · cases q : base.get? a with
        | none => rfl
        | some o => have := bsub a o q; rw [z.1] at this; cases this
      · obtain ⟨oL, _, _, e, _⟩ := nsL
        have := Lin oL e
        rw [← q, z.1] at this; cases this
    have SP : St g.LM base L (as ++ [s.heap.objs.size] ++ bs) σ' lc h' :=
      ⟨fun b o e => S'.keep b o (bsub b o e), S.lf, S.lo, ⟨m, nsL.at' fun o e => S'.keep _ _ (Lin o e), lrL.mono⟩, S'.len, fr', S'.obj, S'.nd⟩
    refine hRR s.heap.objs.size H.objs.size h' tk ([s.heap.objs.size] ++ bs) σ' (fin _ _ hj) (by rw [eas]; exact get_append (new_ref S.len)) (by rw [eas]; exact SP) (by rw [eas]; exact fun q => (S'.fresh _ q).2 rfl) (by rw [hsz]; exact Ne.symm (Nat.ne_of_lt (Nat.lt_succ_of_lt hLlt))) ?_ (let ⟨m', n', _⟩ := S'.ns; ⟨m', n'⟩)
    cases q : base.get? H.objs.size with
    | none => rfl
    | some o => exact absurd (Heap.lt_size (S₃.keep _ _ q)) (Nat.lt_irrefl _)
  exact codeAny_compStart_list loop (I.self _ _ Rm PC loop)

theorem we_comp {elt target iter : Expr} {ifs : List Expr} {scope : Scope} {pos : Pos} {cl' : List (Str × Nat)} {k : AV → List AO → Prop} (hcl : CellsOk c scope cl')
    (hcell : ∀ x ∈ scope.names, x.2 ≠ .cell) (hkind : scope.kind = .function) (hnames : ∀ y ∈ scope.names, y.2 = .local → scope.names.lookup y.1 = some .local) (hs : ∀ env x, foldedSetIterable iter env x = pure x)
    (h : WItE g c ⟨c.d, relab scope c.sc, cl', none⟩ σ lc iter target (CompOk g ⟨c.d, relab scope c.sc, cl', none⟩ ifs elt k)) : WE g c σ lc (.ListComp elt [⟨target, iter, ifs, 0⟩] scope pos) k :=
  fun A env base L as s Rm Re T S Q E q => by
    rw [eval_ListComp]
    obtain ⟨cl, hclos, hcl'⟩ := hcl as L env Re
    refine wpAny_comprehension_free (use := none) rfl (hs env) hclos hkind hnames (h A env base L as s _ E Rm Re T S fun h₁ tk₁ bs σ₁ n bnd Gd it own P ok I hP hap S₁ => ?_)
    refine comp_block (RR := fun acc C => compPost (MM g) A E none Q acc C) hcell hkind Rm Re.mono T S₁ (fun n l e => let ⟨a, x, y⟩ := hcl' n l e; ⟨a, get_append x, y⟩) I hap hP ok fun D C h' tk cs σ' hk eD S' hC hCL hCb hns => ?_
    obtain ⟨m, hns⟩ := hns
    refine ⟨m, hns, fun h'' hs'' => ?_⟩
    have S'' := S'.side hCb hCL hC fun b o hb e => hs''.extBut b o hb e
    exact q h'' tk (bs ++ cs) (.ref σ₁.length) (.ref D) σ' hk (by rw [← List.append_assoc]; exact S'') ⟨D, by rw [← List.append_assoc]; exact eD, rfl⟩
end
end Mine
end

section
namespace Mine
section
variable {g : G} {c c' : Cx} {σ : List AO} {lc : Lc} {d : Nat}

theorem itb_name {x : Str} {xp : Pos} {it : Addr} {xs : List AV} {Gd : List AO → Prop} {P : List Addr → Nat → Heap → Prop} (hl : c.sc.names.lookup x = some .local) (I : Itr g it xs Gd P) :
    ItB g c (.Name x xp) it [it] xs.length (fun i lc => putV x (xs.getD i .none) lc) Gd P where
  frame := fun hP hk => I.frame hP fun o e => hk it (by simp) o e
  there := fun hP b hb => by
    have : b = it := by simpa using hb
    subst this; exact I.there hP
  item := fun {A env base L as σ lc i s} Q E Rm Re T S hap hGd hP hi hQ => by
    have hx : xs[i]? = some (xs.getD i .none) := by simp [hi]
    have ha := hap it (by simp)
    refine I.item _ _ Rm S ha.1 hGd hP hx fun v' h' tk rv hP' hk => ?_
    have S' := S.side ha.2.2 ha.2.1 ha.1 hk
    refine wpAny_of_eq (a := ()) rfl (wpAny_assign_Name ?_)
    obtain ⟨m, n, lr⟩ := S'.ns
    refine wpAny_storeName_local (m := m) (kindOf_eq Re hl) (by rw [Re.loc]; exact n) (fun h'' hn hs => ?_) (by rw [Re.scope, Re.kind]; rfl)
    rw [Re.loc] at hn hs
    have S'' : St g.LM base L as σ (putV x (xs.getD i .none) lc) h'' := by
      refine ⟨fun b o e => (hs.2 b fun z => S.ne_L e z).trans (S'.keep b o e), S'.lf, S'.lo, ⟨_, hn, lr.put rv⟩, S'.len, S'.fresh, ?_, S'.nd⟩
      intro l a ao ea e
      obtain ⟨o, ho, r'⟩ := S'.obj l a ao ea e
      exact ⟨o, (hs.2 a (S'.fresh a (List.mem_of_getElem? ea)).2).trans ho, r'⟩
    have hP'' : P (as ++ []) (i + 1) h'' := I.frame hP' fun o e => (hs.2 it ha.2.1).trans e
    rw [app_nil] at hP''
    exact hQ h'' _ S'' hP''
  done := fun {A base L as σ lc s} Q E Rm S hap hGd hP hQ => by
    have ha := hap it (by simp)
    exact I.done _ _ Rm S ha.1 hGd hP fun h' tk hk => hQ h' tk (S.side ha.2.2 ha.2.1 ha.1 hk)
  self := fun {A as i s} Q E Rm hP hQ => I.self Q E Rm hP hQ
theorem apart_of {base h : Heap} {L : Addr} {as own : List Addr} {LM} (S : St LM base L as σ lc h) (ho : ∀ b ∈ own, h.objs.size ≤ b) : Apart own as L base := fun b hb => by
  refine ⟨fun q => absurd (S.tracked_lt q) (Nat.not_lt.mpr (ho b hb)), fun z => ?_, ?_⟩
  · obtain ⟨m, ⟨oL, _, _, e, _⟩, _⟩ := S.ns
    have := Heap.lt_size e
    rw [← z] at this
    exact absurd this (Nat.not_lt.mpr (ho b hb))
  · cases q : base.get? b with
    | none => rfl
    | some o => exact absurd (Heap.lt_size (S.keep _ _ q)) (Nat.not_lt.mpr (ho b hb))
theorem wite_val {iter : Expr} {x : Str} {xp : Pos} {K : List AO → Nat → (Nat → Lc → Lc) → (List AO → Prop) → Prop} (hd : c'.d = c.d) (hl : c'.sc.names.lookup x = some .local)
    (h : WE g c σ lc iter fun v σ₁ => ∃ xs Gd, WIt g c.d σ₁ lc v xs Gd ∧ K σ₁ xs.length (fun i lc => putV x (xs.getD i .none) lc) Gd) : WItE g c c' σ lc iter (.Name x xp) K :=
  fun A env base L as s Q E Rm Re T S hQ => h A env base L as s Rm Re T S _ E fun h₁ tk₁ bs v v' σ₁ hk S₁ rv => by
    obtain ⟨xs, Gd, wit, hK⟩ := hk
    refine wit A base L (as ++ bs) _ v' _ E Rm T S₁ rv fun h₂ tk₂ it P I hP hit hk₂ => ?_
    refine hQ h₂ tk₂ bs σ₁ xs.length _ Gd it [it] P hK (itb_name hl I) hP ?_ (S₁.ext hk₂)
    exact apart_of S₁ fun b hb => by have : b = it := by simpa using hb
                                     subst this; exact hit

noncomputable def CallIt (g : G) (c c' : Cx) (σ : List AO) (lc : Lc) (T : String) (vs : List AV) (target : Expr) (K : List AO → Nat → (Nat → Lc → Lc) → (List AO → Prop) → Prop) : Prop :=
  ∀ A base L as s vs' (Q : Value → Shared → Prop) (E : Value → Shared → Prop), Room c.d A → TopF g base → St g.LM base L as σ lc s.heap → VRs as vs vs' →
    (∀ h' tk n bnd Gd it own P, K σ n bnd Gd → ItB g c' target it own n bnd Gd P → P as 0 h' → Apart own as L base → St g.LM base L as σ lc h' → Q (.ref it) { s with heap := h', toks := tk }) →
    wpAny (MM g) A (call (.type T) vs') (fun x s₁ => wpAny (MM g) A (pyIter x) Q E s₁) E s
theorem wite_call {func e : Expr} {es : List Expr} {pos : Pos} {target : Expr} {K : List AO → Nat → (Nat → Lc → Lc) → (List AO → Prop) → Prop}
    (he : ∀ env, eval (.Call func (e :: es) [] pos) env = (eval func env >>= fun f => callWith pos f [] (backTo pos (starEach (e :: es) env)) (backToKw pos (keywordEach [] env))))
    (hs : ∀ env, starEach (e :: es) env = (false, eval e env) :: starEach es env) (hp : ∀ env, (backTo pos (starEach es env)).any (·.1) = false)
    (h : WE g c σ lc func fun f σ₁ => WEs g c σ₁ lc (e :: es) fun vs σ₂ => ∃ T, f = .top (.type T) ∧ CallIt g c c' σ₂ lc T vs target K) : WItE g c c' σ lc (.Call func (e :: es) [] pos) target K :=
  fun A env base L as s Q E Rm Re T S hQ => by
    rw [he]
    refine wpAny_bind (h A env base L as s Rm Re T S _ E fun h₁ tk₁ bs f f' σ₁ hk S₁ rf => ?_)
    have z := hk A env base L (as ++ bs) { s with heap := h₁, toks := tk₁ } pos Rm Re.mono T S₁
    rw [hs] at z ⊢
    refine callWith_of (P := KpV g f') (by show ((false || (backTo pos (starEach es env)).any (·.1)) || false) = false; rw [hp]; rfl) (fun _ z => z) (evalArgs_plain (z _ E fun h₂ tk₂ cs vs vs' σ₂ hk₂ S₂ rvs => ?_))
    obtain ⟨Ty, rfl, hc⟩ := hk₂
    cases rf
    refine ⟨⟨.machine, .inr (.inl rfl), Looks.now⟩, hc A base L (as ++ bs ++ cs) _ vs' Q E Rm T S₂ rvs fun h' tk n bnd Gd it own P hK I hP hap S' => ?_⟩
    have eas : as ++ (bs ++ cs) = as ++ bs ++ cs := by simp only [List.append_assoc]
    exact hQ h' tk (bs ++ cs) σ₂ n bnd Gd it own P hK I (by rw [eas]; exact hP) (by rw [eas]; exact hap) (by rw [eas]; exact S')
noncomputable def rangeL (a : Int) (n : Nat) : List AV := (List.range n).map fun i : Nat => AV.int (a + (i : Int))
theorem range_itr {it : Addr} {a : Int} {n : Nat} : Itr g it (rangeL a n) (fun _ => True) fun _ i h => IsRangeIter h it (a + (i : Nat) * 1) ((n : Int) - (i : Nat)) 1 :=
  walk_itr (fun A' hA => Walks.range hA it a 1 n) (by simp [rangeL]) (fun as i v x hp hx => by
    obtain ⟨t, rfl⟩ := hp
    simp only [rangeL, List.getElem?_map] at hx
    rcases Nat.lt_or_ge i n with q | q
    · rw [List.getElem?_range q] at hx
      simp only [Option.map_some, Option.some.injEq] at hx
      subst hx
      exact ⟨t, by rw [Int.mul_one]⟩
    · rw [List.getElem?_eq_none (by simpa using q)] at hx; cases hx) fun i h st => ⟨_, st⟩
theorem range_go {A : Around} {base : Heap} {L : Addr} {as : List Addr} {s s' : Shared} {a b : Int} {t u v : Tok} {x : Str} {xp : Pos} {K : List AO → Nat → (Nat → Lc → Lc) → (List AO → Prop) → Prop} {Q : Value → Shared → Prop} {E : Value → Shared → Prop} {r : Addr}
    (hl : c'.sc.names.lookup x = some .local) (h1 : -(2 ^ 62) ≤ a) (h2 : a < 2 ^ 62) (h3 : -(2 ^ 62) ≤ b) (h4 : b < 2 ^ 62) (hK : K σ (rangeL a (b - a).toNat).length (fun i lc => putV x ((rangeL a (b - a).toNat).getD i .none) lc) (fun _ => True))
    (S : St g.LM base L as σ lc s.heap) (hr : IsRange s'.heap r a b 1 t u v) (hk : ∀ b o, s.heap.get? b = some o → s'.heap.get? b = some o) (hsz : s.heap.objs.size ≤ s'.heap.objs.size) (hrest : ∃ h tk, s' = { s with heap := h, toks := tk })
    (hQ : ∀ h' tk n bnd Gd it own P, K σ n bnd Gd → ItB g c' (.Name x xp) it own n bnd Gd P → P as 0 h' → Apart own as L base → St g.LM base L as σ lc h' → Q (.ref it) { s with heap := h', toks := tk }) :
    wpAny (MM g) A (pyIter (.ref r)) Q E s' := by
  obtain ⟨h, tk, rfl⟩ := hrest
  refine wpAny_pyIter_range hr (small_one h1 h2 h3 h4) ?_
  have ap : Apart [h.objs.size] as L base := apart_of S fun b hb => by
    have : b = h.objs.size := by simpa using hb
    subst this; exact hsz
  refine hQ _ tk _ _ _ h.objs.size [h.objs.size] _ hK (itb_name hl range_itr) ?_ ap (S.ext fun b o e => Heap.get?_push_of_some _ (hk b o e))
  show IsRangeIter _ _ _ _ _
  have e1 : a + ((0 : Nat) : Int) * 1 = a := by simp
  have e2 : (((b - a).toNat : Int)) - ((0 : Nat) : Int) = Builtin.Range.rangeSize a b 1 := by rw [rangeSize_nat]; simp
  rw [e1, e2]
  exact Heap.get?_push_size _ rfl
theorem callit_range1 {b : Int} {x : Str} {xp : Pos} {K : List AO → Nat → (Nat → Lc → Lc) → (List AO → Prop) → Prop} (hl : c'.sc.names.lookup x = some .local) (h3 : -(2 ^ 62) ≤ b) (h4 : b < 2 ^ 62)
    (hK : K σ (rangeL 0 b.toNat).length (fun i lc => putV x ((rangeL 0 b.toNat).getD i .none) lc) (fun _ => True)) : CallIt g c c' σ lc "range" [.int b] (.Name x xp) K := by
  rintro A base L as s _ Q E Rm T S rv hQ
  cases rv with
  | cons r1 rv =>
    cases rv
    obtain ⟨t, rfl⟩ := r1
    refine call_range_1 ?_
    exact range_go (s := s) hl (by decide) (by decide) h3 h4 (by rw [Int.sub_zero]; exact hK) S (IsRange.new ..) (fun b o e => Heap.get?_push_of_some _ e) (by show _ ≤ (Heap.push _ _).objs.size; rw [Heap.size_push]; exact Nat.le_succ _) ⟨_, _, rfl⟩ hQ
theorem callit_range2 {a b : Int} {x : Str} {xp : Pos} {K : List AO → Nat → (Nat → Lc → Lc) → (List AO → Prop) → Prop} (hl : c'.sc.names.lookup x = some .local) (h1 : -(2 ^ 62) ≤ a) (h2 : a < 2 ^ 62) (h3 : -(2 ^ 62) ≤ b) (h4 : b < 2 ^ 62)
    (hK : K σ (rangeL a (b - a).toNat).length (fun i lc => putV x ((rangeL a (b - a).toNat).getD i .none) lc) (fun _ => True)) : CallIt g c c' σ lc "range" [.int a, .int b] (.Name x xp) K := by
  rintro A base L as s _ Q E Rm T S rv hQ
  cases rv with
  | cons r1 rv =>
    cases rv with
    | cons r2 rv =>
      cases rv
      obtain ⟨t, rfl⟩ := r1
      obtain ⟨u, rfl⟩ := r2
      refine call_range_2 ?_
      exact range_go (s := s) hl h1 h2 h3 h4 hK S (IsRange.new ..) (fun b o e => Heap.get?_push_of_some _ e) (by show _ ≤ (Heap.push _ _).objs.size; rw [Heap.size_push]; exact Nat.le_succ _) ⟨_, _, rfl⟩ hQ
end
end Mine
end

section
namespace Mine
section
variable {g : G} {c c' : Cx} {σ : List AO} {lc : Lc} {d : Nat}

noncomputable def ForE (g : G) (c : Cx) (lc : Lc) (body : List Stmt) (k : AF → List AO → Lc → Prop) (σ₁ : List AO) (n : Nat) (bnd : Nat → Lc → Lc) (Gd : List AO → Prop) : Prop :=
  ∃ J : Nat → List AO → Lc → Prop, J 0 σ₁ lc ∧ (∀ i σ lc, J i σ lc → Gd σ) ∧ (∀ i σ lc, i < n → J i σ lc → WSs g c σ (bnd i lc) body (forK (J (i + 1)) k)) ∧ ∀ σ lc, J n σ lc → k .next σ lc
theorem ws_forE {target iter : Expr} {pos : Pos} {body : List Stmt} {k : AF → List AO → Lc → Prop} (hfs : ∀ env v, foldedSetIterable iter env v = pure v) (h : WItE g c c σ lc iter target (ForE g c lc body k)) :
    WS g c σ lc (.For target iter body [] pos) k :=
  fun A env base L as s Rm Re T S Q E q => by
    refine wpAny_For (h A env base L as s _ E Rm Re T S fun h₁ tk₁ bs σ₁ n bnd Gd it own P ok I hP hap S₁ => ?_) (hfs env)
    obtain ⟨J, hJ0, hGd, turn, fin⟩ := ok
    let R : Result → Shared → Prop := fun r s' => match r with | .ok f => Q f s' | .error e => cameBackBy (MM g) A env E e s'
    show codeAny (MM g) A (.forLoop target (.ref it) body [] env) R _
    refine codeAny_loop' rfl (fun m s' => ∃ i cs σ lc h tk, s' = { s with heap := h, toks := tk } ∧ i ≤ n ∧ m = n - i ∧ J i σ lc ∧ St g.LM base L (as ++ bs ++ cs) σ lc h ∧ P (as ++ bs ++ cs) i h ∧ Apart own (as ++ bs ++ cs) L base) ?_ n
      ⟨0, [], σ₁, lc, h₁, tk₁, rfl, Nat.zero_le _, rfl, hJ0, by rw [app_nil]; exact S₁, by rw [app_nil]; exact hP, by rw [app_nil]; exact hap⟩
    rintro m _ ⟨i, cs, σ, lc, h, tk, rfl, hi, rfl, hJ, S, hP, hap⟩
    show wpAny _ _ ((forTurn target (.ref it) body [] env).onRaise (fun x => do noteFrame x env; theTreesLotGoes x)) _ _ _
    refine wpAny_noted ?_
    simp only [forTurn]
    refine wpAny_bind (wpAny_standAt (wpAny_bind (wpAny_onRaise ?_)))
    rcases Nat.lt_or_ge i n with hlt | hge
    · have key : wpAny (MM g) A (pyNext (.ref it)) (fun r s₁ => match r with
        | none => False
        | some v => wpAny (MM g) A (letOwnedTupleGo target (.ref it) v) (fun _ s₂ => wpAny (MM g) A (assign target env v) (fun _ s₃ => wpAny (MM g) A (execs body env) (fun f s' => match f with
          | .next | .cont => ∃ m, m < n - i ∧ ∃ i cs σ lc h tk, s' = { s with heap := h, toks := tk } ∧ i ≤ n ∧ m = n - i ∧ J i σ lc ∧ St g.LM base L (as ++ bs ++ cs) σ lc h ∧ P (as ++ bs ++ cs) i h ∧ Apart own (as ++ bs ++ cs) L base
          | .brk => R (.ok .next) s'
          | .ret v => R (.ok (.ret v)) s') (notedBy (MM g) A env fun e s' => R (.error e) s') s₃) (notedBy (MM g) A env fun e s' => R (.error e) s') s₂) (notedBy (MM g) A env fun e s' => R (.error e) s') s₁) (notedBy (MM g) A env fun e s' => R (.error e) s') { s with heap := h, toks := tk } := by
        refine I.item _ _ Rm Re.mono.mono T S hap (hGd _ _ _ hJ) hP hlt fun h' tk' S' hP' => ?_
        have ht := turn i σ lc hlt hJ
        have Sr := S'.rebase
        have Tr : TopF g (St.rest h' L (as ++ bs ++ cs)) := T.keeps fun b o e => S'.base_rest e
        have hro : ∀ b ∈ own, ∀ o, h'.get? b = some o → (St.rest h' L (as ++ bs ++ cs)).get? b = some o := fun b hb o e => St.rest_get e (hap b hb).2.1 (hap b hb).1
        refine ht A env _ L (as ++ bs ++ cs) _ Rm Re.mono.mono Tr Sr _ _ fun h₂ tk₂ ds f f' σ₂ lc₂ hk S₂ rf => ?_
        have Sb := S'.back S₂
        have eas : as ++ (bs ++ cs ++ ds) = as ++ bs ++ cs ++ ds := by simp only [List.append_assoc]
        have go : ∀ f₀ f₁, k f₀ σ₂ lc₂ → FR (as ++ bs ++ cs ++ ds) f₀ f₁ → Q f₁ { s with heap := h₂, toks := tk₂ } := fun f₀ f₁ hk rf =>
          q h₂ tk₂ (bs ++ cs ++ ds) f₀ f₁ σ₂ lc₂ hk (by rw [eas]; exact Sb) (by rw [eas]; exact rf)
        have on : J (i + 1) σ₂ lc₂ → ∃ m, m < n - i ∧ ∃ i cs σ lc h tk, ({ s with heap := h₂, toks := tk₂ } : Shared) = { s with heap := h, toks := tk } ∧ i ≤ n ∧ m = n - i ∧ J i σ lc ∧ St g.LM base L (as ++ bs ++ cs) σ lc h ∧ P (as ++ bs ++ cs) i h ∧ Apart own (as ++ bs ++ cs) L base := fun hj => by
          refine ⟨n - (i + 1), by omega, i + 1, cs ++ ds, σ₂, lc₂, h₂, tk₂, rfl, hlt, rfl, hj, by rw [← List.append_assoc]; exact Sb, ?_, ?_⟩
          · rw [← List.append_assoc]
            exact I.frame hP' fun b hb o e => S₂.keep _ _ (hro b hb o e)
          · intro b hb
            refine ⟨fun z => ?_, (hap b hb).2⟩
            obtain ⟨o, ho⟩ := I.there hP' b hb
            rw [← List.append_assoc] at z
            have := (S₂.fresh b z).1
            rw [hro b hb o ho] at this; cases this
        cases f with
        | next => cases rf; exact on hk
        | cont => cases rf; exact on hk
        | brk => cases rf; exact go .next .next hk rfl
        | ret v => obtain ⟨v', rfl, rv⟩ := rf; exact go (.ret v) (.ret v') hk ⟨v', rfl, rv⟩
      refine wpAny_mono key (fun r s₁ h₁ => ?_) fun _ _ h' => wpAny_standAt h'
      cases r with
      | none => exact h₁.elim
      | some v =>
        refine wpAny_bind (wpAny_mono h₁ (fun _ s₂ h₂ => wpAny_bind (wpAny_mono h₂ (fun _ s₃ h₃ => wpAny_bind (wpAny_mono h₃ (fun f s₄ h₄ => ?_) fun _ _ h' => h')) fun _ _ h' => h')) fun _ _ h' => h')
        cases f with
        | next => exact wpAny_pure (.inl ⟨rfl, h₄⟩)
        | cont => exact wpAny_pure (.inl ⟨rfl, h₄⟩)
        | brk => exact wpAny_pure h₄
        | ret v => exact wpAny_pure h₄
    · have : i = n := by omega
      subst this
      refine I.done _ _ Rm S hap (hGd _ _ _ hJ) hP fun h' tk' S' => ?_
      have eas : as ++ (bs ++ cs) = as ++ bs ++ cs := by simp only [List.append_assoc]
      exact wpAny_pure (.inr ⟨rfl, codeAny_block (wpAny_execs_nil (q h' tk' (bs ++ cs) .next .next σ lc (fin _ _ hJ) (by rw [eas]; exact S') rfl))⟩)

theorem ws_comp {x : Str} {xp spos : Pos} {elt target iter : Expr} {ifs : List Expr} {scope : Scope} {pos : Pos} {cl' : List (Str × Nat)} {k : AF → List AO → Lc → Prop}
    (hsw : ∀ as L env, EnvR as c L env → swapsWith (.ListComp elt [⟨target, iter, ifs, 0⟩] scope pos) (some (.Name x xp)) spos.line env = pure true) (hl : c.sc.names.lookup x = some .local) (hcl : CellsOk c scope cl')
    (hcell : ∀ x ∈ scope.names, x.2 ≠ .cell) (hkind : scope.kind = .function) (hnames : ∀ y ∈ scope.names, y.2 = .local → scope.names.lookup y.1 = some .local) (hs : ∀ env x, foldedSetIterable iter env x = pure x)
    (h : WItE g c ⟨c.d, relab scope c.sc, cl', none⟩ σ lc iter target (CompOk g ⟨c.d, relab scope c.sc, cl', none⟩ ifs elt fun v σ' => k .next σ' (putV x v lc))) : WS g c σ lc (.Assign [.Name x xp] (.ListComp elt [⟨target, iter, ifs, 0⟩] scope pos) spos) k :=
  fun A env base L as s Rm Re T S Q E q => by
    rw [exec_Assign_Name_used _ _ _ _ (hsw as L env Re)]
    refine wpAny_bind (wpAny_standAt (wpAny_bind ?_))
    show wpAny _ A (do let _ ← comprehension (.ListComp elt [⟨target, iter, ifs, 0⟩] scope pos) scope env _ (newList []) false (eval iter env) (some (assign (.Name x xp) env))) _ _ s
    obtain ⟨cl, hclos, hcl'⟩ := hcl as L env Re
    refine wpAny_bind (wpAny_mono (wpAny_comprehension_free (use := some (assign (.Name x xp) env)) (Q := fun _ s' => Q .next s') rfl (hs env) hclos hkind hnames (h A env base L as s _ E Rm Re T S fun h₁ tk₁ bs σ₁ n bnd Gd it own P ok I hP hap S₁ => ?_)) (fun _ s' hq => wpAny_pure (wpAny_pure hq)) fun _ _ e => e)
    refine comp_block (RR := fun acc C => compPost (MM g) A E (some (assign (.Name x xp) env)) (fun _ s' => Q .next s') acc C) hcell hkind Rm Re.mono T S₁ (fun n l e => let ⟨a, x, y⟩ := hcl' n l e; ⟨a, get_append x, y⟩) I hap hP ok fun D C h' tk cs σ' hk eD S' hC hCL hCb hns => ?_
    obtain ⟨m, hns⟩ := hns
    show wpAny _ A (assign (.Name x xp) env (.ref D)) _ _ _
    obtain ⟨mL, nL, lrL⟩ := S'.ns
    refine wpAny_assign_Name (wpAny_storeName_local (m := mL) (kindOf_eq Re hl) (by rw [Re.loc]; exact nL) (fun h₂ hn₂ hs₂ => ?_) (by rw [Re.scope, Re.kind]; rfl))
    rw [Re.loc] at hn₂ hs₂
    have rD : VR (as ++ bs ++ cs) (.ref σ₁.length) (.ref D) := ⟨D, eD, rfl⟩
    have S₂ : St g.LM base L (as ++ bs ++ cs) σ' (putV x (.ref σ₁.length) lc) h₂ := by
      refine ⟨fun b o e => (hs₂.2 b fun z => S'.ne_L e z).trans (S'.keep b o e), S'.lf, S'.lo, ⟨_, hn₂, lrL.put rD⟩, S'.len, S'.fresh, ?_, S'.nd⟩
      intro l a ao ea e
      obtain ⟨o, ho, r'⟩ := S'.obj l a ao ea e
      exact ⟨o, (hs₂.2 a (S'.fresh a (List.mem_of_getElem? ea)).2).trans ho, r'⟩
    refine ⟨m, hns.sameBut hs₂ hCL, fun h₃ hs₃ => ?_⟩
    have S₃ := S₂.side hCb hCL hC fun b o hb e => hs₃.extBut b o hb e
    exact q h₃ _ (bs ++ cs) .next .next σ' _ hk (by rw [← List.append_assoc]; exact S₃) rfl
end
end Mine
end

section
namespace Mine
section
variable {g : G} {c : Cx} {σ : List AO} {lc : Lc} {d : Nat}

theorem VRs.flat {as : List Addr} {xs : List AV} {vs : List Value} (h : VRs as xs vs) : ∀ n, VRs as (List.replicate n xs).flatten (List.replicate n vs).flatten
  | 0 => .nil
  | n + 1 => by rw [List.replicate_succ, List.replicate_succ, List.flatten_cons, List.flatten_cons]; exact h.append (VRs.flat h n)
theorem list_is {as : List Addr} {base h : Heap} {L a : Addr} {l : Nat} {xs : List AV} (S : St g.LM base L as σ lc h) (ea : as[l]? = some a) (ho : σ[l]? = some (.list xs)) : ∃ vs : Array Value, ∃ n, h.get? a = some (listOf vs n) ∧ VRs as xs vs.toList ∧ h.IsList a vs ∧ vs.size = xs.length := by
  obtain ⟨o, hg, vs, n, rfl, r⟩ := S.at_ ea ho
  exact ⟨vs, n, hg, r, ⟨_, hg, rfl, n, rfl⟩, by rw [r.length]; simp⟩
theorem list_grown {as : List Addr} {base : Heap} {L : Addr} {s : Shared} {A : Around} {t : Sem Value} {ys : List AV} {us : Array Value} {k : AV → List AO → Prop} (hk : k (.ref σ.length) (σ ++ [.list ys])) (S : St g.LM base L as σ lc s.heap) (r : VRs as ys us.toList)
    (h : ∀ (Q : Value → Shared → Prop) (E : Value → Shared → Prop), (∀ tk, Q (.ref s.heap.objs.size) { s with heap := s.heap.push { cls := .type "list", data := .seq us }, toks := tk }) → wpAny (MM g) A t Q E s) : Tri g base L as lc s A t VR k :=
  fun Q E q => h Q E fun tk => q _ tk [s.heap.objs.size] (.ref σ.length) _ (σ ++ [.list ys]) hk (S.alloc rfl (show OR g.LM _ (.list ys) _ from ⟨us, 0, rfl, r.mono⟩)) ⟨_, new_ref S.len, rfl⟩

theorem bin_mul_list {l : Nat} {xs : List AV} {x : Int} {k : AV → List AO → Prop} (ho : σ[l]? = some (.list xs)) (h0 : 0 ≤ x) (hx : x < 2 ^ 63) (hsz : xs.length * x.toNat ≤ 2 ^ 24)
    (h : k (.ref σ.length) (σ ++ [.list (List.replicate x.toNat xs).flatten])) : WBin g d σ lc .Mult (.ref l) (.int x) k := by
  rintro A base L as s _ _ Rm T S ⟨a, ea, rfl⟩ ⟨u, rfl⟩
  obtain ⟨vs, n, hg, r, il, hlen⟩ := list_is S ea ho
  have hsz' : vs.size * x.toNat ≤ 2 ^ 24 := by rw [hlen]; exact hsz
  refine list_grown (us := (List.foldl (fun x1 x2 => x1 ++ x2) #[] (List.replicate (if vs.isEmpty = true then 0 else x.toNat) vs))) h S ?_ fun Q E q => ?_
  · rw [listMul_foldl_if]
    simpa using r.flat x.toNat
  · exact wpAny_binaryOp_repeat_ref (T := "list") (U := "int") (by decide) ⟨_, hg, rfl⟩ (fun s' => typeIs_int s' x u) noFill_list_mul F.fills_int_mul F.slot_int_rmul repeat_list F.slot_int_index.lookup
      (call_meets F.slot_int_rmul (typeIs_int s x u) F.entry_int_rmul (F.args_int_rmul_2 _ _) (int___rmul___int_list x u a vs n)
        ⟨hg, rfl, ⟨_, hg, rfl⟩, call_meets F.slot_list_mul ⟨_, hg, rfl⟩ F.entry_list_mul (F.args_list_mul_2 _ _)
          (AutoListH.list___mul___list_int_3 a vs n x u (by simp [Builtin.List.listFitsIndex]; omega) (by omega) (by simp [Builtin.List.listTooLong, sizeLine]; omega))
          ⟨hg, q _⟩⟩)
theorem bin_add_list {l l' : Nat} {xs ys : List AV} {k : AV → List AO → Prop} (ho : σ[l]? = some (.list xs)) (ho' : σ[l']? = some (.list ys)) (hsz : xs.length + ys.length ≤ sizeLine)
    (h : k (.ref σ.length) (σ ++ [.list (xs ++ ys)])) : WBin g d σ lc .Add (.ref l) (.ref l') k := by
  rintro A base L as s _ _ Rm T S ⟨a, ea, rfl⟩ ⟨b, eb, rfl⟩
  obtain ⟨vs, n, hg, r, il, hlen⟩ := list_is S ea ho
  obtain ⟨us, m, hg', r', il', hlen'⟩ := list_is S eb ho'
  refine list_grown (us := vs ++ us) h S (by rw [Array.toList_append]; exact r.append r') fun Q E q => ?_
  exact concat_meets ⟨_, hg, rfl⟩ ⟨_, hg', rfl⟩ noFill_list_add seq_list_add PySem.F.slot_list_add PySem.F.entry_list_add (PySem.F.args_list_add_2 _ _) (list_addW a b vs us n m none none #[] #[] (by rw [hlen, hlen']; exact hsz)) ⟨hg, hg', q _⟩
theorem call_max2 {a b : Int} {k : AV → List AO → Prop} (h : k (.int (max a b)) σ) : WCall g d σ lc (.top (.builtin "max")) [.int a, .int b] k := by
  rintro A base L as s _ _ Rm T S rfl ra Q E q
  cases ra with
  | cons r1 ra => cases ra with
    | cons r2 ra =>
      cases ra
      obtain ⟨t, rfl⟩ := r1
      obtain ⟨u, rfl⟩ := r2
      refine max_two_ints Rm.handled fun h' tk hk => q h' tk [] (.int (max a b)) _ σ h (by rw [app_nil]; exact S.ext hk) ?_
      by_cases hb : b > a
      · rw [if_pos hb]; exact ⟨u, by congr 1; omega⟩
      · rw [if_neg hb]; exact ⟨t, by congr 1; omega⟩
noncomputable def intL (ns : List Int) : List AV := ns.map .int
theorem ints_of {as : List Addr} : ∀ {ns : List Int} {vs : List Value}, VRs as (intL ns) vs → ∃ ps : List (Int × Tok), vs = ps.map (fun p => .int p.1 p.2) ∧ ps.map (·.1) = ns
  | [], _, .nil => ⟨[], rfl, rfl⟩
  | n :: r, _, .cons h t => by
    obtain ⟨ps, e1, e2⟩ := ints_of (ns := r) t
    obtain ⟨tk, rfl⟩ := h
    exact ⟨(n, tk) :: ps, by rw [e1]; rfl, by rw [← e2]; rfl⟩
theorem intItems_of {as : List Addr} {ns : List Int} {vs : Array Value} (h : VRs as (intL ns) vs.toList) : ∃ xs : Array (Int × Tok), vs = intItems xs ∧ xs.toList.map (·.1) = ns := by
  obtain ⟨ps, e1, e2⟩ := ints_of h
  refine ⟨ps.toArray, ?_, by simpa using e2⟩
  apply Array.toList_inj.mp
  rw [e1]; simp [intItems]
theorem numAt_of {xs : Array (Int × Tok)} {ns : List Int} (h : xs.toList.map (·.1) = ns) (i : Nat) : numAt xs i = ns.getD i 0 := by
  unfold numAt
  rw [← h, List.getD_eq_getElem?_getD, List.getElem?_map]
  simp
theorem getD_at {ns : List Int} {i : Nat} (h : i < ns.length) : ns.getD i 0 = ns[i] := by simp [h]
theorem numAt_mem {xs : Array (Int × Tok)} {i : Nat} (h : i < xs.size) : ∃ t, (intItems xs)[i]? = some (.int (numAt xs i) t) := by
  cases e : (intItems xs)[i]? with
  | none => rw [Array.getElem?_eq_none_iff] at e; simp [intItems] at e; omega
  | some v => obtain ⟨t, rfl⟩ := intItems_at e; exact ⟨t, rfl⟩
noncomputable def maxI : List Int → Int
  | [] => 0
  | [a] => a
  | a :: r => max a (maxI r)
noncomputable def minI : List Int → Int
  | [] => 0
  | [a] => a
  | a :: r => min a (minI r)
theorem maxI_eq : ∀ {ns : List Int} {v : Int}, v ∈ ns → (∀ n ∈ ns, n ≤ v) → maxI ns = v
  | [a], v, hm, _ => by have : v = a := by simpa using hm
                        rw [this]; rfl
  | a :: b :: r, v, hm, hall => by
    show max a (maxI (b :: r)) = v
    have ha := hall a (by simp)
    rcases List.mem_cons.mp hm with rfl | hm
    · have : maxI (b :: r) ≤ v := by
        have key : ∀ l : List Int, l ≠ [] → (∀ n ∈ l, n ≤ v) → maxI l ≤ v := by
          intro l
          induction l with
          | nil => intro h; exact absurd rfl h
          | cons x l ih =>
            intro _ h
            cases l with
            | nil => exact h x (by simp)
            | cons y l => show max x (maxI (y :: l)) ≤ v
                          have h1 := h x (by simp)
                          have h2 := ih (by simp) fun n hn => h n (by simp [hn])
                          omega
        exact key _ (by simp) fun n hn => hall n (by simp [hn])
      omega
    · have := maxI_eq hm fun n hn => hall n (by simp [hn])
      omega
theorem minI_eq : ∀ {ns : List Int} {v : Int}, v ∈ ns → (∀ n ∈ ns, v ≤ n) → minI ns = v
  | [a], v, hm, _ => by have : v = a := by simpa using hm
                        rw [this]; rfl
  | a :: b :: r, v, hm, hall => by
    show min a (minI (b :: r)) = v
    have ha := hall a (by simp)
    rcases List.mem_cons.mp hm with rfl | hm
    · have : v ≤ minI (b :: r) := by
        have key : ∀ l : List Int, l ≠ [] → (∀ n ∈ l, v ≤ n) → v ≤ minI l := by
          intro l
          induction l with
          | nil => intro h; exact absurd rfl h
          | cons x l ih =>
            intro _ h
            cases l with
            | nil => exact h x (by simp)
            | cons y l => show v ≤ min x (minI (y :: l))
                          have h1 := h x (by simp)
                          have h2 := ih (by simp) fun n hn => h n (by simp [hn])
                          omega
        exact key _ (by simp) fun n hn => hall n (by simp [hn])
      omega
    · have := minI_eq hm fun n hn => hall n (by simp [hn])
      omega
theorem call_max {l : Nat} {ns : List Int} {k : AV → List AO → Prop} (ho : σ[l]? = some (.list (intL ns))) (hne : ns ≠ []) (h : k (.int (maxI ns)) σ) : WCall g d σ lc (.top (.builtin "max")) [.ref l] k := by
  rintro A base L as s _ _ Rm T S rfl ra Q E q
  cases ra with
  | cons r1 ra =>
    cases ra
    obtain ⟨a, ea, rfl⟩ := r1
    obtain ⟨vs, n, hg, r, il, hlen⟩ := list_is S ea ho
    obtain ⟨xs, rfl, hx⟩ := intItems_of r
    have hsz : xs.size = ns.length := by rw [← hx]; simp
    have hpos : 0 < ns.length := List.length_pos_iff.mpr hne
    refine max_intList Rm.handled il (by rw [hsz]; exact hpos) fun v h' tk hv hk => ?_
    have hb := argBest_gt (numAt xs) (xs.size - 1)
    obtain ⟨t, ht⟩ := numAt_mem (xs := xs) (i := argBest (fun i j => decide (numAt xs i > numAt xs j)) (xs.size - 1)) (by omega)
    rw [ht] at hv
    cases hv
    refine q h' tk [] (.int (maxI ns)) _ σ h (by rw [app_nil]; exact S.ext hk) ⟨t, ?_⟩
    congr 1
    refine (maxI_eq ?_ fun n hn => ?_).symm
    · rw [numAt_of hx, getD_at (by omega)]; exact List.getElem_mem _
    · obtain ⟨j, hj, rfl⟩ := List.getElem_of_mem hn
      have := hb.2 j (by omega)
      rw [numAt_of hx j, getD_at hj] at this
      exact this
theorem call_min {l : Nat} {ns : List Int} {k : AV → List AO → Prop} (ho : σ[l]? = some (.list (intL ns))) (hne : ns ≠ []) (h : k (.int (minI ns)) σ) : WCall g d σ lc (.top (.builtin "min")) [.ref l] k := by
  rintro A base L as s _ _ Rm T S rfl ra Q E q
  cases ra with
  | cons r1 ra =>
    cases ra
    obtain ⟨a, ea, rfl⟩ := r1
    obtain ⟨vs, n, hg, r, il, hlen⟩ := list_is S ea ho
    obtain ⟨xs, rfl, hx⟩ := intItems_of r
    have hsz : xs.size = ns.length := by rw [← hx]; simp
    have hpos : 0 < ns.length := List.length_pos_iff.mpr hne
    refine min_intList Rm.handled il (by rw [hsz]; exact hpos) fun v h' tk hv hk => ?_
    have hb := argBest_lt (numAt xs) (xs.size - 1)
    obtain ⟨t, ht⟩ := numAt_mem (xs := xs) (i := argBest (fun i j => decide (numAt xs i < numAt xs j)) (xs.size - 1)) (by omega)
    rw [ht] at hv
    cases hv
    refine q h' tk [] (.int (minI ns)) _ σ h (by rw [app_nil]; exact S.ext hk) ⟨t, ?_⟩
    congr 1
    refine (minI_eq ?_ fun n hn => ?_).symm
    · rw [numAt_of hx, getD_at (by omega)]; exact List.getElem_mem _
    · obtain ⟨j, hj, rfl⟩ := List.getElem_of_mem hn
      have := hb.2 j (by omega)
      rw [numAt_of hx j, getD_at hj] at this
      exact this
theorem preSum_of (f : Nat → Int) (ns : List Int) (hf : ∀ i, f i = ns.getD i 0) : ∀ n, n ≤ ns.length → preSum f n = (ns.take n).sum
  | 0, _ => by simp [preSum]
  | n + 1, h => by
    show preSum f n + f n = _
    rw [preSum_of f ns hf n (by omega), hf n, take_sum_succ ns n (by omega)]
theorem call_sum {l : Nat} {ns : List Int} {k : AV → List AO → Prop} (ho : σ[l]? = some (.list (intL ns))) (h : k (.int ns.sum) σ) : WCall g d σ lc (.top (.builtin "sum")) [.ref l] k := by
  rintro A base L as s _ _ Rm T S rfl ra Q E q
  cases ra with
  | cons r1 ra =>
    cases ra
    obtain ⟨a, ea, rfl⟩ := r1
    obtain ⟨vs, n, hg, r, il, hlen⟩ := list_is S ea ho
    obtain ⟨xs, rfl, hx⟩ := intItems_of r
    have hsz : xs.size = ns.length := by rw [← hx]; simp
    refine call_sum_walkG (iter_intList il fun s₂ e st hfp hlI => ?_)
    subst e
    refine ⟨_, _, _, _, _, _, numAt xs, rfl, Walks.list (A := A.in1) Rm.handled _ a hlI (intItems xs), st, hfp, (fun _ _ => intItems_at), fun h' tk t' hk => ?_⟩
    have e1 : preSum (numAt xs) (intItems xs).size = ns.sum := by
      have : (intItems xs).size = ns.length := by simp [intItems, hsz]
      rw [this, preSum_of _ ns (numAt_of hx) _ (Nat.le_refl _), List.take_length]
    refine q h' tk [] (.int ns.sum) _ σ h (by rw [app_nil]; exact S.ext (old_kept hk)) ⟨t', by rw [e1]⟩
end
end Mine
end

section
namespace Mine
section
variable {g : G} {c : Cx} {σ : List AO} {lc : Lc} {d : Nat}

theorem reps (x : List Nat) : ∀ n : Nat, (List.replicate n x.toArray).foldl (· ++ ·) (#[] : Array Nat) = (List.replicate n x).flatten.toArray := by
  have key : ∀ (n : Nat) (acc : Array Nat), (List.replicate n x.toArray).foldl (· ++ ·) acc = acc ++ (List.replicate n x).flatten.toArray := by
    intro n
    induction n with
    | zero => intro acc; simp
    | succ n ih => intro acc; rw [List.replicate_succ, List.replicate_succ, List.foldl_cons, ih, List.flatten_cons, ← List.append_toArray, Array.append_assoc]
  intro n
  rw [key]; simp
theorem mul_eq (x : List Nat) (n : Int) : Txt.mul ⟨x.toArray⟩ n = ⟨((List.replicate n.toNat x).flatten).toArray⟩ := by
  unfold Txt.mul
  by_cases h1 : n < 1
  · rw [if_pos h1]
    have : n.toNat = 0 := by omega
    rw [this]; rfl
  · rw [if_neg h1]
    split
    · rename_i h
      simp only [Bool.or_eq_true, beq_iff_eq] at h
      rcases h with h | h
      · subst h; simp
      · rw [str_len] at h
        have : x = [] := List.length_eq_zero_iff.mp h
        subst this; simp
    · congr 1
      exact reps x _
theorem bin_mul_str {x : List Nat} {n : Int} {k : AV → List AO → Prop} (h0 : 0 ≤ n) (hx : x.length ≤ 1000) (hn : n ≤ 1000) (h : k (.str (List.replicate n.toNat x).flatten) σ) : WBin g d σ lc .Mult (.str x) (.int n) k := by
  rintro A base L as s _ _ Rm T S ⟨t, rfl⟩ ⟨u, rfl⟩ Q E q
  refine SB.mul ⟨?_, fun h1 _ => ?_, fun h1 _ => ?_⟩ fun t' tk => q s.heap tk [] _ _ σ h (by rw [app_nil]; exact S) ⟨t', by rw [mul_eq]⟩
  · rw [decide_eq_false (by omega), decide_eq_false (by omega)]; rfl
  · rw [str_len]
    have : (1000 : Int) ≤ (2 ^ 63 - 1) / n := (Int.le_ediv_iff_mul_le (by omega)).mpr (by omega)
    omega
  · rw [str_len]
    unfold Builtin.Str.tooLong sizeLine
    have : x.length * n.toNat ≤ 1000 * 1000 := Nat.mul_le_mul hx (by omega)
    exact decide_eq_false (by omega)
theorem int_rmul_bool_str (b : Bool) (x : Str) (u : Tok) : Gives (Builtin.«int.__rmul__» ⟨[.bool b, .str x u], []⟩) (.val (Value.notImplemented)) :=
  .of_wp fun M A E s Q h => by obtain ⟨hp, g, d, tk, os⟩ := s; wp_walk; exact ⟨_, rfl, h⟩
theorem str_mul_bool (b : Bool) (x : Str) (t : Tok) : Gives (Builtin.«str.__mul__» ⟨[.str x t, .bool b], []⟩) (if b then .val (.str x t) else .str Str.empty) := by
  cases b
  · exact .rule (.of_eq rfl)
  · exact .rule (.of_eq rfl)
theorem bin_mul_strb {x : List Nat} {b : Bool} {k : AV → List AO → Prop} (h : k (.str (if b then x else [])) σ) : WBin g d σ lc .Mult (.str x) (.bool b) k := by
  rintro A base L as s _ _ Rm T S ⟨t, rfl⟩ rfl Q E q
  refine wpAny_binaryOp_repeat (T := "str") (U := "bool") (by decide) (fun s' => typeIs_str s' _ t) (fun s' => typeIs_bool' s' b) noFill_str_mul F.fills_bool_mul F.slot_bool_rmul repeat_str F.slot_bool_index.lookup
    (call_gives F.slot_bool_rmul (typeIs_bool' s b) F.entry_int_rmul (F.args_int_rmul_2 _ _) (int_rmul_bool_str b _ t)
      ⟨rfl, call_gives F.slot_str_mul (typeIs_str s _ t) F.entry_str_mul (F.args_str_mul_2 _ _) (str_mul_bool b _ t) ?_⟩)
  cases b with
  | true => exact q s.heap _ [] _ _ σ h (by rw [app_nil]; exact S) ⟨t, rfl⟩
  | false => exact ⟨by decide, q s.heap _ [] _ _ σ h (by rw [app_nil]; exact S) ⟨_, rfl⟩⟩
theorem cmp_in_str {ch : Nat} {x : List Nat} {k : AV → List AO → Prop} (h : k (.bool (decide (ch ∈ x))) σ) : WCmp g d σ lc .In (.str [ch]) (.str x) k := by
  rintro A base L as s _ _ Rm T S ⟨t, rfl⟩ ⟨u, rfl⟩
  refine Tri.here h S rfl fun Q E q => P.in_str ?_
  have e := StrLaws.found_one ⟨x.toArray⟩ ch
  rw [e]
  exact q s.toks
theorem meth_str {x : List Nat} {name : Str} {id : String} {k : AV × List AV → List AO → Prop} (hm : ∀ (t : Tok) (pl : Sem Bool) (A : Around) (E : Value → Shared → Prop) (s : Shared) (Q : Value × List Value → Shared → Prop), Q (.builtin id, [.str ⟨x.toArray⟩ t]) s → wpAny (MM g) A (getMethod (.str ⟨x.toArray⟩ t) name pl) Q E s)
    (h : k (.top (.builtin id), [.str x]) σ) : WM g d σ lc (.str x) name k := by
  rintro pl A base L as s _ Rm T S ⟨t, rfl⟩
  exact Tri.here (x := (AV.top (.builtin id), [AV.str x])) (b := (Value.builtin id, [Value.str ⟨x.toArray⟩ t])) h S ⟨rfl, .one ⟨t, rfl⟩⟩ fun Q E q => hm t pl A E s Q (q s.toks)
noncomputable def strL (xs : List (List Nat)) : List AV := xs.map .str
theorem strs_of {as : List Addr} : ∀ {xs : List (List Nat)} {vs : List Value}, VRs as (strL xs) vs → StrsAre vs (xs.map fun x => ⟨x.toArray⟩)
  | [], _, .nil => .nil
  | n :: r, _, .cons h t => by
    obtain ⟨tk, rfl⟩ := h
    exact .cons _ _ (strs_of (xs := r) t)
theorem join_empty (xs : List (List Nat)) : Txt.join ⟨#[]⟩ (xs.map fun x => (⟨x.toArray⟩ : Str)) = ⟨xs.flatten.toArray⟩ := by
  unfold Txt.join
  rw [StrLaws.glued_eq_join]
  induction xs with
  | nil => rfl
  | cons x r ih =>
    cases r with
    | nil => simp [Str.join]
    | cons y r =>
      show (⟨x.toArray⟩ : Str) ++ (⟨#[]⟩ : Str) ++ Str.join _ _ = _
      rw [ih]
      have := str_app x []
      rw [show (⟨#[]⟩ : Str) = ⟨([] : List Nat).toArray⟩ from rfl, this, str_app]
      simp
theorem call_join {l : Nat} {xs : List (List Nat)} {k : AV → List AO → Prop} (ho : σ[l]? = some (.list (strL xs))) (hz : xs.flatten.length ≤ sizeLine) (h : k (.str xs.flatten) σ) : WCall g d σ lc (.top (.builtin "str.join")) [.str [], .ref l] k := by
  rintro A base L as s _ _ Rm T S rfl ra Q E q
  cases ra with
  | cons r1 ra => cases ra with
    | cons r2 ra =>
      cases ra
      obtain ⟨t, rfl⟩ := r1
      obtain ⟨a, ea, rfl⟩ := r2
      obtain ⟨vs, n, hg, r, il, hlen⟩ := list_is S ea ho
      refine join_list il (strs_of r) ?_ fun t' tk => q s.heap tk [] (.str xs.flatten) _ σ h (by rw [app_nil]; exact S) ⟨t', by rw [join_empty]⟩
      have e : ((xs.map fun x => (⟨x.toArray⟩ : Str)).map (·.length)).sum = xs.flatten.length := by
        rw [List.map_map, List.length_flatten]
        congr 1
      rw [e]
      have : sizeLine = 16777216 := rfl
      rw [show Str.length ⟨([] : List Nat).toArray⟩ = 0 from rfl]
      omega
theorem cnt_count (x : List Nat) (ch : Nat) : cnt ch x = ((x.count ch : Nat) : Int) := by
  unfold cnt
  induction x with
  | nil => rfl
  | cons y r ih =>
    rw [List.map_cons, Spec.countIn, ih, List.count_cons]
    by_cases e : y = ch
    · simp [e, Spec.same]; omega
    · simp [e, Spec.same]
theorem call_count {x : List Nat} {ch : Nat} {k : AV → List AO → Prop} (h : k (.int (x.count ch)) σ) : WCall g d σ lc (.top (.builtin "str.count")) [.str x, .str [ch]] k := by
  rintro A base L as s _ _ Rm T S rfl ra Q E q
  cases ra with
  | cons r1 ra => cases ra with
    | cons r2 ra =>
      cases ra
      obtain ⟨t, rfl⟩ := r1
      obtain ⟨u, rfl⟩ := r2
      refine SC.count ?_
      have e : Txt.count ⟨x.toArray⟩ ⟨#[ch]⟩ = ((x.count ch : Nat) : Int) := by
        rw [count_cnt]
        exact cnt_count x ch
      refine q s.heap _ [] (.int (x.count ch)) _ σ h (by rw [app_nil]; exact S) ⟨s.toks, ?_⟩
      show Value.int (Txt.count ⟨x.toArray⟩ ⟨#[ch]⟩) _ = _
      rw [e]
end
end Mine
end

section
namespace Mine
section
variable {g : G} {c : Cx} {σ : List AO} {lc : Lc} {d : Nat}

noncomputable def WNs (g : G) (c : Cx) (k : List AO → Lc → Prop) : List (Str × AV) → List AO → Lc → Prop
  | [], σ, lc => k σ lc
  | (x, v) :: r, σ, lc => WN g c σ lc x v fun σ' lc' => WNs g c k r σ' lc'
theorem wns_nil {k : List AO → Lc → Prop} (h : k σ lc) : WNs g c k [] σ lc := h
theorem wns_cons {x : Str} {v : AV} {r : List (Str × AV)} {k : List AO → Lc → Prop} (h : WN g c σ lc x v fun σ' lc' => WNs g c k r σ' lc') : WNs g c k ((x, v) :: r) σ lc := h
inductive Stores (g : G) (A : Around) (env : Env) : List (Value → Sem Unit) → List (Str × AV) → Prop
  | nil : Stores g A env [] []
  | cons {f fs x v ps} : (∀ v (Q : Unit → Shared → Prop) (E : Value → Shared → Prop) s, wpAny (MM g) A (storeName env x v) Q E s → wpAny (MM g) A (f v) Q E s) → Stores g A env fs ps → Stores g A env (f :: fs) ((x, v) :: ps)
theorem wns_run {A : Around} {env : Env} {base : Heap} {L : Addr} {k : List AO → Lc → Prop} (Rm : Room c.d A) (T : TopF g base) {fs : List (Value → Sem Unit)} {ps : List (Str × AV)} (hf : Stores g A env fs ps) :
    ∀ (σ : List AO) (lc : Lc) (as : List Addr) (vs : List Value) (s : Shared), EnvR as c L env → St g.LM base L as σ lc s.heap → VRs as (ps.map (·.2)) vs → WNs g c k ps σ lc →
    TriS g base L as s A (assignInOrder fs vs) (fun _ (_ : Unit) (_ : Unit) => True) (fun (_ : Unit) σ' lc' => k σ' lc') := by
  induction hf with
  | nil =>
    intro σ lc as vs s Re S rv h Q E q
    cases rv
    exact wpAny_assignInOrder_none (q s.heap s.toks [] () () σ lc h (by rw [app_nil]; exact S) trivial)
  | @cons f fs x v ps hf _ ih =>
    intro σ lc as vs s Re S rv h Q E q
    cases rv with
    | cons r1 rv =>
      refine wpAny_assignInOrder_more (hf _ _ _ _ ((show WN g c σ lc x v _ from h) A env base L as s _ Rm Re T S r1 _ E fun h₁ tk₁ bs u u' σ₁ lc₁ hk S₁ _ => ?_))
      exact ih σ₁ lc₁ (as ++ bs) _ _ Re.mono S₁ rv.mono hk Q E (TriS.next (R := fun _ (_ : Unit) (_ : Unit) => True) (k := fun (_ : Unit) σ' lc' => k σ' lc') q)
theorem ws_assign3 {x y z : Str} {p1 p2 p3 pos : Pos} {e : Expr} {k : AF → List AO → Lc → Prop}
    (h : WE g c σ lc e fun v σ₁ => WN g c σ₁ lc x v fun σ₂ lc₂ => WN g c σ₂ lc₂ y v fun σ₃ lc₃ => WN g c σ₃ lc₃ z v (k .next)) : WS g c σ lc (.Assign [.Name x p1, .Name y p2, .Name z p3] e pos) k :=
  fun A env base L as s Rm Re T S Q E q => wpAny_Assign_three (h A env base L as s Rm Re T S _ E fun h₁ tk₁ bs v v' σ₁ hk S₁ rv =>
    wpAny_assign_Name (hk A env base L (as ++ bs) _ v' Rm Re.mono T S₁ rv _ E fun h₂ tk₂ cs u u' σ₂ lc₂ hk₂ S₂ _ =>
      wpAny_assign_Name (hk₂ A env base L (as ++ bs ++ cs) _ v' Rm Re.mono.mono T S₂ rv.mono _ E fun h₃ tk₃ ds u u' σ₃ lc₃ hk₃ S₃ _ =>
        wpAny_assign_Name (hk₃ A env base L (as ++ bs ++ cs ++ ds) _ v' Rm Re.mono.mono.mono T S₃ rv.mono.mono _ E fun h₄ tk₄ es u u' σ₄ lc₄ hk₄ S₄ _ =>
          TriS.next (s := { s with heap := h₂, toks := tk₂ }) (bs := ds) (TriS.next (s := { s with heap := h₁, toks := tk₁ }) (bs := cs) (TriS.next q)) h₄ tk₄ es .next .next σ₄ lc₄ hk₄ S₄ rfl))))
theorem tup_is {as : List Addr} {base h : Heap} {L a : Addr} {l : Nat} {xs : List AV} (S : St g.LM base L as σ lc h) (ea : as[l]? = some a) (ho : σ[l]? = some (.tuple xs)) : ∃ vs : Array Value, VRs as xs vs.toList ∧ IsTup h a vs ∧ vs.size = xs.length := by
  obtain ⟨o, hg, vs, n, rfl, r⟩ := S.at_ ea ho
  exact ⟨vs, r, ⟨_, hg, rfl, n, rfl⟩, by rw [r.length]; simp⟩
theorem St.past {LM} {as : List Addr} {base h h' : Heap} {L : Addr} (S : St LM base L as σ lc h) (he : Heap.ExtBut h.objs.size h h') : St LM base L as σ lc h' :=
  S.ext fun b o e => he b o (Nat.ne_of_lt (Heap.lt_size e)) e
theorem ws_unpack2 {x y : Str} {p1 p2 tp pos : Pos} {n : Nat} {e : Expr} {k : AF → List AO → Lc → Prop} (hs : ∀ env, swapsWithSole [.Tuple [.Name x p1, .Name y p2] n tp] e pos.line env = pure false) (hw : ∀ env, swappedStores [.Tuple [.Name x p1, .Name y p2] n tp] e env = pure none)
    (h : WE g c σ lc e fun v σ₁ => ∃ l a b, v = .ref l ∧ σ₁[l]? = some (.tuple [a, b]) ∧ WNs g c (k .next) [(x, a), (y, b)] σ₁ lc) : WS g c σ lc (.Assign [.Tuple [.Name x p1, .Name y p2] n tp] e pos) k :=
  fun A env base L as s Rm Re T S Q E q => Assign_Tuple (h A env base L as s Rm Re T S _ E fun h₁ tk₁ bs v v' σ₁ hk S₁ rv => by
    obtain ⟨l, a, b, rfl, ho, hk⟩ := hk
    obtain ⟨ad, ea, rfl⟩ := rv
    obtain ⟨vs, rvs, it, hlen⟩ := tup_is S₁ ea ho
    refine assign_Tuple_tuple Rm.handled it (by rw [hlen]; rfl) (by rfl) fun h' he => ?_
    have S₂ := S₁.past he
    refine wns_run (k := k .next) Rm T (ps := [(x, a), (y, b)]) (.cons (fun v Q E s hh => wpAny_assign_Name hh) (.cons (fun v Q E s hh => wpAny_assign_Name hh) .nil)) σ₁ lc (as ++ bs) vs.toList { s with heap := h', toks := tk₁ } Re.mono S₂ rvs hk _ E fun h₂ tk₂ cs u u' σ₂ lc₂ hk₂ S₃ _ => ?_
    exact TriS.next (s := s) (bs := bs) (h' := h₁) (tk := tk₁) q h₂ tk₂ cs .next .next σ₂ lc₂ hk₂ S₃ rfl) (hs env) (hw env)
theorem ws_swap2 {x y : Str} {p1 p2 tp pos : Pos} {n : Nat} {e : Expr} {k : AF → List AO → Lc → Prop} (hs : ∀ env, swapsWithSole [.Tuple [.Name x p1, .Name y p2] n tp] e pos.line env = pure false) (hw : ∀ as L env, EnvR as c L env → swappedStores [.Tuple [.Name x p1, .Name y p2] n tp] e env = pure (some [x, y]))
    (h : WE g c σ lc e fun v σ₁ => ∃ l a b, v = .ref l ∧ σ₁[l]? = some (.tuple [a, b]) ∧ WNs g c (k .next) [(y, b), (x, a)] σ₁ lc) : WS g c σ lc (.Assign [.Tuple [.Name x p1, .Name y p2] n tp] e pos) k :=
  fun A env base L as s Rm Re T S Q E q => Assign_Tuple_swapped (names := [x, y]) (h A env base L as s Rm Re T S _ E fun h₁ tk₁ bs v v' σ₁ hk S₁ rv => by
    obtain ⟨l, a, b, rfl, ho, hk⟩ := hk
    obtain ⟨ad, ea, rfl⟩ := rv
    obtain ⟨vs, rvs, it, hlen⟩ := tup_is S₁ ea ho
    have e2 : [x, y].length = vs.size := by rw [hlen]; rfl
    rw [e2]
    refine unpackItems_tuple Rm.handled it fun h' he => ?_
    have S₂ := S₁.past he
    refine wns_run (k := k .next) Rm T (ps := [(y, b), (x, a)]) (.cons (fun v Q E s hh => wpAny_bindName hh) (.cons (fun v Q E s hh => wpAny_bindName hh) .nil)) σ₁ lc (as ++ bs) vs.toList.reverse { s with heap := h', toks := tk₁ } Re.mono S₂ rvs.reverse hk _ E fun h₂ tk₂ cs u u' σ₂ lc₂ hk₂ S₃ _ => ?_
    exact TriS.next (s := s) (bs := bs) (h' := h₁) (tk := tk₁) q h₂ tk₂ cs .next .next σ₂ lc₂ hk₂ S₃ rfl) (hs env) (hw as L env Re)
theorem ws_swap3 {x y z : Str} {p1 p2 p3 tp pos : Pos} {n : Nat} {e : Expr} {k : AF → List AO → Lc → Prop} (hs : ∀ env, swapsWithSole [.Tuple [.Name x p1, .Name y p2, .Name z p3] n tp] e pos.line env = pure false) (hw : ∀ as L env, EnvR as c L env → swappedStores [.Tuple [.Name x p1, .Name y p2, .Name z p3] n tp] e env = pure (some [x, y, z]))
    (h : WE g c σ lc e fun v σ₁ => ∃ l a b d, v = .ref l ∧ σ₁[l]? = some (.tuple [a, b, d]) ∧ WNs g c (k .next) [(z, d), (y, b), (x, a)] σ₁ lc) : WS g c σ lc (.Assign [.Tuple [.Name x p1, .Name y p2, .Name z p3] n tp] e pos) k :=
  fun A env base L as s Rm Re T S Q E q => Assign_Tuple_swapped (names := [x, y, z]) (h A env base L as s Rm Re T S _ E fun h₁ tk₁ bs v v' σ₁ hk S₁ rv => by
    obtain ⟨l, a, b, d, rfl, ho, hk⟩ := hk
    obtain ⟨ad, ea, rfl⟩ := rv
    obtain ⟨vs, rvs, it, hlen⟩ := tup_is S₁ ea ho
    have e2 : [x, y, z].length = vs.size := by rw [hlen]; rfl
    rw [e2]
    refine unpackItems_tuple Rm.handled it fun h' he => ?_
    have S₂ := S₁.past he
    refine wns_run (k := k .next) Rm T (ps := [(z, d), (y, b), (x, a)]) (.cons (fun v Q E s hh => wpAny_bindName hh) (.cons (fun v Q E s hh => wpAny_bindName hh) (.cons (fun v Q E s hh => wpAny_bindName hh) .nil))) σ₁ lc (as ++ bs) vs.toList.reverse { s with heap := h', toks := tk₁ } Re.mono S₂ rvs.reverse hk _ E fun h₂ tk₂ cs u u' σ₂ lc₂ hk₂ S₃ _ => ?_
    exact TriS.next (s := s) (bs := bs) (h' := h₁) (tk := tk₁) q h₂ tk₂ cs .next .next σ₂ lc₂ hk₂ S₃ rfl) (hs env) (hw as L env Re)
end
end Mine
end

section
namespace Mine
section
variable {g : G} {c : Cx} {σ : List AO} {lc : Lc} {d : Nat}

theorem ws_setitem {o i e : Expr} {pos' pos : Pos} {k : AF → List AO → Lc → Prop} (hs : ∀ env, swapsWith e (some (.Subscript o i pos')) pos.line env = pure false)
    (h : WE g c σ lc e fun v σ₁ => WE g c σ₁ lc o fun ov σ₂ => WE g c σ₂ lc i fun iv σ₃ => ∃ l n xs, ov = .ref l ∧ iv = .int n ∧ σ₃[l]? = some (.list xs) ∧ 0 ≤ n ∧ n < xs.length ∧ xs.length ≤ 2 ^ 24 ∧ k .next (σ₃.set l (.list (xs.set n.toNat v))) lc) :
    WS g c σ lc (.Assign [.Subscript o i pos'] e pos) k :=
  fun A env base L as s Rm Re T S Q E q => wpAny_Assign_Subscript (h A env base L as s Rm Re T S _ E fun h₁ tk₁ bs v v' σ₁ hk S₁ rv =>
    hk A env base L (as ++ bs) _ Rm Re.mono T S₁ _ E fun h₂ tk₂ cs ov ov' σ₂ hk₂ S₂ ro =>
      hk₂ A env base L (as ++ bs ++ cs) _ Rm Re.mono.mono T S₂ _ E fun h₃ tk₃ ds iv iv' σ₃ hk₃ S₃ ri => by
        obtain ⟨l, n, xs, rfl, rfl, ho, h0, h1, hz, hk⟩ := hk₃
        obtain ⟨a, ea, rfl⟩ := ro.mono (bs := ds)
        obtain ⟨t, rfl⟩ := ri
        obtain ⟨vs, m, hg, r, il, hlen⟩ := list_is S₃ ea ho
        have ho' : (h₃.update a (Obj.mapSeq (·.setIfInBounds n.toNat v'))).get? a = some (listOf (vs.setIfInBounds n.toNat v') m) := by
          rw [Heap.get?_update_self (o := listOf vs m) _ hg (Obj.isFreed_of_seq (xs := vs.setIfInBounds n.toNat v') (n := m) (by simp [Obj.mapSeq, W.listOf]))]
          simp [Obj.mapSeq, W.listOf]
        have S₄ := S₃.upd (ao := .list (xs.set n.toNat v)) ea (Heap.SameBut.update ..) ho' ⟨_, m, rfl, by rw [Array.toList_setIfInBounds]; exact r.set rv.mono.mono n.toNat⟩
        refine ki_setAt (n := m) hg h0 (by omega) (by omega) ?_
        exact TriS.next (s := { s with heap := h₂, toks := tk₂ }) (bs := ds) (TriS.next (s := { s with heap := h₁, toks := tk₁ }) (bs := cs) (TriS.next q)) _ _ [] .next .next _ lc hk (by rw [app_nil]; exact S₄) rfl) (hs env)
noncomputable def sliceO (lo hi st : Option Int) (o : Obj) : Prop := ∃ vl vu vk, IsPart vl lo ∧ IsPart vu hi ∧ IsPart vk st ∧ o = { cls := .type "slice", data := .fields #[vl, vu, vk] }
noncomputable def optI : Option Int → AV
  | none => .none
  | some a => .int a
theorem part_of {as : List Addr} {n : Option Int} {v : Value} (r : VR as (optI n) v) : IsPart v n := by
  cases n with
  | none => cases r; exact .none
  | some a => obtain ⟨t, rfl⟩ := r; exact .int _ _
theorem we_slc {lower upper step : Option Expr} {p : Pos} {k : AV → List AO → Prop}
    (h : WEo g c σ lc lower fun l σ₁ => WEo g c σ₁ lc upper fun u σ₂ => WEo g c σ₂ lc step fun t σ₃ => ∃ lo hi st, l = optI lo ∧ u = optI hi ∧ t = optI st ∧ k (.ref σ₃.length) (σ₃ ++ [.raw (sliceO lo hi st)])) : WE g c σ lc (.Slice lower upper step p) k :=
  fun A env base L as s Rm Re T S Q E q => wpAny_Slice (weo_run h A env base L as s Rm Re T S _ E fun h₁ tk₁ bs l l' σ₁ hk S₁ rl =>
    weo_run hk A env base L (as ++ bs) _ Rm Re.mono T S₁ _ E fun h₂ tk₂ cs u u' σ₂ hk₂ S₂ ru =>
      weo_run hk₂ A env base L (as ++ bs ++ cs) _ Rm Re.mono.mono T S₂ _ E fun h₃ tk₃ ds t t' σ₃ hk₃ S₃ rt => by
        obtain ⟨lo, hi, st, rfl, rfl, rfl, hk⟩ := hk₃
        have S₄ := S₃.alloc (o := { cls := .type "slice", data := .fields #[l', u', t'] }) (ao := .raw (sliceO lo hi st)) rfl ⟨l', u', t', part_of rl, part_of ru, part_of rt, rfl⟩
        refine q _ tk₃ (bs ++ cs ++ ds ++ [h₃.objs.size]) (.ref σ₃.length) _ _ hk ?_ ⟨_, ?_, rfl⟩
        · simpa only [List.append_assoc] using S₄
        · have := new_ref (a := h₃.objs.size) S₃.len
          simpa only [List.append_assoc] using this)
theorem sub_lslice {value slice : Expr} {l sl : Nat} {xs ys : List AV} {lo hi st : Option Int} {k : AV → List AO → Prop} (ho : σ[l]? = some (.list xs)) (hs : σ[sl]? = some (.raw (sliceO lo hi st))) (h0 : st ≠ some 0) (hz : xs.length ≤ sizeLine)
    (hp : ∀ as (vs : Array Value), VRs as xs vs.toList → VRs as ys (slicePick vs lo hi st).toList) (h : k (.ref σ.length) (σ ++ [.list ys])) (he : ∀ a b, subscripted slice false (.ref a) (.ref b) = operate [.ref a, .ref b] (getItem (.ref a) (.ref b))) (ht : ∀ a r, letTemporaryGo value (.ref a) r = pure ()) :
    WV2 g d σ lc (.ref l) (.ref sl) (subscriptTail value slice) VR k := by
  rintro A base L as s _ _ Rm T S ⟨a, ea, rfl⟩ ⟨b, eb, rfl⟩
  obtain ⟨vs, n, hg, r, il, hlen⟩ := list_is S ea ho
  obtain ⟨o, hg', vl, vu, vk, pl, pu, pk, rfl⟩ := S.at_ eb hs
  refine list_grown (us := slicePick vs lo hi st) h S (hp as vs r) fun Q E q => ?_
  exact subscriptTail_ops (Heap.IsList.typeIs (s := s) il) list_getitem_lookup (wpAny_getItem_list_slice il ⟨_, hg', rfl, rfl⟩ pl pu pk h0 (q _) (by rw [hlen]; exact hz)) (he a b) (ht a)
theorem pick_rev {as : List Addr} {xs : List AV} {vs : Array Value} (r : VRs as xs vs.toList) : VRs as xs.reverse (slicePick vs none none (some (-1))).toList := by
  rw [krv_pick]; exact r.reverse
theorem call_tuple {l : Nat} {xs : List AV} {k : AV → List AO → Prop} (ho : σ[l]? = some (.list xs)) (hz : xs.length ≤ sizeLine) (h : k (.ref σ.length) (σ ++ [.tuple xs])) : WCall g d σ lc (.top (.type "tuple")) [.ref l] k := by
  rintro A base L as s _ _ Rm T S rfl ra Q E q
  cases ra with
  | cons r1 ra =>
    cases ra
    obtain ⟨a, ea, rfl⟩ := r1
    obtain ⟨vs, n, hg, r, il, hlen⟩ := list_is S ea ho
    refine call_tuple_list il (fun h' hk => ?_) (by rw [hlen]; exact hz)
    have S' := (S.ext hk).alloc (o := { cls := .type "tuple", data := .seq vs }) (ao := .tuple xs) rfl ⟨vs, 0, rfl, r.mono⟩
    exact q _ _ [h'.objs.size] (.ref σ.length) _ _ h S' ⟨_, new_ref S.len, rfl⟩
theorem call_pop0 {l : Nat} {xs : List AV} {x : AV} {k : AV → List AO → Prop} (ho : σ[l]? = some (.list (x :: xs))) (hz : (x :: xs).length ≤ 1000) (h : k x (σ.set l (.list xs))) : WCall g d σ lc (.top (.builtin "list.pop")) [.ref l, .int 0] k := by
  rintro A base L as s _ _ Rm T S rfl ra Q E q
  cases ra with
  | cons r1 ra => cases ra with
    | cons r2 ra =>
      cases ra
      obtain ⟨a, ea, rfl⟩ := r1
      obtain ⟨t, rfl⟩ := r2
      obtain ⟨o, hg, vs, n, rfl, r⟩ := S.at_ ea ho
      obtain ⟨m, F, lr⟩ := S.fr
      obtain ⟨obs, hlen, N, hob⟩ := S.led
      obtain ⟨o, eo, ho', _⟩ := hob l a _ ea ho
      rw [hg] at ho'; cases ho'
      have hv : ∃ v ws, vs = (v :: ws).toArray := by
        cases e : vs.toList with
        | nil => rw [e] at r; cases r
        | cons v ws => exact ⟨v, ws, by rw [← e]⟩
      obtain ⟨v, ws, rfl⟩ := hv
      cases r with
      | cons rv rws =>
        have hl := rws.length
        simp at hz
        refine kl_popAt (k := 0) (p := []) (q := ws) (y := v) F N (by decide) (by simp [seqIndex?]) rfl (S.upd_zip hlen ea eo) (by simp; have : sizeLine = 16777216 := rfl; omega) fun h' F' N' => ?_
        refine q h' _ [] x _ _ h ?_ (by rw [app_nil]; exact rv)
        rw [app_nil]
        exact S.of_led hlen hob F' lr N' ⟨_, _, rfl, by simpa using rws⟩
theorem St.alloc_at {LM} {base h h' : Heap} {L a : Addr} {as : List Addr} {o : Obj} {ao : AO} (S : St LM base L as σ lc h) (hk : ∀ b o, h.get? b = some o → h'.get? b = some o) (ha : h.objs.size ≤ a) (hg : h'.get? a = some o) (r : OR LM (as ++ [a]) ao o) : St LM base L (as ++ [a]) (σ ++ [ao]) lc h' := by
  have S' := S.ext hk
  have ap := apart_of (own := [a]) S fun b hb => by have : b = a := by simpa using hb
                                                    subst this; exact ha
  have ha' := ap a (by simp)
  refine ⟨S'.keep, S'.lf, S'.lo, ?_, by simp [S.len], ?_, ?_, ?_⟩
  · obtain ⟨m, n, q⟩ := S'.ns; exact ⟨m, n, q.mono⟩
  · intro b hb
    rcases List.mem_append.mp hb with hb | hb
    · exact S.fresh b hb
    · have : b = a := by simpa using hb
      subst this
      exact ⟨ha'.2.2, ha'.2.1⟩
  · intro l b ao' eb e
    rcases Nat.lt_or_ge l as.length with q | q
    · rw [List.getElem?_append_left q] at eb
      rw [List.getElem?_append_left (S.len ▸ q)] at e
      obtain ⟨o', ho, r'⟩ := S'.obj l b ao' eb e
      exact ⟨o', ho, r'.mono⟩
    · rw [List.getElem?_append_right q] at eb
      rw [List.getElem?_append_right (S.len ▸ q), ← S.len] at e
      have hl : l - as.length = 0 := by
        rcases Nat.eq_zero_or_pos (l - as.length) with z | z
        · exact z
        · rw [List.getElem?_eq_none (by simp; omega)] at eb; cases eb
      rw [hl] at eb e
      simp only [List.getElem?_cons_zero, Option.some.injEq] at eb e
      subst eb e
      exact ⟨o, hg, r⟩
  · exact List.nodup_append.mpr ⟨S.nd, by simp, fun b hb b' hb' => by simp at hb'; subst hb'; exact fun z => ha'.1 (z ▸ hb)⟩
theorem signs_are {as : List Addr} : ∀ {x : List Nat} {vs : List Value}, vs.length = x.length → (∀ (j : Nat) v, vs[j]? = some v → ∃ ch u, x[j]? = some ch ∧ v = .str ⟨#[ch]⟩ u) → VRs as (x.map fun ch => .str [ch]) vs
  | [], [], _, _ => .nil
  | ch :: x, v :: vs, hl, h => by
    obtain ⟨ch', u, e1, e2⟩ := h 0 v rfl
    simp at e1
    subst e1 e2
    exact .cons ⟨u, rfl⟩ (signs_are (by simpa using hl) fun j v e => h (j + 1) v e)
theorem call_list_s {x : List Nat} {k : AV → List AO → Prop} (hz : x.length ≤ sizeLine) (h : k (.ref σ.length) (σ ++ [.list (x.map fun ch => .str [ch])])) : WCall g d σ lc (.top (.type "list")) [.str x] k := by
  rintro A base L as s _ _ Rm T S rfl ra Q E q
  cases ra with
  | cons r1 ra =>
    cases ra
    obtain ⟨t, rfl⟩ := r1
    refine call_list_str Rm.handled ⟨x.toArray⟩ t (fun h' tk acc n hk hg hi => ?_) (by simpa using hz)
    have r : VRs as (x.map fun ch => AV.str [ch]) acc.toList := signs_are (by simpa using hi.1) fun j v e => by
      obtain ⟨ch, u, e1, e2⟩ := hi.2 j v (by simpa using e)
      exact ⟨ch, u, by simpa using e1, e2⟩
    exact q h' tk [s.heap.objs.size] (.ref σ.length) _ _ h (S.alloc_at hk (Nat.le_refl _) hg ⟨acc, n, rfl, r.mono⟩) ⟨_, new_ref S.len, rfl⟩
end
end Mine
end

section
namespace Mine
section
variable {g : G} {c : Cx} {σ : List AO} {lc : Lc} {d : Nat}
theorem store_loc {A : Around} {env : Env} {base : Heap} {L : Addr} {as : List Addr} {s : Shared} {x : Str} {v : AV} {v' : Value} {Q : Unit → Shared → Prop} {E : Value → Shared → Prop} (hl : c.sc.names.lookup x = some .local) (Re : EnvR as c L env) (S : St g.LM base L as σ lc s.heap) (rv : VR as v v')
    (hQ : ∀ h' tk, St g.LM base L as σ (putV x v lc) h' → Heap.SameBut L s.heap h' → Q () { s with heap := h', toks := tk }) : wpAny (MM g) A (storeName env x v') Q E s := by
  obtain ⟨m, n, lr⟩ := S.ns
  refine wpAny_storeName_local (m := m) (kindOf_eq Re hl) (by rw [Re.loc]; exact n) (fun h'' hn hs => ?_) (by rw [Re.scope, Re.kind]; rfl)
  rw [Re.loc] at hn hs
  refine hQ h'' _ ?_ hs
  refine ⟨fun b o e => (hs.2 b fun z => S.ne_L e z).trans (S.keep b o e), S.lf, S.lo, ⟨_, hn, lr.put rv⟩, S.len, S.fresh, ?_, S.nd⟩
  intro l a ao ea e
  obtain ⟨o, ho, r'⟩ := S.obj l a ao ea e
  exact ⟨o, (hs.2 a (S.fresh a (List.mem_of_getElem? ea)).2).trans ho, r'⟩
theorem itb_pair {x y : Str} {xp yp tp : Pos} {kk : Nat} {z : Addr} {own : List Addr} {n : Nat} {Gd : List AO → Prop} {P : List Addr → Nat → Heap → Prop} {pv : Nat → AV × AV} (hx : c.sc.names.lookup x = some .local) (hy : c.sc.names.lookup y = some .local)
    (frame : ∀ {as bs i h h'}, P as i h → (∀ b ∈ own, ∀ o, h.get? b = some o → h'.get? b = some o) → P (as ++ bs) i h') (there : ∀ {as i h}, P as i h → ∀ b ∈ own, ∃ o, h.get? b = some o)
    (self : ∀ {A as i} {s : Shared} (Q : Value → Shared → Prop) (E : Value → Shared → Prop), Room c.d A → P as i s.heap → Q (.ref z) s → wpAny (MM g) A (pyIter (.ref z)) Q E s)
    (W : ∀ {as σ lc base L h i A}, A.handled = none → St g.LM base L as σ lc h → Apart own as L base → Gd σ → P as i h → ∃ fp wr Pt SW Mid, WalksT g.prog g.w A z fp wr n Pt SW Mid ∧ SW i h ∧ (∀ b ∈ wr, b ∈ own) ∧ (∀ j vals, Pt j vals → ∃ u v, vals = #[u, v] ∧ VR as (pv j).1 u ∧ VR as (pv j).2 v) ∧ ∀ j h', SW j h' → P as j h') :
    ItB g c (.Tuple [.Name x xp, .Name y yp] kk tp) z own n (fun i lc => putV y (pv i).2 (putV x (pv i).1 lc)) Gd P where
  frame := frame
  there := there
  item := fun {A env base L as σ lc i s} Q E Rm Re T S hap hGd hP hi hQ => by
    obtain ⟨fp, wr, Pt, SW, Mid, W, hst, hwr, hpt, hback⟩ := W Rm.handled S hap hGd hP
    have hapw : Apart wr as L base := fun b hb => hap b (hwr b hb)
    refine W.item i s _ _ hi hst fun Tu vals h₁ tk hPt hT isT hM hk => ?_
    have S₁ := S.sides hapw hk
    refine W.go _ _ _ i Tu _ _ _ hM fun h₂ hst₂ hk₂ => ?_
    have S₂ := S₁.sides hapw hk₂
    have isT₂ : h₂.IsTuple Tu vals := by
      obtain ⟨o, ho, r⟩ := isT
      exact ⟨o, hk₂ _ _ (W.apart i Tu h₁ hM) ho, r⟩
    obtain ⟨u, v, rfl, ru, rv⟩ := hpt i vals hPt
    refine wpAny_assign_Tuple Rm.handled isT₂ rfl rfl fun h₃ he => ?_
    have S₃ := S₂.past he
    refine wpAny_assignInOrder_more (wpAny_assign_Name (store_loc hx Re S₃ ru fun h₄ tk₄ S₄ hs₄ => ?_))
    refine wpAny_assignInOrder_more (wpAny_assign_Name (store_loc hy Re S₄ rv fun h₅ tk₅ S₅ hs₅ => ?_))
    refine wpAny_assignInOrder_none (hQ h₅ tk₅ S₅ ?_)
    have hP₂ := hback _ _ hst₂
    have z := frame (bs := []) (h' := h₅) hP₂ fun b hb o e => (hs₅.2 b (hap b hb).2.1).trans ((hs₄.2 b (hap b hb).2.1).trans (he b o (Nat.ne_of_lt (Heap.lt_size e)) e))
    rw [app_nil] at z
    exact z
  done := fun {A base L as σ lc s} Q E Rm S hap hGd hP hQ => by
    obtain ⟨fp, wr, Pt, SW, Mid, W, hst, hwr, hpt, hback⟩ := W Rm.handled S hap hGd hP
    exact W.done s _ _ hst fun h' tk hk => hQ h' tk (S.sides (fun b hb => hap b (hwr b hb)) hk)
  self := self
end
end Mine
end

section
namespace Mine
section
variable {g : G} {c c' : Cx} {σ : List AO} {lc : Lc} {d : Nat}
theorem VRs.getA {as : List Addr} {xs : List AV} {vs : Array Value} (h : VRs as xs vs.toList) {i : Nat} {v : Value} (e : vs[i]? = some v) : VR as (xs.getD i .none) v := by
  have hi : i < xs.length := by
    rw [h.length]
    rcases Nat.lt_or_ge i vs.size with q | q
    · simpa using q
    · rw [Array.getElem?_eq_none q] at e; cases e
  obtain ⟨v', e', r⟩ := h.get (i := i) (x := xs.getD i .none) (by simp [hi])
  have : vs[i]? = some v' := by simpa using e'
  rw [e] at this; cases this
  exact r
theorem zap (N a1 a2 : Nat) (h1 : a1 < N) (h2 : a2 < N) : ZipApart (N + 4) (N + 2) (N + 3) N (N + 1) a1 a2 := by
  have ne : ∀ a b : Nat, a < b → (a : Addr) ≠ b := fun a b h => Nat.ne_of_lt h
  have ne' : ∀ a b : Nat, b < a → (a : Addr) ≠ b := fun a b h => Nat.ne_of_gt h
  constructor <;> first | exact ne _ _ (by omega) | exact ne' _ _ (by omega)
theorem callit_zip {l1 l2 : Nat} {xs ys : List AV} {x y : Str} {xp yp tp : Pos} {kk : Nat} {K : List AO → Nat → (Nat → Lc → Lc) → (List AO → Prop) → Prop} (hd : c'.d = c.d) (hx : c'.sc.names.lookup x = some .local) (hy : c'.sc.names.lookup y = some .local) (h1 : σ[l1]? = some (.list xs)) (h2 : σ[l2]? = some (.list ys))
    (hK : K σ (min xs.length ys.length) (fun i lc => putV y (ys.getD i .none) (putV x (xs.getD i .none) lc)) (fun σ' => σ'[l1]? = some (.list xs) ∧ σ'[l2]? = some (.list ys))) : CallIt g c c' σ lc "zip" [.ref l1, .ref l2] (.Tuple [.Name x xp, .Name y yp] kk tp) K := by
  rintro A base L as s _ Q E Rm T S rv hQ
  cases rv with
  | cons r1 rv => cases rv with
    | cons r2 rv =>
      cases rv
      obtain ⟨a1, ea1, rfl⟩ := r1
      obtain ⟨a2, ea2, rfl⟩ := r2
      obtain ⟨vs, n, hg, r, il, hlen⟩ := list_is S ea1 h1
      obtain ⟨us, m, hg', r', il', hlen'⟩ := list_is S ea2 h2
      have lt1 : a1 < s.heap.objs.size := Heap.lt_size hg
      have lt2 : a2 < s.heap.objs.size := Heap.lt_size hg'
      refine call_zip_2 il il' fun h' hz hTI hTO i1 i2 hsz hk => ?_
      obtain ⟨N, hN⟩ : ∃ N, N = s.heap.objs.size := ⟨_, rfl⟩
      rw [← hN] at hz hTI hTO i1 i2 hsz lt1 lt2 ⊢
      refine wpAny_pyIter_zip hz ?_
      refine hQ h' s.toks _ _ _ (N + 4) [N + 4, N + 2, N + 3, N, N + 1] (fun as i h => as[l1]? = some a1 ∧ as[l2]? = some a2 ∧ IsZip h (N + 4) (N + 2) (N + 3) .none ∧ IsPair h (N + 2) (.ref N) (.ref (N + 1)) ∧ (∃ a b, IsPair h (N + 3) a b) ∧ h.IsListIter N a1 i ∧ h.IsListIter (N + 1) a2 i) hK
        (itb_pair (pv := fun i => (xs.getD i .none, ys.getD i .none)) hx hy ?_ ?_ ?_ ?_) ⟨ea1, ea2, hz, hTI, ⟨_, _, hTO⟩, i1, i2⟩ (apart_of S ?_) (S.ext hk)
      · rintro as bs i h h' ⟨e1, e2, q1, q2, ⟨a, b, q3⟩, q4, q5⟩ hk
        exact ⟨get_append e1, get_append e2, hk _ (by simp) _ q1, hk _ (by simp) _ q2, ⟨a, b, hk _ (by simp) _ q3⟩, q4.at fun o e => hk _ (by simp) o e, q5.at fun o e => hk _ (by simp) o e⟩
      · rintro as i h ⟨e1, e2, q1, q2, ⟨a, b, q3⟩, ⟨o4, q4, _⟩, ⟨o5, q5, _⟩⟩ b hb
        simp at hb
        rcases hb with rfl | rfl | rfl | rfl | rfl
        · exact ⟨_, q1⟩
        · exact ⟨_, q2⟩
        · exact ⟨_, q3⟩
        · exact ⟨_, q4⟩
        · exact ⟨_, q5⟩
      · rintro A as i s Q E Rm ⟨e1, e2, q1, _⟩ hQ
        exact wpAny_pyIter_zip q1 hQ
      · rintro as σ lc base L h i A hh S hap ⟨g1, g2⟩ ⟨e1, e2, q1, q2, q3, q4, q5⟩
        obtain ⟨vs, n, hg, r, il, hlen⟩ := list_is S e1 g1
        obtain ⟨us, m, hg', r', il', hlen'⟩ := list_is S e2 g2
        have W := WalksT.zip2 (prog := g.prog) (w := g.w) hh (N + 4) (N + 2) (N + 3) N (N + 1) a1 a2 (zap N a1 a2 lt1 lt2) vs us
        rw [hlen, hlen'] at W
        refine ⟨_, _, _, _, _, W, ⟨q1, q2, q3, q4, q5, il, il'⟩, ?_, ?_, ?_⟩
        · intro b hb
          simp at hb ⊢
          rcases hb with rfl | rfl | rfl | rfl <;> simp
        · rintro j vals ⟨u, v, eu, ev, rfl⟩
          exact ⟨u, v, rfl, r.getA eu, r'.getA ev⟩
        · rintro j h' ⟨q1, q2, q3, q4, q5, _⟩
          exact ⟨e1, e2, q1, q2, q3, q4, q5⟩
      · intro b hb
        simp at hb
        rw [← hN]
        rcases hb with rfl | rfl | rfl | rfl | rfl
        · exact Nat.le_add_right _ 4
        · exact Nat.le_add_right _ 2
        · exact Nat.le_add_right _ 3
        · exact Nat.le_refl _
        · exact Nat.le_add_right _ 1
theorem callit_enum {l : Nat} {xs : List AV} {x y : Str} {xp yp tp : Pos} {kk : Nat} {K : List AO → Nat → (Nat → Lc → Lc) → (List AO → Prop) → Prop} (hd : c'.d = c.d) (hx : c'.sc.names.lookup x = some .local) (hy : c'.sc.names.lookup y = some .local) (h1 : σ[l]? = some (.list xs))
    (hK : K σ xs.length (fun i lc => putV y (xs.getD i .none) (putV x (.int (i : Nat)) lc)) (fun σ' => σ'[l]? = some (.list xs))) : CallIt g c c' σ lc "enumerate" [.ref l] (.Tuple [.Name x xp, .Name y yp] kk tp) K := by
  rintro A base L as s _ Q E Rm T S rv hQ
  cases rv with
  | cons r1 rv =>
    cases rv
    obtain ⟨a1, ea1, rfl⟩ := r1
    obtain ⟨vs, n, hg, r, il, hlen⟩ := list_is S ea1 h1
    have lt1 : a1 < s.heap.objs.size := Heap.lt_size hg
    refine call_enumerate_list il fun h' he hit hsz hk => ?_
    obtain ⟨N, hN⟩ : ∃ N, N = s.heap.objs.size := ⟨_, rfl⟩
    rw [← hN] at he hit hsz lt1 ⊢
    have d1 : (N + 1 : Addr) ≠ N := Nat.ne_of_gt (Nat.lt_succ_self _)
    have d2 : a1 ≠ (N + 1 : Addr) := Nat.ne_of_lt (Nat.lt_succ_of_lt lt1)
    have d3 : a1 ≠ N := Nat.ne_of_lt lt1
    refine (WalksT.enumerate (prog := g.prog) (w := g.w) (A := A) Rm.handled (N + 1) N a1 d1 d2 d3 vs).self 0 _ _ _ ⟨⟨_, he⟩, hit, il.at fun o e => hk _ o e⟩ ?_
    refine hQ h' s.toks _ _ _ (N + 1) [N + 1, N] (fun as i h => as[l]? = some a1 ∧ (∃ old, IsEnum h (N + 1) N i old) ∧ h.IsListIter N a1 i) hK
      (itb_pair (pv := fun i => (.int (i : Nat), xs.getD i .none)) hx hy ?_ ?_ ?_ ?_) ⟨ea1, ⟨_, he⟩, hit⟩ (apart_of S ?_) (S.ext hk)
    · rintro as bs i h h' ⟨e1, ⟨old, q1⟩, q2⟩ hk
      exact ⟨get_append e1, ⟨old, hk _ (by simp) _ q1⟩, q2.at fun o e => hk _ (by simp) o e⟩
    · rintro as i h ⟨e1, ⟨old, q1⟩, ⟨o, q2, _⟩⟩ b hb
      simp at hb
      rcases hb with rfl | rfl
      · exact ⟨_, q1⟩
      · exact ⟨_, q2⟩
    · rintro A as i s Q E Rm ⟨e1, ⟨old, q1⟩, q2⟩ hQ
      exact wpAny_pyIter_enum q1 hQ
    · rintro as σ lc base L h i A hh S hap g1 ⟨e1, q1, q2⟩
      obtain ⟨vs, n, hg, r, il, hlen⟩ := list_is S e1 g1
      have W := WalksT.enumerate (prog := g.prog) (w := g.w) hh (N + 1) N a1 d1 d2 d3 vs
      rw [hlen] at W
      refine ⟨_, _, _, _, _, W, ⟨q1, q2, il⟩, ?_, ?_, ?_⟩
      · intro b hb
        simpa using hb
      · rintro j vals ⟨t, v, ev, rfl⟩
        exact ⟨_, v, rfl, ⟨t, rfl⟩, r.getA ev⟩
      · rintro j h' ⟨q1, q2, _⟩
        exact ⟨e1, q1, q2⟩
    · intro b hb
      simp at hb
      rw [← hN]
      rcases hb with rfl | rfl
      · exact Nat.le_add_right _ 1
      · exact Nat.le_refl _
end
end Mine
end

section
namespace Mine
section
variable {g : G} {c c' : Cx} {σ : List AO} {lc : Lc} {d : Nat}
theorem Room.roomy {A : Around} (Rm : Room (d + 1) A) : A.units + 64 < cLine := by
  have h := Rm.units
  have : cLine = 9900 := rfl
  omega
theorem cmp_ne_nil {l l' : Nat} {xs : List AV} {k : AV → List AO → Prop} (ho : σ[l]? = some (.list xs)) (ho' : σ[l']? = some (.list [])) (h : k (.bool (!xs.isEmpty)) σ) : WCmp g (d + 1) σ lc .NotEq (.ref l) (.ref l') k := by
  rintro A base L as s _ _ Rm T S ⟨a, ea, rfl⟩ ⟨b, eb, rfl⟩
  obtain ⟨vs, n, hg, r, il, hlen⟩ := list_is S ea ho
  obtain ⟨us, m, hg', r', il', hlen'⟩ := list_is S eb ho'
  refine Tri.here h S rfl fun Q E q => ?_
  have hu := Rm.roomy
  cases xs with
  | nil =>
    have e1 : vs.toList = [] := by cases h : vs.toList with
      | nil => rfl
      | cons a b => rw [h] at r; cases r
    have e2 : us.toList = [] := by cases h : us.toList with
      | nil => rfl
      | cons a b => rw [h] at r'; cases r'
    refine ne_dataH_same (da := .list []) (db := .list []) (.list hg rfl rfl (by rw [e1]; exact .nil)) (.list hg' rfl rfl (by rw [e2]; exact .nil)) (by decide) (by decide) hu (by simp [SeqAt.noMix, SeqAt.noMixAll]) ?_
    simpa [Spec.same, Spec.sameAll] using q s.toks
  | cons x xs =>
    exact SeqAt.RcNeAt.lists_lengths il il' (by rw [hlen, hlen']; rfl) (by omega) _ _ _ _ (q s.toks)
noncomputable def sD (x : List Nat) : PyData := .str ⟨x.toArray⟩
noncomputable def lD (ws : List (List Nat)) : PyData := .list (ws.map sD)
theorem sD_inj {x y : List Nat} : Spec.same (sD x) (sD y) = decide (x = y) := by
  simp only [sD, Spec.same]
  by_cases h : x = y
  · subst h; simp
  · rw [decide_eq_false h]
    exact beq_eq_false_iff_ne.mpr fun e => h (by injection e with e; simpa using e)
noncomputable def okW (ws : List (List Nat)) : Prop := ∀ x ∈ ws, ∀ c ∈ x, c < 0x110000
theorem same_strs : ∀ xs ys : List (List Nat), Spec.sameAll (xs.map sD) (ys.map sD) = decide (xs = ys)
  | [], [] => by simp [Spec.sameAll]
  | [], _ :: _ => by simp [Spec.sameAll]
  | _ :: _, [] => by simp [Spec.sameAll]
  | x :: r, y :: q => by
    simp only [List.map_cons, Spec.sameAll, sD_inj, same_strs r q]
    by_cases h : x = y <;> simp [h]
theorem same_nest : ∀ xs ys : List (List (List Nat)), Spec.sameAll (xs.map lD) (ys.map lD) = decide (xs = ys)
  | [], [] => by simp [Spec.sameAll]
  | [], _ :: _ => by simp [Spec.sameAll]
  | _ :: _, [] => by simp [Spec.sameAll]
  | x :: r, y :: q => by
    have e : Spec.same (lD x) (lD y) = decide (x = y) := by simp only [lD, Spec.same, same_strs]
    simp only [List.map_cons, Spec.sameAll, e, same_nest r q]
    by_cases h : x = y <;> simp [h]
theorem noMix_strs : ∀ xs ys : List (List Nat), SeqAt.noMixAll (xs.map sD) (ys.map sD) = true
  | [], [] => by simp [SeqAt.noMixAll]
  | [], _ :: _ => by simp [SeqAt.noMixAll]
  | _ :: _, [] => by simp [SeqAt.noMixAll]
  | _ :: r, _ :: q => by simp [SeqAt.noMixAll, sD, SeqAt.noMix]; exact noMix_strs r q
theorem noMix_nest : ∀ xs ys : List (List (List Nat)), SeqAt.noMixAll (xs.map lD) (ys.map lD) = true
  | [], [] => by simp [SeqAt.noMixAll]
  | [], _ :: _ => by simp [SeqAt.noMixAll]
  | _ :: _, [] => by simp [SeqAt.noMixAll]
  | x :: r, y :: q => by
    have e : SeqAt.noMix (lD x) (lD y) = true := by simp only [lD, SeqAt.noMix]; exact noMix_strs x y
    simp only [List.map_cons, SeqAt.noMixAll, e, Bool.true_and]; exact noMix_nest r q
theorem lay_strs : ∀ {xs : List (List Nat)}, okW xs → PyData.canLayAll0 (xs.map sD) = true
  | [], _ => by simp [PyData.canLayAll0]
  | x :: r, h => by
    have h1 : PyData.strOk ⟨x.toArray⟩ = true := by
      unfold PyData.strOk
      simpa using h x (by simp)
    have h2 := lay_strs (xs := r) fun y hy => h y (by simp [hy])
    simp only [List.map_cons, PyData.canLayAll0, sD, PyData.canLay0, h1, Bool.true_and]
    exact h2
theorem lay_nest : ∀ {xs : List (List (List Nat))}, (∀ x ∈ xs, okW x) → PyData.canLayAll0 (xs.map lD) = true
  | [], _ => by simp [PyData.canLayAll0]
  | x :: r, h => by
    have h2 := lay_nest (xs := r) fun y hy => h y (by simp [hy])
    simp only [List.map_cons, PyData.canLayAll0, lD, PyData.canLay0, lay_strs (h x (by simp)), Bool.true_and]
    exact h2
theorem deep_strs : ∀ xs : List (List Nat), PyData.depthAll (xs.map sD) ≤ 1
  | [] => by simp [PyData.depthAll]
  | n :: r => by
    have := deep_strs r
    simp only [List.map_cons, PyData.depthAll, sD, PyData.depth] at this ⊢
    omega
theorem deep_nest : ∀ xs : List (List (List Nat)), PyData.depthAll (xs.map lD) ≤ 2
  | [] => by simp [PyData.depthAll]
  | n :: r => by
    have := deep_nest r
    have h := deep_strs n
    simp only [List.map_cons, PyData.depthAll, lD, PyData.depth] at this ⊢
    omega
theorem shaped_strs {xs : List (List Nat)} (ok : okW xs) : SeqAt.shaped (lD xs) = true := by
  have h := deep_strs xs
  unfold SeqAt.shaped
  rw [Bool.and_eq_true]
  exact ⟨by simp only [lD, PyData.canLay0]; exact lay_strs ok, decide_eq_true (by simp only [lD, PyData.depth]; omega)⟩
theorem shaped_nest {xs : List (List (List Nat))} (ok : ∀ x ∈ xs, okW x) : SeqAt.shaped (.list (xs.map lD)) = true := by
  have h := deep_nest xs
  unfold SeqAt.shaped
  rw [Bool.and_eq_true]
  exact ⟨by simp only [PyData.canLay0]; exact lay_nest ok, decide_eq_true (by simp only [PyData.depth]; omega)⟩
theorem reads_strs {h : Heap} {as : List Addr} : ∀ {xs : List (List Nat)} {vs : List Value}, VRs as (strL xs) vs → ∃ bs, ReadsAll h vs (xs.map sD) bs
  | [], _, .nil => ⟨[], .nil⟩
  | x :: r, _, .cons hx t => by
    obtain ⟨bs, e⟩ := reads_strs (h := h) (xs := r) t
    obtain ⟨tk, rfl⟩ := hx
    exact ⟨_, .cons (.str _ _) e⟩
inductive Nest (σ : List AO) : List AV → List (List (List Nat)) → Prop
  | nil : Nest σ [] []
  | cons {l w xs ws} : σ[l]? = some (.list (strL w)) → Nest σ xs ws → Nest σ (.ref l :: xs) (w :: ws)
theorem Nest.snoc {xs : List AV} {ws : List (List (List Nat))} {l : Nat} {w : List (List Nat)} (h : Nest σ xs ws) (e : σ[l]? = some (.list (strL w))) : Nest σ (xs ++ [.ref l]) (ws ++ [w]) := by
  induction h with
  | nil => exact .cons e .nil
  | cons a _ ih => exact .cons a ih
theorem Nest.mono {xs : List AV} {ws : List (List (List Nat))} {σ' : List AO} (h : Nest σ xs ws) (k : ∀ (l : Nat) (w : List (List Nat)), σ[l]? = some (.list (strL w)) → σ'[l]? = some (.list (strL w))) : Nest σ' xs ws := by
  induction h with
  | nil => exact .nil
  | cons a _ ih => exact .cons (k _ _ a) ih
theorem reads_nest {h base : Heap} {L : Addr} {as : List Addr} (S : St g.LM base L as σ lc h) {xs : List AV} {ws : List (List (List Nat))} (hn : Nest σ xs ws) : ∀ {vs : List Value}, VRs as xs vs → ∃ bs, ReadsAll h vs (ws.map lD) bs := by
  induction hn with
  | nil => intro vs r; cases r; exact ⟨[], .nil⟩
  | cons e _ ih =>
    intro vs r
    cases r with
    | cons r1 r =>
      obtain ⟨a, ea, rfl⟩ := r1
      obtain ⟨us, n, hg, ru, il, _⟩ := list_is S ea e
      obtain ⟨bs, q⟩ := ih r
      obtain ⟨cs, q'⟩ := reads_strs (h := h) ru
      exact ⟨_, .cons (.list hg rfl rfl q') q⟩
theorem cmp_eq_nest {l l' : Nat} {xs ys : List AV} {ws us : List (List (List Nat))} {k : AV → List AO → Prop} (ho : σ[l]? = some (.list xs)) (ho' : σ[l']? = some (.list ys)) (hx : Nest σ xs ws) (hy : Nest σ ys us) (ok : ∀ x ∈ ws, okW x) (ok' : ∀ x ∈ us, okW x) (h : k (.bool (decide (ws = us))) σ) : WCmp g (d + 1) σ lc .Eq (.ref l) (.ref l') k := by
  rintro A base L as s _ _ Rm T S ⟨a, ea, rfl⟩ ⟨b, eb, rfl⟩
  obtain ⟨vs, n, hg, r, il, hlen⟩ := list_is S ea ho
  obtain ⟨vs', m, hg', r', il', hlen'⟩ := list_is S eb ho'
  obtain ⟨_, q1⟩ := reads_nest S hx r
  obtain ⟨_, q2⟩ := reads_nest S hy r'
  refine Tri.here h S rfl fun Q E q => eq_dataH_same (.list hg rfl rfl q1) (.list hg' rfl rfl q2) (shaped_nest ok) (shaped_nest ok') Rm.roomy (by simp only [SeqAt.noMix]; exact noMix_nest ws us) ?_
  simp only [Spec.same, same_nest]
  exact q s.toks
theorem cmp_eq_strs {l l' : Nat} {xs ys : List (List Nat)} {k : AV → List AO → Prop} (ho : σ[l]? = some (.list (strL xs))) (ho' : σ[l']? = some (.list (strL ys))) (ok : okW xs) (ok' : okW ys) (h : k (.bool (decide (xs = ys))) σ) : WCmp g (d + 1) σ lc .Eq (.ref l) (.ref l') k := by
  rintro A base L as s _ _ Rm T S ⟨a, ea, rfl⟩ ⟨b, eb, rfl⟩
  obtain ⟨vs, n, hg, r, il, hlen⟩ := list_is S ea ho
  obtain ⟨vs', m, hg', r', il', hlen'⟩ := list_is S eb ho'
  obtain ⟨_, q1⟩ := reads_strs (h := s.heap) r
  obtain ⟨_, q2⟩ := reads_strs (h := s.heap) r'
  refine Tri.here h S rfl fun Q E q => eq_dataH_same (.list hg rfl rfl q1) (.list hg' rfl rfl q2) (shaped_strs ok) (shaped_strs ok') Rm.roomy (by simp only [SeqAt.noMix]; exact noMix_strs xs ys) ?_
  simp only [Spec.same, same_strs]
  exact q s.toks
end
end Mine
end

section
namespace Mine

namespace St
variable {LM : Nat → Addr → Obj → Prop} {base h h' : Heap} {L a : Addr} {as : List Addr} {σ : List AO} {lc : Lc}
theorem more (S : St LM base L as σ lc h) {o : Obj} {ao : AO} (hn : a ∉ as) (hL : a ≠ L) (hb : base.get? a = none) (ho : h.get? a = some o) (r : OR LM (as ++ [a]) ao o) : St LM base L (as ++ [a]) (σ ++ [ao]) lc h := by
  refine ⟨S.keep, S.lf, S.lo, let ⟨m, n, q⟩ := S.ns; ⟨m, n, q.mono⟩, by simp [S.len], ?_, ?_, ?_⟩
  · intro b hb'
    rcases List.mem_append.mp hb' with q | q
    · exact S.fresh b q
    · have : b = a := by simpa using q
      subst this; exact ⟨hb, hL⟩
  · intro l b ao' eb e
    rcases Nat.lt_or_ge l as.length with q | q
    · rw [List.getElem?_append_left q] at eb
      rw [List.getElem?_append_left (S.len ▸ q)] at e
      obtain ⟨o', ho', r'⟩ := S.obj l b ao' eb e
      exact ⟨o', ho', r'.mono⟩
    · rw [List.getElem?_append_right q] at eb
      rw [List.getElem?_append_right (S.len ▸ q), ← S.len] at e
      have hl : l - as.length = 0 := by
        rcases Nat.eq_zero_or_pos (l - as.length) with z | z
        · exact z
        · rw [List.getElem?_eq_none (by simp; omega)] at eb; cases eb
      rw [hl] at eb e
      simp only [List.getElem?_cons_zero, Option.some.injEq] at eb e
      subst eb e
      exact ⟨o, ho, r⟩
  · exact List.nodup_append.mpr ⟨S.nd, by simp, fun b hb' c hc => by simp at hc; subst hc; exact fun z => hn (z ▸ hb')⟩
end St

noncomputable def cellsAt (n : Nat) : List (Str × Option AV) → List (Str × Nat)
  | [] => []
  | p :: r => (p.1, n) :: cellsAt (n + 1) r
noncomputable def cellObjs (cs : List (Str × Option AV)) : List AO := cs.map fun p => .cell p.2
theorem cells_more {LM : Nat → Addr → Obj → Prop} {base h : Heap} {L : Addr} {lc : Lc} {clos : List (Str × Addr)} {cm : Str → Option Value}
    (hcell : ∀ n c, clos.lookup n = some c → h.IsCell c (cm n)) : ∀ (cs : List (Str × Option AV)) (as : List Addr) (σ : List AO) (N : Nat), St LM base L as σ lc h → (∀ i p, cs[i]? = some p → clos.lookup p.1 = some (N + i : Nat)) →
      (∀ p ∈ cs, OVR as p.2 (cm p.1)) → (∀ a ∈ as, Nat.lt a N) → (∀ b : Nat, N ≤ b → b ≠ L ∧ base.get? b = none) →
      ∃ bs, St LM base L (as ++ bs) (σ ++ cellObjs cs) lc h ∧ ClR (as ++ bs) (cellsAt as.length cs) clos
  | [], as, σ, N, S, _, _, _, _ => ⟨[], by rw [app_nil]; simpa [cellObjs] using S, fun n l e => nomatch e⟩
  | p :: r, as, σ, N, S, hl, hv, hlt, hfr => by
    have e0 : clos.lookup p.1 = some N := hl 0 p rfl
    obtain ⟨o, ho, hd⟩ := hcell p.1 N e0
    have hnm : N ∉ as := fun q => Nat.lt_irrefl _ (hlt N q)
    have S1 := S.more (a := N) (ao := .cell p.2) hnm (hfr N (Nat.le_refl _)).1 (hfr N (Nat.le_refl _)).2 ho ⟨cm p.1, hd, (hv p (by simp)).mono⟩
    obtain ⟨bs, S2, C2⟩ := cells_more hcell r (as ++ [N]) (σ ++ [.cell p.2]) (N + 1) S1 (fun i q e => by rw [hl (i + 1) q (by simpa using e)]; exact congrArg some (show (N + (i + 1) : Nat) = N + 1 + i by omega)) (fun q hq => (hv q (by simp [hq])).mono)
      (fun b hb => by
        rcases List.mem_append.mp hb with z | z
        · exact Nat.lt_succ_of_lt (hlt b z)
        · have : b = N := by simpa using z
          rw [this]; exact Nat.lt_succ_self N) (fun b hb => hfr b (Nat.le_of_succ_le hb))
    refine ⟨N :: bs, ?_, ?_⟩
    · have : as ++ N :: bs = as ++ [N] ++ bs := by simp
      rw [this]
      simpa [cellObjs] using S2
    · have : as ++ N :: bs = as ++ [N] ++ bs := by simp
      rw [this]
      intro n l e
      simp only [cellsAt, getC] at e
      by_cases q : p.1 = n
      · rw [if_pos q] at e; cases e
        exact ⟨N, by rw [List.getElem?_append_left (by simp)]; simp, q ▸ e0⟩
      · rw [if_neg q] at e
        have := C2 n l
        simp only [List.length_append, List.length_singleton] at this
        exact this e

section
variable {g : G} {c : Cx} {σ : List AO} {lc : Lc} {d : Nat}
structure FnAtC (K : Frag) (f : Addr) (body : List Stmt) (scope : Scope) (cd : Addr) (qual : Str) : Prop extends FnAt K f body scope where
  clos : (fdAt K f).closure = []
  cd_ : (fdAt K f).code = .ref cd
  ql : (fdAt K f).qualname ++ ".<locals>." = qual
theorem call_atC {f : Addr} {args : List AV} {body : List Stmt} {scope : Scope} {k : AV → List AO → Prop} {lc₀ : Lc} {cd : Addr} {qual : Str} (cells : List (Str × Option AV)) (binds : List Value → List (Str × Value)) (ok : FnAtC g.K f body scope cd qual)
    (hbind : ∀ vals : List Value, vals.length = args.length → bindArgs (fdAt g.K f) ⟨vals, []⟩ = pure (binds vals))
    (hcs : ∀ (N i : Nat) p, cells[i]? = some p → (cellsFrom N scope.names []).lookup p.1 = some (N + i))
    (hloc : ∀ vals : List Value, vals.length = args.length → ∀ x ∈ binds vals, scope.names.lookup x.1 = some .local ∨ (scope.names.lookup x.1 = some .cell ∧ x.1 ∈ cells.map (·.1)))
    (hlr : ∀ as vals, VRs as args vals → LR as lc₀ (bindL (fun n => scope.names.lookup n) (binds vals) fun _ => none))
    (hcv : ∀ as vals, VRs as args vals → ∀ p ∈ cells, OVR as p.2 (bindC (fun n => scope.names.lookup n) (binds vals) (fun _ => none) p.1))
    (hco : scope.isCoroutine = false) (hgen : scope.isGenerator = false) (hk : scope.kind = .function)
    (h : WSs g ⟨d, scope, cellsAt σ.length cells, some (.ref cd, qual)⟩ (σ ++ cellObjs cells) lc₀ body (endOf k)) : WCall g (d + 1) σ lc (.top (.ref f)) args k := by
  rintro A base L as s _ vals Rm T S rfl rv Q E q
  have T' := T.keeps S.keep
  have hlen : vals.length = args.length := rv.length.symm
  obtain ⟨oc, od, osl, hK⟩ := ok.at_
  refine wpAny_call (codeAny_call_cells (fd := fdAt g.K f) (body := body) (binds := binds vals) (by have := Rm.depth; show A.depth < 1000; omega) (T'.kin _ _ hK) rfl T'.nolimit (codeRec_of T'.kin ok.code) ok.body (hbind vals hlen) ok.clos
    (fun x hx => by
      rw [ok.scope]
      rcases hloc vals hlen x hx with z | ⟨z1, z2⟩
      · exact .inl z
      · refine .inr ⟨z1, ?_⟩
        obtain ⟨p, hp, e⟩ := List.mem_map.mp z2
        obtain ⟨i, hi, ei⟩ := List.getElem_of_mem hp
        rw [← e, hcs _ i p (by rw [List.getElem?_eq_getElem hi, ei])]; rfl) (fun s₁ hx => ?_) (by rw [ok.scope]; exact hco) (by rw [ok.scope]; exact hgen) (by rw [ok.scope]; exact hk))
  have eko : (callEnvC (fdAt g.K f) s.heap.objs.size f).kindOf = fun n => scope.names.lookup n := by
    funext n
    show (fdAt g.K f).scope.names.lookup n = _
    rw [ok.scope]
  rw [eko] at hx
  obtain ⟨h₁, tk₁, rfl⟩ := hx.toInCall.same
  have S₁ := S.enter (lc' := lc₀) hx.toInCall.ns (hlr as vals rv) hx.toInCall.keep
  have T₁ : TopF g (St.under s.heap as) := T.keeps fun b o e => S.base_under e
  obtain ⟨bs, S₂, C₂⟩ := cells_more (clos := (callEnvC (fdAt g.K f) s.heap.objs.size f).cells) hx.cell cells as σ (s.heap.objs.size + 1) S₁ (fun i p e => by
      show (cellsFrom (s.heap.objs.size + 1) (fdAt g.K f).scope.names []).lookup p.1 = _
      rw [ok.scope]; exact hcs _ i p e) (hcv as vals rv) (fun a ha => Nat.lt_succ_of_lt (S.tracked_lt ha)) (fun b hb => ⟨Nat.ne_of_gt hb, by
        cases q : (St.under s.heap as).get? b with
        | none => rfl
        | some o => exact absurd (Heap.lt_size (of_hideAll _ q)) (Nat.not_lt.mpr (Nat.le_of_succ_le hb))⟩)
  have hcl : cellsAt as.length cells = cellsAt σ.length cells := by rw [S.len]
  rw [hcl] at C₂
  refine h (A.deeper _) (callEnvC (fdAt g.K f) s.heap.objs.size f) (St.under s.heap as) s.heap.objs.size (as ++ bs) { s with heap := h₁, toks := tk₁ } (Rm.deeper _) ⟨ok.scope, hk, rfl, C₂, ok.globals, ok.builtins, fun v q' e => by cases e; exact ⟨ok.cd_, ok.ql⟩⟩ T₁ S₂ _ _ fun h' tk bs' f f' σ' lc' hk' S' rf => ?_
  have eas : as ++ bs ++ bs' = as ++ (bs ++ bs') := List.append_assoc ..
  rw [eas] at S' rf
  have S'' := S.leave S'
  cases f with
  | ret v => obtain ⟨v', rfl, rv'⟩ := rf; exact q h' tk (bs ++ bs') v v' σ' hk' S'' rv'
  | next => cases rf; exact q h' tk (bs ++ bs') .none .none σ' hk' S'' rfl
  | brk => exact hk'.elim
  | cont => exact hk'.elim
theorem call1C {f : Addr} {a : AV} {n1 : Str} {body : List Stmt} {scope : Scope} {k : AV → List AO → Prop} {cd : Addr} {qual : Str} (more : List Str) (ok : FnAtC g.K f body scope cd qual)
    (hbind : ∀ v : Value, bindArgs (fdAt g.K f) ⟨[v], []⟩ = pure [(n1, v)]) (h1 : scope.names.lookup n1 = some .cell) (hne : n1 ∉ more)
    (hcs : ∀ (N i : Nat) p, (n1 :: more)[i]? = some p → (cellsFrom N scope.names []).lookup p = some (N + i))
    (hco : scope.isCoroutine = false) (hgen : scope.isGenerator = false) (hk : scope.kind = .function)
    (h : WSs g ⟨d, scope, cellsAt σ.length ((n1, some a) :: more.map fun n => (n, none)), some (.ref cd, qual)⟩ (σ ++ cellObjs ((n1, some a) :: more.map fun n => (n, none))) [] body (endOf k)) : WCall g (d + 1) σ lc (.top (.ref f)) [a] k := by
  refine call_atC ((n1, some a) :: more.map fun n => (n, none)) (fun vals => match vals with | [v] => [(n1, v)] | _ => []) ok (fun vals e => ?_) (fun N i p e => ?_) (fun vals e x hx => ?_) (fun as vals rv => ?_) (fun as vals rv => ?_) hco hgen hk h
  · match vals, e with
    | [v], _ => exact hbind v
  · refine hcs N i p.1 ?_
    have : (((n1, some a) :: more.map fun n => (n, none)).map (·.1))[i]? = some p.1 := by rw [List.getElem?_map, e]; rfl
    simpa [Function.comp_def] using this
  · match vals, e with
    | [v], _ => have : x = (n1, v) := by simpa using hx
                subst this; exact .inr ⟨h1, by simp⟩
  · cases rv with
    | @cons _ v _ vs r1 rv =>
      cases rv
      intro x u e
      cases e
  · cases rv with
    | @cons _ v _ vs r1 rv =>
      cases rv
      intro p hp
      have hb : bindC (fun n => scope.names.lookup n) [(n1, v)] (fun _ => none) = fun y => if y = n1 then some v else none := by
        simp only [bindC, h1]
        rfl
      rcases List.mem_cons.mp hp with rfl | hp
      · show OVR as (some a) (bindC _ [(n1, v)] _ n1)
        rw [hb]
        exact ⟨v, by simp, r1⟩
      · obtain ⟨n, hn, rfl⟩ := List.mem_map.mp hp
        show bindC _ [(n1, v)] _ n = none
        rw [hb]
        exact if_neg fun (z : n = n1) => hne (z ▸ hn)
theorem call1L {f : Addr} {a : AV} {n1 n2 : Str} {body : List Stmt} {scope : Scope} {k : AV → List AO → Prop} {cd : Addr} {qual : Str} (ok : FnAtC g.K f body scope cd qual)
    (hbind : ∀ v : Value, bindArgs (fdAt g.K f) ⟨[v], []⟩ = pure [(n1, v)]) (h1 : scope.names.lookup n1 = some .local)
    (hcs : ∀ (N : Nat), (cellsFrom N scope.names []).lookup n2 = some N)
    (hco : scope.isCoroutine = false) (hgen : scope.isGenerator = false) (hk : scope.kind = .function)
    (h : WSs g ⟨d, scope, [(n2, σ.length)], some (.ref cd, qual)⟩ (σ ++ [.cell none]) [(n1, a)] body (endOf k)) : WCall g (d + 1) σ lc (.top (.ref f)) [a] k := by
  refine call_atC [(n2, none)] (fun vals => match vals with | [v] => [(n1, v)] | _ => []) ok (fun vals e => ?_) (fun N i p e => ?_) (fun vals e x hx => ?_) (fun as vals rv => ?_) (fun as vals rv => ?_) hco hgen hk h
  · match vals, e with
    | [v], _ => exact hbind v
  · match i, e with
    | 0, e => cases e; exact hcs N
    | i + 1, e => simp at e
  · match vals, e with
    | [v], _ => have : x = (n1, v) := by simpa using hx
                subst this; exact .inl h1
  · cases rv with
    | @cons _ v _ vs r1 rv =>
      cases rv
      intro x u e
      simp only [getV] at e
      have hb : bindL (fun n => scope.names.lookup n) [(n1, v)] (fun _ => none) = fun y => if y = n1 then some v else none := by
        simp only [bindL, h1]
        rfl
      by_cases q : n1 = x
      · rw [if_pos q] at e; cases e
        exact ⟨v, by show bindL _ [(n1, v)] _ x = _; rw [hb]; simp [q], r1⟩
      · rw [if_neg q] at e; cases e
  · cases rv with
    | @cons _ v _ vs r1 rv =>
      cases rv
      intro p hp
      have : p = (n2, none) := by simpa using hp
      subst this
      show bindC _ [(n1, v)] _ n2 = none
      simp only [bindC, h1]
      rfl
end
end Mine
end

section
namespace Mine

namespace St
variable {LM : Nat → Addr → Obj → Prop} {base h h' : Heap} {L a : Addr} {as : List Addr} {σ : List AO} {lc : Lc}
theorem updX (S : St LM base L as σ lc h) {l : Nat} {o : Obj} {ao : AO} (ea : as[l]? = some a) (hs : Heap.ExtBut a h h') (ho : h'.get? a = some o) (r : OR LM as ao o) : St LM base L as (σ.set l ao) lc h' := by
  have hl : l < as.length := by
    rcases Nat.lt_or_ge l as.length with q | q
    · exact q
    · rw [List.getElem?_eq_none q] at ea; cases ea
  have hm : a ∈ as := List.mem_of_getElem? ea
  have fa := S.fresh a hm
  refine ⟨fun b o' e => hs b o' (fun z => ?_) (S.keep b o' e), S.lf, S.lo, ?_, by simp [S.len], S.fresh, ?_, S.nd⟩
  · rw [z, fa.1] at e; cases e
  · obtain ⟨m, n, q⟩ := S.ns; exact ⟨m, n.extBut hs (Ne.symm fa.2), q⟩
  · intro l' a' ao' ea' e
    by_cases hll : l' = l
    · subst hll
      rw [ea] at ea'; cases ea'
      rw [List.getElem?_set_self (S.len ▸ hl)] at e
      cases e
      exact ⟨o, ho, r⟩
    · rw [List.getElem?_set_ne (Ne.symm hll)] at e
      obtain ⟨o', ho', r'⟩ := S.obj l' a' ao' ea' e
      refine ⟨o', hs a' o' (fun z => hll ?_) ho', r'⟩
      subst z
      have h1 : l' < as.length := by
        rcases Nat.lt_or_ge l' as.length with q | q
        · exact q
        · rw [List.getElem?_eq_none q] at ea'; cases ea'
      exact (List.getElem?_inj h1 S.nd).mp (ea'.trans ea.symm)
end St

section
variable {g : G} {c : Cx} {σ : List AO} {lc : Lc} {d : Nat}
theorem we_lambda {params : Arguments} {body : Expr} {scope : Scope} {pos : Pos} {cd P : Addr} {qual : Str} {t : Nat} {cl : List (Str × Nat)} {k : AV → List AO → Prop} (hcx : c.cd = some (.ref cd, qual)) (hdef : ∀ env, defaultsOf params env = ([], []))
    (hcl : CellsOk c scope cl) (hhd : codeHdIn g.K cd P = true) (ht : σ[t]? = some (.tab t P true))
    (h : k (.ref (σ.length + 1)) (σ.set t (.tab t P false) ++ [.code (qual ++ "<lambda>"), .fn ⟨qual ++ "<lambda>", params, body, scope⟩ cl σ.length])) : WE g c σ lc (.Lambda params body scope pos) k :=
  fun A env base L as s Rm Re T S Q E q => by
    obtain ⟨ecd, eql⟩ := Re.code _ _ hcx
    obtain ⟨clos, ecl, hC⟩ := hcl as L env Re
    obtain ⟨o, ho, eP, ps, rfl, tr, hf⟩ := S.at_ (show as[t]? = some P from by
      obtain ⟨a, o, ea, _, _, eP, _⟩ := S.addr ht
      exact eP) ht
    have hps : ps = #[] := hf rfl
    subst hps
    have Pm : P ∈ as := List.mem_of_getElem? eP
    have bP := (S.fresh P Pm).1
    have T' := T.keeps S.keep
    have hgP : mainGlobals ≠ P := fun z => by
      obtain ⟨o', es, ep, e, hd, _⟩ := T.gl
      rw [z, bP] at e; cases e
    obtain ⟨bm, ob, b1, b2, b3, b4, b5, b6⟩ := T.bm
    have hbP : bm ≠ P := fun z => by rw [z, bP] at b3; cases b3
    have hbG : bm ≠ mainGlobals := fun z => by
      obtain ⟨o', es, ep, e, hd, _⟩ := T.gl
      rw [z, e] at b3; cases b3; rw [hd] at b6; cases b6
    refine kla_eval (hdef env) ?_
    rw [eql]
    refine kla_makeFunction (mg := g.mg) ecl Re.glob T'.gl ecd (codeHd_of_K T'.kin hhd) ho tr rfl hgP ⟨bm, ob, b1, b2, hbG, hbP, S.keep _ _ b3, b4, b5, b6⟩ fun c' ctv h' tk hx hge hlt hrec htb => ?_
    obtain ⟨c₂, oc, vs, tq, e2, hoc, hd, hv⟩ := hrec
    cases e2
    have S1 := S.updX (ao := .tab t P false) eP hx htb ⟨eP, _, rfl, by simp [TriplesOk, rawInt], fun z => nomatch z⟩
    have hLs : L < s.heap.objs.size := by
      obtain ⟨m, ⟨oL, _, _, hL, _⟩, _⟩ := S.ns
      exact Heap.lt_size hL
    have S2 := S1.more (a := c') (ao := .code (qual ++ "<lambda>")) (fun z => absurd (S.tracked_lt z) (Nat.not_lt.mpr hge)) (Nat.ne_of_gt (Nat.lt_of_lt_of_le hLs hge)) (by
      cases q : base.get? c' with
      | none => rfl
      | some o' => exact absurd (Heap.lt_size (S.keep _ _ q)) (Nat.not_lt.mpr hge)) hoc ⟨vs, tq, hd, hv⟩
    have ec : (as ++ [c'])[σ.length]? = some c' := new_ref S.len
    have S3 := S2.alloc (o := kla_obj "<lambda>" (qual ++ "<lambda>") params body scope clos ((g.mg "__name__").getD .none) c' ctv) (ao := .fn ⟨qual ++ "<lambda>", params, body, scope⟩ cl σ.length) rfl
      ⟨c', clos, _, ctv, get_append ec, ClR.mono (ClR.mono hC), rfl⟩
    have eas : as ++ ([c'] ++ [h'.objs.size]) = as ++ [c'] ++ [h'.objs.size] := by simp
    refine q _ tk ([c'] ++ [h'.objs.size]) (.ref (σ.length + 1)) _ _ h ?_ ?_
    · rw [eas]
      have : σ.set t (.tab t P false) ++ [.code (qual ++ "<lambda>"), .fn ⟨qual ++ "<lambda>", params, body, scope⟩ cl σ.length] = σ.set t (.tab t P false) ++ [.code (qual ++ "<lambda>")] ++ [.fn ⟨qual ++ "<lambda>", params, body, scope⟩ cl σ.length] := by simp
      rw [this]
      exact S3
    · rw [eas]
      refine ⟨_, ?_, rfl⟩
      rw [List.getElem?_append_right (by simp [S.len])]
      simp [S.len]
theorem kp_fn {l cdl : Nat} {F : FnI} {cl : List (Str × Nat)} (ho : σ[l]? = some (.fn F cl cdl)) : Kp g σ (.ref l) := by
  rintro base L as lc h _ T S ⟨a, ea, rfl⟩
  obtain ⟨o, hg, ca, clos, pm, ctv, _, _, rfl⟩ := S.at_ ea ho
  exact keeps_F h ⟨_, _, _, _, hg⟩
theorem call_lam {l cdl : Nat} {F : FnI} {cl : List (Str × Nat)} {args : List AV} {lc₀ : Lc} {k : AV → List AO → Prop} (binds : List Value → List (Str × Value)) (ho : σ[l]? = some (.fn F cl cdl)) (hcd : σ[cdl]? = some (.code F.qual))
    (hbind : ∀ clos pm ca ctv (vals : List Value), vals.length = args.length → bindArgs (kla_fn "<lambda>" F.qual F.params F.body F.scope clos pm ca ctv) ⟨vals, []⟩ = pure (binds vals))
    (hloc : ∀ vals : List Value, vals.length = args.length → ∀ x ∈ binds vals, F.scope.names.lookup x.1 = some .local)
    (hlr : ∀ as vals, VRs as args vals → LR as lc₀ fun x => (binds vals).reverse.lookup x)
    (hcell : ∀ x ∈ F.scope.names, x.2 ≠ .cell) (hco : F.scope.isCoroutine = false) (hgen : F.scope.isGenerator = false) (hk : F.scope.kind = .function)
    (h : WE g ⟨d, F.scope, cl, none⟩ σ lc₀ F.body k) : WCall g (d + 1) σ lc (.ref l) args k := by
  rintro A base L as s _ vals Rm T S ⟨a, ea, rfl⟩ rv Q E q
  have T' := T.keeps S.keep
  have hlen : vals.length = args.length := rv.length.symm
  obtain ⟨o, hg, ca, clos, pm, ctv, eca, hC, rfl⟩ := S.at_ ea ho
  obtain ⟨oc, hgc, vs, tq, hd, hv⟩ := S.at_ eca hcd
  refine wpAny_call (kla_callFunE (fd := kla_fn "<lambda>" F.qual F.params F.body F.scope clos pm (.ref ca) ctv) (by have := Rm.depth; show A.depth < 1000; omega) hg rfl hco hgen rfl ⟨ca, oc, vs, tq, rfl, hgc, hd, hv⟩ ?_)
  rw [hbind _ _ _ _ vals hlen]
  refine wpAny_pure (wpAny_newFunctionEnv hcell (hloc vals hlen) (fun h₁ hns hsb => ?_) hk)
  have hk₁ : ∀ b o, s.heap.get? b = some o → h₁.get? b = some o := fun b o e => hsb.extBut b o (Nat.ne_of_lt (Heap.lt_size e)) (Heap.get?_push_of_some _ e)
  refine ⟨T'.nolimit.keeps hk₁, ?_⟩
  have S₁ := S.enter (lc' := lc₀) hns (hlr as vals rv) hk₁
  have T₁ : TopF g (St.under s.heap as) := T.keeps fun b o e => S.base_under e
  refine kla_codeExpr (h (A.deeper _) (envX F.qual F.scope s.heap.objs.size a (.ref ca) clos) (St.under s.heap as) s.heap.objs.size as _ (Rm.deeper _) ⟨rfl, hk, rfl, hC, rfl, rfl, fun _ _ e => (nomatch e)⟩ T₁ S₁ _ _ fun h' tk bs v v' σ' hk' S' rv' => ?_)
  exact q h' tk bs v v' σ' hk' (S.leave S') rv'
end
end Mine
end

section
namespace Mine
section
variable {g : G} {c : Cx} {σ : List AO} {lc : Lc} {d : Nat}
theorem get_cls {C : Addr} {name : Str} {x : AV} {v : Value} {k : AV → List AO → Prop} (hr : readsIn g.K C (.type "type") = true) (e : findCls g.K (.ref C) (.type "type") name = some (.val v)) (hh : handedIn v = true) (hv : ∀ as, VR as x v) (h : k x σ) :
    WGet g d σ lc (.top (.ref C)) name k := by
  rintro b A base L as s _ Rm T S rfl
  exact Tri.here h S (hv as) fun Q E q => cls_value (T.keeps S.keep).kin hr e hh (q _)
theorem Room.under1 {A : Around} (R : Room (d + 1) A) {c : Code} (hw : c.weight ≤ 8) (hu : c.cUnits ≤ 64) : Room d (A.under c) := by
  refine ⟨R.handled, ?_, ?_⟩
  · show A.depth + c.weight + 8 * d ≤ 900
    have := R.depth
    omega
  · have h1 := R.units
    have : (A.under c).units ≤ A.units + 64 := by
      show A.units + c.cUnits ≤ _
      omega
    omega
theorem tcall_w (C : Addr) (u : Value) : (Code.builtin "type.__call__" ⟨[.ref C, u], []⟩).weight = 1 := by kernel_rfl
theorem tcall_u (C : Addr) (u : Value) : (Code.builtin "type.__call__" ⟨[.ref C, u], []⟩).cUnits = 1 := by kernel_rfl
theorem make2 {C f : Addr} {a : AV} {n1 n2 : Str} {body : List Stmt} {scope : Scope} {k : AV → List AO → Prop} (hm : makesIn g.K C = true) (hi : findIn g.K (.ref C) "__init__" = some (some (.ref f))) (hf : isFn g.K (.ref f) = true) (ok : FnAt g.K f body scope)
    (hbind : ∀ v u : Value, bindArgs (fdAt g.K f) ⟨[v, u], []⟩ = pure [(n1, v), (n2, u)]) (h1 : scope.names.lookup n1 = some .local) (h2 : scope.names.lookup n2 = some .local) (hne : n1 ≠ n2)
    (hcell : ∀ x ∈ scope.names, x.2 ≠ .cell) (hco : scope.isCoroutine = false) (hgen : scope.isGenerator = false) (hk : scope.kind = .function)
    (h : WSs g ⟨d, scope, [], none⟩ (σ ++ [.dict [], .inst C σ.length]) [(n1, .ref (σ.length + 1)), (n2, a)] body (endOf fun v σ' => v = .none ∧ k (.ref (σ.length + 1)) σ')) : WCall g (d + 2) σ lc (.top (.ref C)) [a] k := by
  rintro A base L as s _ vals Rm T S rfl rv Q E q
  cases rv with
  | @cons _ u _ _ ru rv =>
    cases rv
    have T' := T.keeps S.keep
    obtain ⟨oc, od, osl, hK⟩ := ok.at_
    have Rm' : Room (d + 1) (A.under (.builtin "type.__call__" ⟨[.ref C, u], []⟩)) := Rm.under1 (by rw [tcall_w]; decide) (by rw [tcall_u]; decide)
    obtain ⟨hh, gg, dd, tt, os⟩ := s
    refine wpAny_call (make_core (makes_of T'.kin hm) (looks_findIn T'.kin hi) (fun self => bind_fn T'.kin self (beq_iff_eq.mp hf)) (.inl rfl) ?_)
    have S1 := S.alloc (o := emptyDict) (ao := .dict []) rfl ⟨[], 0, rfl, .nil⟩
    have S2 := S1.alloc (o := instObj C hh.objs.size) (ao := .inst C σ.length) rfl ⟨_, get_append (new_ref S.len), rfl⟩
    have ea : (as ++ [hh.objs.size] ++ [(hh.push emptyDict).objs.size])[σ.length + 1]? = some (hh.objs.size + 1) := by
      rw [List.getElem?_append_right (by simp [S.len]), Heap.size_push]
      simp [S.len]
    have eσ : σ ++ [AO.dict []] ++ [AO.inst C σ.length] = σ ++ [.dict [], .inst C σ.length] := by simp
    rw [eσ] at S2
    have T2 := T.keeps S2.keep
    refine codeAny_call_def (fd := fdAt g.K f) (body := body) (binds := [(n1, .ref (hh.objs.size + 1)), (n2, u)]) (by have := Rm'.depth; show (A.under _).depth < 1000; omega) (T2.kin _ _ hK) rfl T2.nolimit (codeRec_of T2.kin ok.code) ok.body (BindsTo.of_eq (hbind _ _)) (by rw [ok.scope]; exact hcell)
      (by
        rw [ok.scope]
        intro x hx
        have : x = (n1, .ref (hh.objs.size + 1)) ∨ x = (n2, u) := by simpa using hx
        rcases this with rfl | rfl
        · exact h1
        · exact h2) (fun h₀ hns hk₀ => ?_) (by rw [ok.scope]; exact hco) (by rw [ok.scope]; exact hgen) (by rw [ok.scope]; exact hk)
    have lr : LR (as ++ [hh.objs.size] ++ [(hh.push emptyDict).objs.size]) [(n1, .ref (σ.length + 1)), (n2, a)] fun x => [(n1, Value.ref (hh.objs.size + 1)), (n2, u)].reverse.lookup x := by
      intro x y e
      simp only [getV] at e
      by_cases q : n1 = x
      · rw [if_pos q] at e; cases e
        refine ⟨.ref (hh.objs.size + 1), ?_, ⟨_, ea, rfl⟩⟩
        show List.lookup x [(n2, u), (n1, Value.ref (hh.objs.size + 1))] = _
        rw [List.lookup_cons, List.lookup_cons]
        have : (x == n2) = false := by simpa [← q] using hne
        rw [this]; simp [q]
      · rw [if_neg q] at e
        by_cases q2 : n2 = x
        · rw [if_pos q2] at e; cases e
          exact ⟨u, by show List.lookup x [(n2, u), (n1, Value.ref (hh.objs.size + 1))] = some u; simp [List.lookup, q2], ru.mono.mono⟩
        · rw [if_neg q2] at e; cases e
    have S₁ := S2.enter (lc' := [(n1, .ref (σ.length + 1)), (n2, a)]) hns lr hk₀
    have T₁ := T.keeps (h' := St.under ((hh.push emptyDict).push (instObj C hh.objs.size)) (as ++ [hh.objs.size] ++ [(hh.push emptyDict).objs.size])) fun b o e => S2.base_under e
    refine h ((A.under (.builtin "type.__call__" ⟨[.ref C, u], []⟩)).deeper _) _ _ _ _ _ (Rm'.deeper _) ⟨ok.scope, hk, rfl, fun n l e => (nomatch e), ok.globals, ok.builtins, fun _ _ e => (nomatch e)⟩ T₁ S₁ _ _ fun h' tk bs f f' σ' lc' hk' S' rf => ?_
    have S'' := S2.leave S'
    have eas : as ++ ([hh.objs.size] ++ [(hh.push emptyDict).objs.size] ++ bs) = as ++ [hh.objs.size] ++ [(hh.push emptyDict).objs.size] ++ bs := by simp
    have fin : k (.ref (σ.length + 1)) σ' → Q (.ref (hh.objs.size + 1)) ⟨h', gg, dd, tk, os⟩ := fun kk =>
      q h' tk ([hh.objs.size] ++ [(hh.push emptyDict).objs.size] ++ bs) (.ref (σ.length + 1)) _ σ' kk (by rw [eas]; exact S'') (by rw [eas]; exact ⟨_, get_append ea, rfl⟩)
    cases f with
    | ret v => obtain ⟨v', rfl, rv'⟩ := rf; obtain ⟨rfl, kk⟩ := hk'; cases rv'; exact ⟨rfl, fin kk⟩
    | next => cases rf; obtain ⟨_, kk⟩ := hk'; exact ⟨rfl, fin kk⟩
    | brk => exact hk'.elim
    | cont => exact hk'.elim
end
end Mine
end

section
namespace Mine
theorem slot_ci_next : Slot "callable_iterator" "__next__" "callable_iterator.__next__" :=
  .of (owner := "callable_iterator") (n := "__next__") (by rw [typeLookup_type, builtinLookup_eq_fast]; kernel_rfl) (by decide +kernel) (by decide +kernel) (by decide +kernel)
    (by first | exact .inl (by decide +kernel) | exact .inr (by decide +kernel)) (by rw [isSubtype_type]; kernel_rfl)
theorem slot_ci_iter : Slot "callable_iterator" "__iter__" "callable_iterator.__iter__" :=
  .of (owner := "callable_iterator") (n := "__iter__") (by rw [typeLookup_type, builtinLookup_eq_fast]; kernel_rfl) (by decide +kernel) (by decide +kernel) (by decide +kernel)
    (by first | exact .inl (by decide +kernel) | exact .inr (by decide +kernel)) (by rw [isSubtype_type]; kernel_rfl)
theorem entry_ci_next : entryFor table "callable_iterator.__next__" = some Builtin.«callable_iterator.__next__» := entryFor_of_fast (by kernel_rfl)

theorem args_ci_next (a : Value) : argsOk "callable_iterator.__next__" ⟨[a], []⟩ := by unfold argsOk; kernel_rfl
theorem args_ci_iter (a : Value) : argsOk "callable_iterator.__iter__" ⟨[a], []⟩ := by unfold argsOk; kernel_rfl
theorem entry_iter : entryFor table "iter" = some Builtin.«iter» := entryFor_of_fast (by kernel_rfl)
theorem kind_iter : builtinKind "iter" = none := by decide +kernel
theorem plain_iter : plainId "iter" = true := by decide +kernel
theorem args_iter (a b : Value) : argsOk "iter" ⟨[a, b], []⟩ := by unfold argsOk; kernel_rfl

theorem wpAny_borrowed {M : Model} {A : Around} {s : Shared} {f : Value} {pos : List Value} {Q : Value → Shared → Prop} {E : Value → Shared → Prop} (h : wpAny M A (call f pos) Q E s) : wpAny M A (callBorrowed f pos) Q E s := fun Γ p hΓ => by
  have z := h Γ p hΓ
  unfold call at z
  rw [Sem.wp_runValue] at z
  unfold callBorrowed
  show wpCode M _ _ p s
  refine wpCode_mono (fun r s' y => ?_) z
  rcases r with e | (v | _ | _ | _) <;> first | exact y | exact y.elim
end Mine
namespace Mine
theorem entry_ci_iter : entryFor table "callable_iterator.__iter__" = some Builtin.«dict_keyiterator.__iter__» :=
  entryFor_alias (id' := "dict_keyiterator.__iter__") (by kernel_rfl) rfl (by decide +kernel) (by kernel_rfl)
theorem meth_callable : ∃ r, typeLookup (.type "method") "__call__" = pure (some r) := ⟨.builtin "method.__call__", by rw [typeLookup_type, builtinLookup_eq_fast]; kernel_rfl⟩
section
variable {g : G} {c : Cx} {σ : List AO} {lc : Lc} {d : Nat}
theorem call_iter2 {fl fm : Nat} {self : AV} {k : AV → List AO → Prop} (hm : σ[fl]? = some (.meth fm self)) (h : k (.ref σ.length) (σ ++ [.citer (.ref fl) (.str [])])) : WCall g d σ lc (.top (.builtin "iter")) [.ref fl, .str []] k := by
  rintro A base L as s _ _ Rm T S rfl ra
  cases ra with
  | cons r1 ra => cases ra with
    | cons r2 ra =>
      cases ra
      obtain ⟨a, ea, rfl⟩ := r1
      obtain ⟨t, rfl⟩ := r2
      obtain ⟨o, hg, s', rs, rfl⟩ := S.at_ ea hm
      obtain ⟨r, hr⟩ := meth_callable
      refine Tri.made (o := { cls := .type "callable_iterator", data := .fields #[.ref a, .str ⟨([] : List Nat).toArray⟩ t, .bool false] }) h S ⟨.ref a, _, ⟨a, get_append ea, rfl⟩, ⟨t, rfl⟩, rfl⟩ rfl ⟨_, new_ref S.len, rfl⟩ fun Q E q => ?_
      refine call_function_entry kind_iter plain_iter entry_iter (args_iter _ _) ?_
      show wpAny _ _ (do
        if (← specialOf (.ref a) "__call__").isNone then rule "iter.not-callable"; raiseError "TypeError" "iter(v, w): v must be callable"
        rule "iter.sentinel"; ret (← newFields "callable_iterator" [.ref a, .str ⟨([] : List Nat).toArray⟩ t, .bool false])) _ _ _
      refine wpAny_bind (wpAny_specialOf (T := "method") ⟨_, hg, rfl⟩ hr ?_)
      simp only [Option.isNone_some, Bool.false_eq_true, if_false]
      refine wpAny_bind (wpAny_rule (wpAny_bind (wpAny_newObj_type (wpAny_pure ⟨_, rfl, ?_⟩))))
      exact q s.toks
end
end Mine
end

section
namespace Mine
theorem Room.in1 {d : Nat} {A : Around} (R : Room (d + 1) A) : Room d A.in1 := ⟨R.handled, by have := R.depth; show A.depth + 8 * d ≤ 900; omega, by have := R.units; show A.units + 1 + 64 * d ≤ 9000; omega⟩
theorem wpAny_borrows {M : Model} {A : Around} {E : Value → Shared → Prop} {s : Shared} {a f : Addr} {self : Value} {o : Obj} {fd : FuncData} {Q : Bool → Shared → Prop} (ho : s.heap.get? a = some (methodObj (.ref f) self)) (hf : s.heap.get? f = some o) (hd : o.data = .func fd) (h : Q true s) :
    wpAny M A (borrowsExactly (.ref a)) Q E s := by
  unfold borrowsExactly
  refine wpAny_bind (wpAny_load ho ?_)
  show wpAny M A (do match (← load f).data with | .func _ => pure true | _ => pure false) Q E s
  refine wpAny_bind (wpAny_load hf ?_)
  rw [hd]
  exact wpAny_pure h
section
variable {g : G} {c : Cx} {σ : List AO} {lc : Lc} {d : Nat}
theorem next_ci {l fl fm : Nat} {self : AV} {k : Option AV → List AO → Prop} (ho : σ[l]? = some (.citer (.ref fl) (.str []))) (hm : σ[fl]? = some (.meth fm self)) (hfn : fnIn g.K fm = true)
    (h : WCall g d σ lc (.ref fl) [] fun y σ' => σ'[l]? = some (.citer (.ref fl) (.str [])) ∧ σ'[fl]? = some (.meth fm self) ∧ ∃ w, y = .str w ∧ if w = [] then k none (σ'.set l .cdone) else k (some (.str w)) σ') :
    WV1 g (d + 1) σ lc (.ref l) pyNext OVR k := by
  rintro A base L as s _ Rm T S ⟨it, eit, rfl⟩ Q E q
  obtain ⟨o, hg, f', s', rf, rs, rfl⟩ := S.at_ eit ho
  obtain ⟨fa, efa, rfl⟩ := rf
  obtain ⟨t, rfl⟩ := rs
  obtain ⟨om, hgm, self', rself, rfl⟩ := S.at_ efa hm
  have T' := T.keeps S.keep
  obtain ⟨oc, od, fd, sl, hK⟩ : ∃ oc od fd sl, g.K.lookup fm = some ⟨oc, od, .func fd, sl⟩ := by
    unfold fnIn at hfn
    split at hfn
    · rename_i e; exact ⟨_, _, _, _, e⟩
    · cases hfn
  have hT : s.TypeIs (.ref it) "callable_iterator" := ⟨_, hg, rfl⟩
  unfold pyNext
  refine wpAny_bind (wpAny_attempt (wpAny_callSpecial?_slot (name := Str.ofString "__next__") hT slot_ci_next (wpAny_call_entry slot_ci_next hT entry_ci_next ?_ (args_ci_next _))))
  show wpAny _ _ (field (.ref it) 2 >>= _) _ _ s
  refine wpAny_bind (wpAny_field hg rfl (x := .bool false) rfl ?_)
  show wpAny _ _ (if ((Value.bool false) == .bool true) = true then _ else _) _ _ s
  rw [if_neg (show ¬ (((Value.bool false) == .bool true) = true) from Bool.false_ne_true)]
  show wpAny _ _ (field (.ref it) 0 >>= _) _ _ s
  refine wpAny_bind (wpAny_field hg rfl (x := .ref fa) rfl ?_)
  refine wpAny_bind (wpAny_attempt ?_)
  unfold callOutOfASlot
  refine wpAny_bind (wpAny_borrows hgm (T'.kin _ _ hK) rfl ?_)
  simp only [if_true]
  refine wpAny_borrowed (h A.in1 base L as s _ [] Rm.in1 T S ⟨fa, efa, rfl⟩ .nil _ _ fun h₁ tk₁ bs y y' σ₁ hk S₁ ry => ?_)
  obtain ⟨ho₁, hm₁, w, rfl, hk⟩ := hk
  obtain ⟨u, rfl⟩ := ry
  obtain ⟨o₁, hg₁, f₁, s₁, rf₁, rs₁, rfl⟩ := S₁.at_ (get_append eit) ho₁
  obtain ⟨fa₁, efa₁, rfl⟩ := rf₁
  have : fa₁ = fa := by
    rw [get_append efa] at efa₁; exact (Option.some.inj efa₁).symm
  subst this
  obtain ⟨t₁, rfl⟩ := rs₁
  obtain ⟨om₁, hgm₁, self₁, rself₁, rfl⟩ := S₁.at_ efa₁ hm₁
  have T₁ := T.keeps S₁.keep
  show wpAny _ _ (field (.ref it) 2 >>= _) _ _ _
  refine wpAny_bind (wpAny_field hg₁ rfl (x := .bool false) rfl ?_)
  show wpAny _ _ (if ((Value.bool false) == .bool true) = true then _ else _) _ _ _
  rw [if_neg (show ¬ (((Value.bool false) == .bool true) = true) from Bool.false_ne_true)]
  refine wpAny_bind (wpAny_field hg₁ rfl (x := .str ⟨([] : List Nat).toArray⟩ t₁) rfl ?_)
  refine wpAny_bind (wpAny_holding (wpAny_eqBool_str ?_))
  by_cases hw : w = []
  · subst hw
    rw [if_pos rfl] at hk
    simp only [decide_true, Bool.not_true, Bool.false_eq_true, if_false]
    refine wpAny_bind (wpAny_rule (wpAny_bind ?_))
    show wpAny _ _ (field (.ref it) 0 >>= fun z => slotLetsGo "callable_iterator.__next__" z _ >>= _) _ _ _
    refine wpAny_bind (wpAny_field hg₁ rfl (x := .ref fa₁) rfl ?_)
    refine wpAny_bind (m := slotLetsGo _ _ _) ?_
    unfold slotLetsGo
    refine wpAny_bind (wpAny_borrows hgm₁ (T₁.kin _ _ hK) rfl ?_)
    simp only [if_true]
    refine wpAny_pure ?_
    refine wpAny_bind (wpAny_setField_rec hg₁ (by simp) fun h2 e2 b2 => ?_)
    refine wpAny_bind (wpAny_setField_rec e2 (by simp) fun h3 e3 b3 => ?_)
    refine wpAny_setField_rec e3 (by simp) fun h4 e4 b4 => ?_
    show wpAny _ _ (newExc (.type "StopIteration") [] >>= _) _ _ _
    refine wpAny_bind ?_
    simp only [newExc, newTuple]
    refine wpAny_bind (wpAny_newObj_type ?_ (by size_fits))
    refine wpAny_bind (m := firstArgMember _ _) (wpAny_of_eq (a := Value.none) (by first | rfl | (simp only [firstArgMember]; rfl)) ?_)
    refine wpAny_newObj_type ?_ (by size_fits)
    simp only [raiseNew]
    refine wpAny_bind (wpAny_handled ?_)
    rw [show A.in1.handled = none from Rm.handled]
    refine wpAny_bind (wpAny_pure (wpAny_throw ?_))
    refine wpAny_bind (wpAny_isInstance (T := "StopIteration") (b := true) ⟨_, Heap.get?_push_size _ rfl, rfl⟩ isSubtype_stop ?_)
    have S4 : St g.LM base L (as ++ bs) (σ₁.set l .cdone) lc h4 := by
      refine S₁.upd (ao := .cdone) (get_append eit) ⟨b4.1.trans (b3.1.trans b2.1), fun b hb => (b4.2 b hb).trans ((b3.2 b hb).trans (b2.2 b hb))⟩ e4 ?_
      show _ = _
      simp [Array.setIfInBounds]
    refine wpAny_pure (q _ tk₁ bs none none (σ₁.set l .cdone) hk (S4.ext fun b o e => ?_) rfl)
    exact Heap.get?_push_of_some _ (Heap.get?_push_of_some _ e)
  · rw [if_neg hw] at hk
    have hne : decide ((⟨([] : List Nat).toArray⟩ : Str) = ⟨w.toArray⟩) = false := by
      rw [decide_eq_false]
      intro z
      apply hw
      have := congrArg (fun s : Str => s.cps.toList) z
      simpa using this.symm
    rw [hne]
    simp only [Bool.not_false, if_true]
    refine wpAny_pure ⟨_, rfl, ?_⟩
    exact wpAny_pure (q h₁ tk₁ bs (some (.str w)) _ σ₁ hk S₁ ⟨_, rfl, u, rfl⟩)

theorem next_cd {l : Nat} {k : Option AV → List AO → Prop} (ho : σ[l]? = some .cdone) (h : k none σ) : WV1 g (d + 1) σ lc (.ref l) pyNext OVR k := by
  rintro A base L as s _ Rm T S ⟨it, eit, rfl⟩ Q E q
  obtain ⟨o, hg, rfl⟩ := S.at_ eit ho
  have hT : s.TypeIs (.ref it) "callable_iterator" := ⟨_, hg, rfl⟩
  unfold pyNext
  refine wpAny_bind (wpAny_attempt (wpAny_callSpecial?_slot (name := Str.ofString "__next__") hT slot_ci_next (wpAny_call_entry slot_ci_next hT entry_ci_next ?_ (args_ci_next _))))
  show wpAny _ _ (field (.ref it) 2 >>= _) _ _ s
  refine wpAny_bind (wpAny_field hg rfl (x := .bool true) rfl ?_)
  show wpAny _ _ (if ((Value.bool true) == .bool true) = true then _ else _) _ _ s
  rw [if_pos (show (((Value.bool true) == .bool true) = true) from rfl)]
  refine wpAny_bind (wpAny_rule ?_)
  refine wpAny_bind ?_
  show wpAny _ _ (newExc (.type "StopIteration") [] >>= _) _ _ _
  refine wpAny_bind ?_
  simp only [newExc, newTuple]
  refine wpAny_bind (wpAny_newObj_type ?_ (by size_fits))
  refine wpAny_bind (m := firstArgMember _ _) (wpAny_of_eq (a := Value.none) (by first | rfl | (simp only [firstArgMember]; rfl)) ?_)
  refine wpAny_newObj_type ?_ (by size_fits)
  simp only [raiseNew]
  refine wpAny_bind (wpAny_handled ?_)
  rw [show A.in1.handled = none from Rm.handled]
  refine wpAny_bind (wpAny_pure (wpAny_throw ?_))
  refine wpAny_bind (wpAny_isInstance (T := "StopIteration") (b := true) ⟨_, Heap.get?_push_size _ rfl, rfl⟩ isSubtype_stop ?_)
  refine wpAny_pure (q _ s.toks [] none none σ h (by
    rw [app_nil]
    exact S.ext fun b o e => Heap.get?_push_of_some _ (Heap.get?_push_of_some _ e)) rfl)
theorem ws_for_ci {x : Str} {xp pos : Pos} {iter : Expr} {body : List Stmt} {k : AF → List AO → Lc → Prop} {l fl fm : Nat} {self : AV} (I : Nat → List AO → Lc → Prop) (hd : c.d = d + 1) (hfs : ∀ env v, foldedSetIterable iter env v = pure v) (hfn : fnIn g.K fm = true)
    (turn : ∀ n σ lc, I n σ lc → (σ[l]? = some .cdone ∧ k .next σ lc) ∨ σ[l]? = some (.citer (.ref fl) (.str [])) ∧ σ[fl]? = some (.meth fm self) ∧ WCall g d σ lc (.ref fl) [] fun y σ' => σ'[l]? = some (.citer (.ref fl) (.str [])) ∧ σ'[fl]? = some (.meth fm self) ∧ ∃ w, y = .str w ∧
      if w = [] then k .next (σ'.set l .cdone) lc else WN g c σ' lc x (.str w) fun σ₂ lc₂ => WSs g c σ₂ lc₂ body (loopK n I k))
    (h : WE g c σ lc iter fun v σ₁ => v = .ref l ∧ σ₁[l]? = some (.citer (.ref fl) (.str [])) ∧ ∃ n, I n σ₁ lc) : WS g c σ lc (.For (.Name x xp) iter body [] pos) k :=
  fun A env base L as s Rm Re T S Q E q => by
    refine wpAny_For (h A env base L as s Rm Re T S _ E fun h₁ tk₁ bs v v' σ₁ hk S₁ rv => ?_) (hfs env)
    obtain ⟨rfl, ho₁, n, hI⟩ := hk
    obtain ⟨it, eit, rfl⟩ := rv
    obtain ⟨o, hg, f', s', rf, rs, rfl⟩ := S₁.at_ eit ho₁
    have hT : ({ s with heap := h₁, toks := tk₁ } : Shared).TypeIs (.ref it) "callable_iterator" := ⟨_, hg, rfl⟩
    refine wpAny_pyIter_slot hT slot_ci_iter (wpAny_call_entry slot_ci_iter hT entry_ci_iter ?_ (args_ci_iter _))
    refine wpAny_pure ⟨_, rfl, "callable_iterator", _, hT, slot_ci_next.lookup, ?_⟩
    refine codeAny_forLoop (fun n s' => ∃ cs σ lc h tk, s' = { s with heap := h, toks := tk } ∧ I n σ lc ∧ St g.LM base L (as ++ bs ++ cs) σ lc h) ?_ n ⟨[], σ₁, lc, h₁, tk₁, rfl, hI, by rw [app_nil]; exact S₁⟩
    rintro n _ ⟨cs, σ, lc, h, tk, rfl, hI, S⟩
    rcases turn n σ lc hI with ⟨ho, hkn⟩ | ⟨ho, hm, hc⟩
    · refine next_cd (d := d) (k := fun y σ' => y = none ∧ k .next σ' lc) ho ⟨rfl, hkn⟩ A base L (as ++ bs ++ cs) _ _ (hd ▸ Rm) T S ⟨it, get_append eit, rfl⟩ _ _ fun h₂ tk₂ ds y y' σ₂ hk S₂ ry => ?_
      obtain ⟨rfl, hk⟩ := hk
      have q₂ := TriS.next (s := s) (bs := bs) (h' := h₁) (tk := tk₁) q
      have q₃ := TriS.next (s := { s with heap := h₁, toks := tk₁ }) (as := as ++ bs) (bs := cs) (h' := h) (tk := tk) q₂
      cases ry
      exact wpAny_execs_nil (q₃ h₂ tk₂ ds .next .next σ₂ lc hk S₂ rfl)
    refine next_ci (d := d) (k := fun y σ' => match y with
      | none => k .next σ' lc
      | some v => WN g c σ' lc x v fun σ₂ lc₂ => WSs g c σ₂ lc₂ body (loopK n I k)) ho hm hfn (fun A base L as s f' args' Rm T S rf ra Q E q => hc A base L as s f' args' Rm T S rf ra Q E fun h' tk bs y v σ' hk => q h' tk bs y v σ' ?_) A base L (as ++ bs ++ cs) _ _ (hd ▸ Rm) T S ⟨it, get_append eit, rfl⟩ _ _ fun h₂ tk₂ ds y y' σ₂ hk S₂ ry => ?_
    · obtain ⟨a1, a2, w, rfl, a3⟩ := hk
      refine ⟨a1, a2, w, rfl, ?_⟩
      by_cases hw : w = []
      · rw [if_pos hw] at a3 ⊢; exact a3
      · rw [if_neg hw] at a3 ⊢; exact a3
    · have q₂ := TriS.next (s := s) (bs := bs) (h' := h₁) (tk := tk₁) q
      have q₃ := TriS.next (s := { s with heap := h₁, toks := tk₁ }) (as := as ++ bs) (bs := cs) (h' := h) (tk := tk) q₂
      have q₄ := TriS.next (s := { s with heap := h, toks := tk }) (as := as ++ bs ++ cs) (bs := ds) (h' := h₂) (tk := tk₂) q₃
      cases y with
      | none =>
        cases ry
        exact wpAny_execs_nil (q₃ h₂ tk₂ ds .next .next σ₂ lc hk S₂ rfl)
      | some v =>
        obtain ⟨v', rfl, rv⟩ := ry
        refine wpAny_assign_Name ((show WN g c σ₂ lc x v _ from hk) A env base L (as ++ bs ++ cs ++ ds) _ v' Rm Re.mono.mono.mono T S₂ rv _ _ fun h₃ tk₃ es u u' σ₃ lc₃ hk₃ S₃ _ => ?_)
        refine hk₃ A env base L (as ++ bs ++ cs ++ ds ++ es) _ Rm Re.mono.mono.mono.mono T S₃ _ _ fun h₄ tk₄ fs f f' σ₄ lc₄ hk₄ S₄ rf => ?_
        have q₅ := TriS.next (s := { s with heap := h₂, toks := tk₂ }) (as := as ++ bs ++ cs ++ ds) (bs := es) (h' := h₃) (tk := tk₃) q₄ h₄ tk₄ fs
        have on : (∃ m, m < n ∧ I m σ₄ lc₄) → ∃ m, m < n ∧ ∃ cs σ lc h tk, ({ s with heap := h₄, toks := tk₄ } : Shared) = { s with heap := h, toks := tk } ∧ I m σ lc ∧ St g.LM base L (as ++ bs ++ cs) σ lc h := fun ⟨m, hm, hI'⟩ =>
          ⟨m, hm, cs ++ ds ++ es ++ fs, σ₄, lc₄, h₄, tk₄, rfl, hI', by
            have : as ++ bs ++ (cs ++ ds ++ es ++ fs) = as ++ bs ++ cs ++ ds ++ es ++ fs := by simp only [List.append_assoc]
            rw [this]; exact S₄⟩
        cases f with
        | next => cases rf; exact on hk₄
        | cont => cases rf; exact on hk₄
        | brk => cases rf; exact q₅ .next .next σ₄ lc₄ hk₄ S₄ rfl
        | ret v => obtain ⟨v', rfl, rv⟩ := rf; exact q₅ (.ret v) _ σ₄ lc₄ hk₄ S₄ ⟨v', rfl, rv⟩
end
end Mine
end

section
namespace Mine
section
variable {g : G} {c : Cx} {σ : List AO} {lc : Lc} {d : Nat}
theorem meth_obj_call {fl fm : Nat} {self : AV} {args : List AV} {k : AV → List AO → Prop} (hm : σ[fl]? = some (.meth fm self)) (h : WCode g d σ lc (.top (.ref fm)) (self :: args) k) : WCall g d σ lc (.ref fl) args k := by
  rintro A base L as s _ vals Rm T S ⟨a, ea, rfl⟩ rv Q E q
  obtain ⟨o, hg, s', rs, rfl⟩ := S.at_ ea hm
  exact wpAny_call (method_call hg (h A base L as s _ (s' :: vals) Rm T S rfl (.cons rs rv) _ fun h' tk bs x v σ' hk S' r => q h' tk bs x v σ' hk S' r))

theorem sort_tri {A : Around} {base : Heap} {L : Addr} {as : List Addr} {s : Shared} {a : Addr} {n : Nat} {xs : List AV} {vs : List Value} {keys : List Int} {f : AV} {f' : Value} {P : Fin → Shared → Prop} {E : Value → Shared → Prop}
    (Rm : Room d A) (T : TopF g base) (S : St g.LM base L as σ lc s.heap) (ho : s.heap.get? a = some (seqObj "list" vs.toArray n)) (hna : a ∉ as) (haL : a ≠ L) (hab : base.get? a = none) (rv : VRs as xs vs) (hlen : keys.length = xs.length) (h64 : xs.length < 64) (rf : VR as f f')
    (turn : ∀ (i : Nat) v z, xs[i]? = some v → keys[i]? = some z → WCall g d σ lc f [v] fun y σ' => y = .int z ∧ σ' = σ)
    (fin : ∀ h' tk out c, St g.LM base L as σ lc h' → h'.get? a = some (seqObj "list" out c) → KskOut false keys vs out.toList → P (.done (.ret .none)) { s with heap := h', toks := tk }) : wpAny (MM g) A (ksk_tree a f' false) P E s := by
  have hz : sizeLine = 2 ^ 24 := rfl
  have hvl : vs.length = xs.length := rv.length.symm
  have s1 := Heap.SameBut.update s.heap a (Obj.mapSeq fun _ => (#[] : Array Value))
  obtain ⟨e1, ho1⟩ : ∃ e1, (s.heap.update a (Obj.mapSeq fun _ => (#[] : Array Value))).get? a = some (seqObj "list" #[] e1) := ⟨_, get?_update_seq ho fun _ => #[]⟩
  have S1 : St g.LM base L as σ lc (s.heap.update a (Obj.mapSeq fun _ => (#[] : Array Value))) := S.side hab haL hna fun b o hb e => (s1.2 b hb).trans e
  have hsz1 : (s.heap.update a (Obj.mapSeq fun _ => (#[] : Array Value))).objs.size = s.heap.objs.size := Heap.size_update ..
  generalize hH : s.heap.update a (Obj.mapSeq fun _ => (#[] : Array Value)) = H1 at *
  unfold ksk_tree
  refine wpAny_bind (listItems_at ho rfl ?_)
  refine wpAny_bind (listUpdate_at ho rfl ?_ (by rw [List.size_toArray]; omega) (Nat.zero_le _))
  rw [hH]
  refine wpAny_bind (seqEpoch_at (s := { s with heap := H1 }) ho1 rfl ?_)
  refine wpAny_bind (wpAny_newTuple ?_ (by show vs.length ≤ _; omega))
  refine wpAny_bind (wpAny_newList ?_ (Nat.zero_le _))
  refine wpAny_holding ?_
  obtain ⟨tu, htu⟩ : ∃ tu : Obj, tu = { cls := .type "tuple", data := .seq (List.toArray (List.toArray vs).toList) } := ⟨_, rfl⟩
  have hkS0 : ((H1.push (seqObj "tuple" (List.toArray (List.toArray vs).toList) 0)).push (seqObj "list" #[] 0)).get? (H1.push (seqObj "tuple" (List.toArray (List.toArray vs).toList) 0)).objs.size = some (seqObj "list" #[] 0) := Heap.get?_push_size _ rfl
  have S2 : St g.LM base L as σ lc ((H1.push (seqObj "tuple" (List.toArray (List.toArray vs).toList) 0)).push (seqObj "list" #[] 0)) := S1.ext fun b o e => Heap.get?_push_of_some _ (Heap.get?_push_of_some _ e)
  have hka : (H1.push (seqObj "tuple" (List.toArray (List.toArray vs).toList) 0)).objs.size ≠ a := by
    rw [Heap.size_push]
    exact Nat.ne_of_gt (Nat.lt_succ_of_lt (Heap.lt_size ho1))
  have hkm : (H1.push (seqObj "tuple" (List.toArray (List.toArray vs).toList) 0)).objs.size ∉ as := fun z => by
    have := S1.tracked_lt z
    rw [Heap.size_push] at this
    exact absurd this (Nat.not_lt.mpr (Nat.le_succ _))
  have hkL : (H1.push (seqObj "tuple" (List.toArray (List.toArray vs).toList) 0)).objs.size ≠ L := by
    obtain ⟨m, ⟨oL, _, _, eL, _⟩, _⟩ := S1.ns
    rw [Heap.size_push]
    exact Nat.ne_of_gt (Nat.lt_succ_of_lt (Heap.lt_size eL))
  have hkb : base.get? (H1.push (seqObj "tuple" (List.toArray (List.toArray vs).toList) 0)).objs.size = none := by
    cases q : base.get? (H1.push (seqObj "tuple" (List.toArray (List.toArray vs).toList) 0)).objs.size with
    | none => rfl
    | some o =>
      have := Heap.lt_size (S1.keep _ _ q)
      rw [Heap.size_push] at this
      exact absurd this (Nat.not_lt.mpr (Nat.le_succ _))
  have ho2 : ((H1.push (seqObj "tuple" (List.toArray (List.toArray vs).toList) 0)).push (seqObj "list" #[] 0)).get? a = some (seqObj "list" #[] e1) := Heap.get?_push_of_some _ (Heap.get?_push_of_some _ ho1)
  show wpAny (MM g) A (ksk_rest a f' false vs.toArray e1 (.ref (H1.push (seqObj "tuple" (List.toArray (List.toArray vs).toList) 0)).objs.size)) P E { s with heap := (H1.push (seqObj "tuple" (List.toArray (List.toArray vs).toList) 0)).push (seqObj "list" #[] 0) }
  generalize (H1.push (seqObj "tuple" (List.toArray (List.toArray vs).toList) 0)).objs.size = kS at *
  generalize (H1.push (seqObj "tuple" (List.toArray (List.toArray vs).toList) 0)).push (seqObj "list" #[] 0) = H2 at *
  clear htu tu
  unfold ksk_rest
  refine wpAny_bind (wpAny_rule ?_)
  first
    | rw [List.forIn_toArray]
    | (rw [← Array.forIn_toList]; simp only [List.toList_toArray])
    | rw [← Array.forIn_toList]
  refine wpAny_bind (ksk_fold (fun i s' => ∃ h' tk kA e, s' = { s with heap := h', toks := tk } ∧ St g.LM base L as σ lc h' ∧ h'.get? kS = some (seqObj "list" kA e) ∧ h'.get? a = some (seqObj "list" #[] e1) ∧ IntsAre kA.toList (keys.take i)) vs 0 _
    ⟨H2, s.toks, #[], 0, rfl, S2, hkS0, ho2, by simpa using IntsAre.nil⟩ ?step ?done)
  case step =>
    rintro j x s' hx ⟨h', tk, kA, e, rfl, S', nk, na, hk⟩
    simp only [Nat.zero_add] at hk ⊢
    have hj : j < vs.length := (List.getElem?_eq_some_iff.mp hx).1
    obtain ⟨kk, hkj⟩ : ∃ k, keys[j]? = some k := ⟨_, List.getElem?_eq_getElem (by omega)⟩
    obtain ⟨y, hy⟩ : ∃ y, xs[j]? = some y := ⟨_, List.getElem?_eq_getElem (by omega)⟩
    obtain ⟨x', ex', rx⟩ := rv.get hy
    rw [hx] at ex'; cases ex'
    have hzA : kA.size ≤ vs.length := by
      have h1 := hk.length
      rw [Array.length_toList, List.length_take] at h1
      omega
    have Sr := S'.rebase
    have Tr : TopF g (St.rest h' L as) := T.keeps fun b o e => S'.base_rest e
    refine wpAny_bind (wpAny_attempt (turn j y kk hy hkj A _ L as _ f' [x] Rm Tr Sr rf (.one rx) _ _ fun h₃ tk₃ bs u u' σ₃ hk₃ S₃ ru => ?_))
    obtain ⟨rfl, rfl⟩ := hk₃
    obtain ⟨t2, rfl⟩ := ru
    have ebs : bs = [] := by
      have h1 := S₃.len
      have h2 := S'.len
      rw [List.length_append] at h1
      exact List.length_eq_zero_iff.mp (by omega)
    subst ebs
    have Sb := S'.back S₃
    rw [app_nil] at Sb S₃
    have nk' := S₃.keep _ _ (St.rest_get nk hkL hkm)
    have na' := S₃.keep _ _ (St.rest_get na haL hna)
    have s1 := Heap.SameBut.update h₃ kS (Obj.mapSeq (·.push (.int kk t2)))
    obtain ⟨c2, hc2⟩ : ∃ c2, (h₃.update kS (Obj.mapSeq (·.push (.int kk t2)))).get? kS = some (seqObj "list" (kA.push (.int kk t2)) c2) := ⟨_, get?_update_seq nk' (·.push (.int kk t2))⟩
    have ek : keys.take (j + 1) = keys.take j ++ [kk] := by rw [List.take_add_one, hkj]; simp
    have ea : (kA.push (Value.int kk t2)).toList = kA.toList ++ [Value.int kk t2] := by simp
    refine wpAny_bind (listUpdate_at nk' rfl ?_ (by omega) (Nat.le_trans (Nat.le_of_eq (Array.size_push ..)) (by omega)))
    exact wpAny_pure ⟨rfl, _, _, kA.push (.int kk t2), c2, rfl, Sb.side hkb hkL hkm fun b o hb e => (s1.2 b hb).trans e, hc2, (s1.2 a hka.symm).trans na', by rw [ea, ek]; exact ksk_snoc hk⟩
  case done =>
    rintro s' ⟨h', tk, kA, e, rfl, S', nk, na, hk⟩
    have hk' : IntsAre kA.toList keys := by
      have e3 : keys.take (0 + vs.length) = keys := List.take_of_length_le (by omega)
      rw [e3] at hk
      exact hk
    refine wpAny_bind (listItems_at nk rfl ?_)
    obtain ⟨m, F, lr⟩ := S'.fr
    obtain ⟨obs, hol, N, hob⟩ := S'.led
    have hcut : ∀ {b : Addr}, base.get? b = none → (cut base L).get? b = none := fun {b} e => by rw [cut_get, e]; split <;> rfl
    have nin : ∀ {b : Addr}, b ∉ as → base.get? b = none → ∀ p ∈ as.zip obs ++ hi base L, p.1 ≠ b := fun {b} h1 h2 p hp z => by
      rcases List.mem_append.mp hp with hp | hp
      · exact h1 (z ▸ (List.of_mem_zip (a := p.1) (b := p.2) hp).1)
      · have := (mem_hi.mp (show (p.1, p.2) ∈ hi base L from hp)).2
        rw [z, h2] at this; cases this
    refine ksk_end_ (kz := keys) (e := e) (news := as.zip obs ++ hi base L) F (fun p hp => ?_) hka (nin hkm hkb) (nin hna hab) hk' (by omega) (by omega) fun h3 tk3 out c3 F3 N3 k3 => ?_
    · rcases List.mem_append.mp hp with hp | hp
      · exact N p hp
      · rcases List.mem_cons.mp hp with rfl | hp
        · exact ⟨nk, hkL, hcut hkb⟩
        · rw [List.mem_singleton.mp hp]
          exact ⟨na, haL, hcut hab⟩
    · exact fin h3 tk3 out c3 (S'.of_led0 hob F3 lr fun p hp => N3 p (.tail _ hp)) (N3 _ (.head _)).1 k3
end
end Mine
end

section
namespace Mine
section
variable {prog : Program} {w : World} {A : Around} {E : Value → Shared → Prop} {s : Shared}
theorem collect_range {Q : List Value → Shared → Prop} {r : Addr} {a b c : Int} {t u v : Tok} {n : Nat} (hh : A.handled = none) (hr : IsRange s.heap r a b c t u v) (hsmall : Builtin.Range.small a b c = true)
    (hn : Builtin.Range.rangeSize a b c = n) (hlen : n ≤ 2 ^ 24)
    (hQ : ∀ h' tk acc, (∀ b o, s.heap.get? b = some o → h'.get? b = some o) → ItemsOf (fun i v => ∃ t, v = .int (a + i * c) t) acc n → Q acc.toList { s with heap := h', toks := tk }) :
    wpAny (model prog w) A (collect (.ref r)) Q E s := by
  have key : ∀ R : Result → Shared → Prop, (∀ h' tk acc' c', (∀ b o, s.heap.get? b = some o → h'.get? b = some o) → h'.get? s.heap.objs.size = some { cls := .type "list", dict := none, data := .seq acc' c', slots := #[] } →
      ItemsOf (fun i v => ∃ t, v = .int (a + i * c) t) acc' n → R (.ok (.ret (.ref s.heap.objs.size))) { s with heap := h', toks := tk }) → codeAny (model prog w) A (.builtin "proto.collect" ⟨[.ref r], []⟩) R s := by
    intro R hR
    refine codeAny_builtin PySem.F.entry_proto_collect ?_
    rw [Around.under_plainId PySem.F.plain_proto_collect _]
    show wpAny _ A.in1 (newList [] >>= fun l => again (.builtin "list.__iadd__" ⟨[l, .ref r], []⟩)) _ _ s
    refine wpAny_bind (wpAny_newObj_type ?_)
    refine wpAny_pure ⟨plainId_quiet PySem.F.plain_list_iadd _, codeAny_builtin PySem.F.entry_list_iadd ?_⟩
    rw [Around.under_plainId PySem.F.plain_list_iadd _]
    show wpAny _ A.in1 (Builtin.List.listExtendWith (.ref s.heap.objs.size) (.ref r) (.ref s.heap.objs.size)) _ _ _
    exact wpAny_extend_range (R := R) (s := { s with heap := s.heap.push { cls := .type "list", data := .seq ([] : List Value).toArray } }) hh (Heap.get?_push_of_some _ hr) hsmall hn hlen s.heap.objs.size _ 0 (Heap.get?_push_size _ rfl) fun h' tk acc' c' hk hS' hit =>
      hR h' tk acc' c' (fun b o e => hk b o (Nat.ne_of_lt (Heap.lt_size e)) (Heap.get?_push_of_some _ e)) hS' hit
  unfold collect
  refine wpAny_bind (wpAny_runValue (key _ fun h' tk acc' c' hk hS' hit => ?_))
  show wpAny _ A (load s.heap.objs.size >>= _) _ _ _
  refine wpAny_bind (wpAny_load hS' ?_)
  exact wpAny_pure (hQ h' tk acc' hk hit)
end
section
variable {g : G} {c : Cx} {σ : List AO} {lc : Lc} {d : Nat}
noncomputable def rangeO (n : Nat) : Obj → Prop := fun o => ∃ t u v, o = { cls := .type "range", dict := none, data := .fields #[.int 0 t, .int n u, .int 1 v], slots := #[] }
theorem call_range_v {n : Nat} {k : AV → List AO → Prop} (h : k (.ref σ.length) (σ ++ [.raw (rangeO n)])) : WCall g d σ lc (.top (.type "range")) [.int n] k := by
  rintro A base L as s _ _ Rm T S rfl ra Q E q
  cases ra with
  | cons r1 ra =>
    cases ra
    obtain ⟨t, rfl⟩ := r1
    refine call_range_1 (q _ _ [s.heap.objs.size] (.ref σ.length) _ _ h (S.alloc rfl ?_) ⟨_, new_ref S.len, rfl⟩)
    exact ⟨_, _, _, rfl⟩
noncomputable def KeyOk (g : G) (d : Nat) (σ : List AO) (lc : Lc) (f : AV) (n : Nat) (key : Nat → Int) (k : AV → List AO → Prop) : Prop :=
  n < 64 ∧ (∀ i : Nat, i < n → WCall g d σ lc f [.int i] fun y σ' => y = .int (key i) ∧ σ' = σ) ∧ ∀ os : List Nat, os.Perm (List.range n) → os.Pairwise (fun i j => key i ≤ key j) → k (.ref σ.length) (σ ++ [.list (intL (os.map Int.ofNat))])
theorem ints_out {as : List Addr} {key : Nat → Int} {n : Nat} {vs out : List Value} (rv : VRs as (rangeL 0 n) vs) (ko : KskOut false ((List.range n).map key) vs out) :
    ∃ os : List Nat, os.Perm (List.range n) ∧ os.Pairwise (fun i j => key i ≤ key j) ∧ VRs as (intL (os.map Int.ofNat)) out := by
  obtain ⟨ps, hp, rfl, hs⟩ := ko
  have hl : vs.length = n := by rw [← rv.length]; simp [rangeL]
  have at_ : ∀ i, i < n → ∃ t, vs[i]? = some (.int (i : Int) t) := fun i hi => by
    obtain ⟨v, e, r⟩ := rv.get (i := i) (x := .int (0 + (i : Int))) (by simp only [rangeL, List.getElem?_map, List.getElem?_range hi, Option.map_some])
    obtain ⟨t, rfl⟩ := r
    exact ⟨t, by rw [e]; simp⟩
  have ez : ((List.range n).map key).zip vs = (List.range n).map fun i => (key i, vs.getD i .none) := by
    apply List.ext_getElem?
    intro i
    rw [List.getElem?_map]
    by_cases hi : i < n
    · obtain ⟨t, e⟩ := at_ i hi
      have z : (((List.range n).map key).zip vs)[i]? = some (key i, Value.int (i : Int) t) := List.getElem?_zip_eq_some.mpr ⟨by simp [hi], e⟩
      rw [z]
      simp [hi, e]
    · rw [List.getElem?_eq_none (by simp; omega), List.getElem?_eq_none (by simp; omega)]; rfl
  rw [ez] at hp
  have hrel : ∀ p ∈ ps, ∃ i : Nat, ∃ t, p = (key i, .int (i : Int) t) := fun p hpm => by
    obtain ⟨i, hi, rfl⟩ := List.mem_map.mp (hp.mem_iff.mp hpm)
    obtain ⟨t, e⟩ := at_ i (List.mem_range.mp hi)
    exact ⟨i, t, by simp [e]⟩
  refine ⟨ps.map fun p => (numOf p.2).toNat, ?_, ?_, ?_⟩
  · have h1 := hp.map fun p : Int × Value => (numOf p.2).toNat
    rw [List.map_map] at h1
    refine h1.trans ?_
    have : (List.range n).map ((fun p : Int × Value => (numOf p.2).toNat) ∘ fun i => (key i, vs.getD i .none)) = List.range n := by
      conv => rhs; rw [← List.map_id (List.range n)]
      refine List.map_congr_left fun i hi => ?_
      obtain ⟨t, e⟩ := at_ i (List.mem_range.mp hi)
      simp [e, numOf]
    rw [this]
  · rw [List.pairwise_map]
    refine hs.imp_of_mem fun {p q} hpm hqm hr => ?_
    obtain ⟨i, t, rfl⟩ := hrel p hpm
    obtain ⟨j, u, rfl⟩ := hrel q hqm
    simpa [numOf] using hr
  · clear hp hs
    induction ps with
    | nil => exact .nil
    | cons p r ih =>
      obtain ⟨i, t, rfl⟩ := hrel p (by simp)
      exact .cons ⟨t, by simp [numOf]⟩ (ih fun q hq => hrel q (by simp [hq]))
theorem we_sorted {func e kv : Expr} {kp pos : Pos} {k : AV → List AO → Prop} (he : ∀ env, eval (.Call func [e] [⟨some (Str.ofString "key"), kv, kp⟩] pos) env = (eval func env >>= fun f => callWith pos f [] (backTo pos (starEach [e] env)) (backToKw pos (keywordEach [⟨some (Str.ofString "key"), kv, kp⟩] env))))
    (hs : ∀ env, starEach [e] env = (false, eval e env) :: starEach [] env) (hd : c.d = d + 1)
    (h : WE g c σ lc func fun f σ₁ => f = .top (.builtin "sorted") ∧ WE g c σ₁ lc e fun v σ₂ => WE g c σ₂ lc kv fun fv σ₃ => ∃ l n key, v = .ref l ∧ σ₃[l]? = some (.raw (rangeO n)) ∧ (∃ fl, fv = .ref fl) ∧ KeyOk g d σ₃ lc fv n key k) :
    WE g c σ lc (.Call func [e] [⟨some (Str.ofString "key"), kv, kp⟩] pos) k :=
  fun A env base L as s Rm Re T S Q E q => by
    rw [he]
    refine wpAny_bind (h A env base L as s Rm Re T S _ E fun h₁ tk₁ bs f f' σ₁ hk S₁ rf => ?_)
    obtain ⟨rfl, hk⟩ := hk
    cases rf
    refine callWith_of (P := fun _ => True) (by rw [hs]; rfl) (fun _ _ => ⟨.machine, .inr (.inl rfl), Looks.now⟩) (evalArgs_kw2 rfl ?_ (hs env))
    rw [hs]
    refine spliced_cons (hk A env base L (as ++ bs) _ Rm Re.mono T S₁ _ E fun h₂ tk₂ cs v v' σ₂ hk₂ S₂ rv => spliced_nil ?_)
    refine kwAll_cons (hk₂ A env base L (as ++ bs ++ cs) _ Rm Re.mono.mono T S₂ _ E fun h₃ tk₃ ds fv fv' σ₃ hk₃ S₃ rfv => kwAll_nil ⟨trivial, ?_⟩)
    obtain ⟨l, n, key, rfl, hl, ⟨fl, rfl⟩, h64, turn, fin⟩ := hk₃
    obtain ⟨r, er, rfl⟩ := rv.mono (bs := ds)
    obtain ⟨fa, efa, rfl⟩ := rfv
    obtain ⟨o, hg, t, u, v, rfl⟩ := S₃.at_ er hl
    have hz : sizeLine = 2 ^ 24 := rfl
    have q₃ := Tri.next (s := { s with heap := h₂, toks := tk₂ }) (as := as ++ bs ++ cs) (bs := ds) (h' := h₃) (tk := tk₃) (Tri.next (s := { s with heap := h₁, toks := tk₁ }) (as := as ++ bs) (bs := cs) (h' := h₂) (tk := tk₂) (Tri.next (s := s) (bs := bs) (h' := h₁) (tk := tk₁) q))
    show wpAny (MM g) A (call (.builtin "sorted") [.ref r] [(Str.ofString "key", .ref fa)]) Q E { s with heap := h₃, toks := tk₃ }
    have hn : Builtin.Range.rangeSize 0 (n : Int) 1 = (n : Int) := by rw [rangeSize_one]; split <;> omega
    refine call_function_entry_kw kind_sorted plain_sorted entry_sorted (ksk_s1 _ _) ?_
    unfold Builtin.«sorted»
    refine wpAny_bind (m := checkCount "sorted" 1 1 _) (wpAny_pure ?_)
    refine wpAny_bind (collect_range (n := n) (show A.in1.handled = none from Rm.handled) hg (small_one (by decide) (by decide) (by omega) (by omega)) hn (by omega) fun h₄ tk₄ acc hk₄ hit => ?_)
    have rvs : VRs (as ++ bs ++ cs ++ ds) (rangeL 0 n) acc.toList := by
      have key : ∀ (m : Nat) (off : Nat) (vs : List Value), vs.length = m → (∀ j v, vs[j]? = some v → ∃ t, v = Value.int ((off + j : Nat) : Int) t) → VRs (as ++ bs ++ cs ++ ds) ((List.range' off m).map fun i : Nat => AV.int (i : Int)) vs := by
        intro m
        induction m with
        | zero => intro off vs hl _; rw [List.length_eq_zero_iff.mp hl]; exact .nil
        | succ m ih =>
          intro off vs hl hv
          match vs, hl with
          | v :: r, hl =>
            obtain ⟨t, rfl⟩ := hv 0 v rfl
            rw [List.range'_succ, List.map_cons]
            refine .cons ⟨t, by simp⟩ (ih (off + 1) r (by simpa using hl) fun j v e => ?_)
            obtain ⟨t, rfl⟩ := hv (j + 1) v (by simpa using e)
            exact ⟨t, by congr 1; omega⟩
      have := key n 0 acc.toList (by simpa using hit.1) (fun j v e => by
        obtain ⟨t, rfl⟩ := hit.2 j v (by simpa using e)
        exact ⟨t, by simp⟩)
      have e : rangeL 0 n = (List.range' 0 n).map fun i : Nat => AV.int (i : Int) := by simp [rangeL, List.range_eq_range']
      rw [e]; exact this
    have hal : acc.toList.length = n := by rw [← rvs.length]; simp [rangeL]
    refine wpAny_bind (wpAny_newList ?_ (by rw [hal]; omega))
    have S₄ := S₃.ext hk₄
    have S₅ := S₄.ext (h' := h₄.push (seqObj "list" acc.toList.toArray 0)) fun b o e => Heap.get?_push_of_some _ e
    have hoL : (h₄.push (seqObj "list" acc.toList.toArray 0)).get? h₄.objs.size = some (seqObj "list" acc.toList.toArray 0) := Heap.get?_push_size _ rfl
    refine wpAny_bind (wpAny_holding (wpAny_call_entry_kw slot_list_sort ⟨_, hoL, rfl⟩ entry_list_sort ?body (ksk_l1 _ _)))
    case body =>
      rw [ksk_t1]
      refine sort_tri (d := d) (xs := rangeL 0 n) (keys := (List.range n).map key) (f := .ref fl) (by
          have R1 := (hd ▸ Rm : Room (d + 1) A)
          exact ⟨R1.handled, by have := R1.depth; show A.depth + 8 * d ≤ 900; omega, by have := R1.units; show A.units + 1 + 1 + 64 * d ≤ 9000; omega⟩) T S₅ hoL
        (fun z => absurd (S₄.tracked_lt z) (Nat.lt_irrefl _)) (by
          obtain ⟨m, ⟨oL, _, _, eL, _⟩, _⟩ := S₄.ns
          exact Nat.ne_of_gt (Heap.lt_size eL)) (by
          cases z : base.get? h₄.objs.size with
          | none => rfl
          | some o => exact absurd (Heap.lt_size (S₄.keep _ _ z)) (Nat.lt_irrefl _)) rvs (by simp [rangeL]) (by simp [rangeL]; omega) ⟨fa, efa, rfl⟩ ?_ ?_
      · intro i v z hv hzz
        have hi : i < n := by
          rcases Nat.lt_or_ge i n with z | z
          · exact z
          · rw [List.getElem?_eq_none (by simp [rangeL]; exact z)] at hv; cases hv
        simp only [rangeL, List.getElem?_map, List.getElem?_range hi, Option.map_some, Option.some.injEq] at hv hzz
        subst hv hzz
        simpa using turn i hi
      · intro h₆ tk₆ out c6 S₆ hg6 ko
        obtain ⟨os, hos, hpw, ros⟩ := ints_out rvs ko
        refine ⟨_, rfl, ?_⟩
        refine wpAny_pure ⟨_, rfl, ?_⟩
        have hnm : h₄.objs.size ∉ as ++ bs ++ cs ++ ds := fun z => absurd (S₄.tracked_lt z) (Nat.lt_irrefl _)
        have S₇ := S₆.more (a := h₄.objs.size) (ao := .list (intL (os.map Int.ofNat))) hnm (by
          obtain ⟨m, ⟨oL, _, _, eL, _⟩, _⟩ := S₄.ns
          exact Nat.ne_of_gt (Heap.lt_size eL)) (by
          cases z : base.get? h₄.objs.size with
          | none => rfl
          | some o => exact absurd (Heap.lt_size (S₄.keep _ _ z)) (Nat.lt_irrefl _)) hg6 ⟨out, c6, rfl, ros.mono⟩
        exact q₃ h₆ tk₆ [h₄.objs.size] (.ref σ₃.length) _ _ (fin os hos hpw) S₇ ⟨_, new_ref S₃.len, rfl⟩
end
end Mine
end

section
namespace Mine
noncomputable def paramsOf : Stmt → Arguments
  | .FunctionDef _ a _ _ _ _ _ _ _ _ => a
  | _ => default
noncomputable def vs (s : String) (t : Nat) : Value := .str (Str.ofString s) t
noncomputable def de (P : Params) (s : String) (t : Nat) (v : Value) : DictEntry := .mk (PyData.keyHash P (Str.ofString s)) (.str (Str.ofString s) t) v
noncomputable def o_43 (P : Params) : Obj := (.mk (.type "tuple") .none (.seq #[] 0) #[])
noncomputable def o_44 (P : Params) : Obj := (.mk .none .none (.fields #[]) #[])
noncomputable def o_45 (P : Params) : Obj := (.mk (.type "code") .none (.fields #[(vs "<module>" 182), (vs "<module>" 183), (vs "/claim/cut.py" 184), (.int 1 0), (.int 0 0), (.int 0 0), (.int 0 0), (.int 0 0), (.ref 11), (.bool .false), (.int 181 0), (.ref 12), .none, .none, .none, .none, (.int 185 0), (.int 1 0), (vs "/claim/cut.py" 186)]) #[])
noncomputable def o_46 (P : Params) : Obj := (.mk (.type "frame") .none .plain #[(.some (.ref 13)), (.some (.ref 3)), (.some (.ref 3)), .none, (.some (vs "__main__" 164)), .none, (.some (.ref 0))])
noncomputable def o_49 (P : Params) : Obj := (.mk (.type "dict") .none (.dict #[de P "__name__" 165 (vs "cpy313.ftplib" 254), de P "__doc__" 166 .none, de P "__package__" 167 .none, de P "__loader__" 168 (.builtin "__main__.__loader__#opaque"), de P "__spec__" 169 .none, de P "__annotations__" 170 (.ref 6), de P "__builtins__" 171 (.ref 4), de P "__file__" 173 (vs "/claim/cut.py" 172), de P "__cached__" 174 .none, de P "_wall" 193 (.ref 21), de P "_netrclex" 253 (.ref 59)] 11) #[])
noncomputable def o_50 (P : Params) : Obj := (.mk .none .none (.fields #[(.int 1 0), (.int 0 0), (.ref 20), (.int 5 0), (.int 0 0), (.ref 27)]) #[])
noncomputable def o_51 (P : Params) : Obj := (.mk (.type "tuple") .none (.seq #[] 0) #[])
noncomputable def o_52 (P : Params) : Obj := (.mk .none .none (.fields #[]) #[])
noncomputable def o_53 (P : Params) : Obj := (.mk (.type "tuple") .none (.seq #[(vs "k" 190)] 0) #[])
noncomputable def o_54 (P : Params) : Obj := (.mk (.type "tuple") .none (.seq #[] 0) #[])
noncomputable def o_55 (P : Params) : Obj := (.mk .none .none (.func (.mk (Str.ofString "_wall") (Str.ofString "_wall") (paramsOf (stAt 0)) (.stmts (bodyOf (stAt 0))) (scopeOf (stAt 0)) 0 [] .none .none .none .none .none .none .none 0)) #[])
noncomputable def o_56 (P : Params) : Obj := (.mk (.type "code") .none (.fields #[(vs "_wall" 187), (vs "_wall" 188), (vs "/claim/cut.py" 189), (.int 1 0), (.int 1 0), (.int 0 0), (.int 0 0), (.int 3 0), (.ref 15), (.bool .true), (.int 181 0), (.ref 16), .none, (.ref 17), (.ref 18), (.ref 19), (.int 191 0), (.int 1 0), (vs "/claim/cut.py" 192)]) #[])
noncomputable def o_57 (P : Params) : Obj := (.mk (.type "function") .none (.func (.mk (Str.ofString "_wall") (Str.ofString "_wall") (paramsOf (stAt 0)) (.stmts (bodyOf (stAt 0))) (scopeOf (stAt 0)) 3 [] .none .none .none (vs "__main__" 164) .none (.ref 20) .none 0)) #[])
noncomputable def o_58 (P : Params) : Obj := (.mk (.type "tuple") .none (.seq #[] 0) #[])
noncomputable def o_59 (P : Params) : Obj := (.mk (.type "builtin_function_or_method") .none (.fields #[(.builtin "type.__prepare__"), (.type "type")]) #[])
noncomputable def o_60 (P : Params) : Obj := (.mk (.type "dict") .none (.dict #[de P "__module__" 203 (vs "cpy313.netrc" 194), de P "__qualname__" 205 (vs "_netrclex" 204), de P "__firstlineno__" 207 (.int 5 206), de P "__init__" 215 (.ref 35), de P "_read_char" 223 (.ref 42), de P "get_token" 233 (.ref 49), de P "push_token" 241 (.ref 56), de P "__static_attributes__" 246 (.ref 57)] 8) #[])
noncomputable def o_61 (P : Params) : Obj := (.mk (.type "tuple") .none (.seq #[] 0) #[])
noncomputable def o_62 (P : Params) : Obj := (.mk .none .none (.fields #[(.int 7 0), (.int 4 0), (.ref 34), (.int 13 0), (.int 4 0), (.ref 41), (.int 19 0), (.int 4 0), (.ref 48), (.int 46 0), (.int 4 0), (.ref 55)]) #[])
noncomputable def o_63 (P : Params) : Obj := (.mk (.type "code") .none (.fields #[(vs "_netrclex" 198), (vs "_netrclex" 199), (vs "/claim/cut.py" 200), (.int 5 0), (.int 0 0), (.int 0 0), (.int 0 0), (.int 0 0), (.ref 25), (.bool .false), (.int 181 0), (.ref 26), .none, .none, .none, .none, (.int 201 0), (.int 5 0), (vs "/claim/cut.py" 202)]) #[])
noncomputable def o_64 (P : Params) : Obj := (.mk (.type "frame") .none .plain #[(.some (.ref 27)), (.some (.ref 3)), (.some (.ref 24)), .none, (.some (vs "cpy313.netrc" 194)), .none, (.some (.ref 0))])
noncomputable def o_65 (P : Params) : Obj := (.mk (.type "tuple") .none (.seq #[] 0) #[])
noncomputable def o_66 (P : Params) : Obj := (.mk .none .none (.fields #[]) #[])
noncomputable def o_67 (P : Params) : Obj := (.mk (.type "tuple") .none (.seq #[(vs "self" 211), (vs "fp" 212)] 0) #[])
noncomputable def o_68 (P : Params) : Obj := (.mk (.type "tuple") .none (.seq #[] 0) #[])
noncomputable def o_69 (P : Params) : Obj := (.mk .none .none (.func (.mk (Str.ofString "__init__") (Str.ofString "_netrclex.__init__") (paramsOf (meAt 2 0)) (.stmts (bodyOf (meAt 2 0))) (scopeOf (meAt 2 0)) 0 [] .none .none .none .none .none .none .none 0)) #[])
noncomputable def o_70 (P : Params) : Obj := (.mk (.type "code") .none (.fields #[(vs "__init__" 208), (vs "_netrclex.__init__" 209), (vs "/claim/cut.py" 210), (.int 7 0), (.int 2 0), (.int 0 0), (.int 0 0), (.int 3 0), (.ref 29), (.bool .true), (.int 181 0), (.ref 30), .none, (.ref 31), (.ref 32), (.ref 33), (.int 213 0), (.int 7 0), (vs "/claim/cut.py" 214)]) #[])
noncomputable def o_71 (P : Params) : Obj := (.mk (.type "function") .none (.func (.mk (Str.ofString "__init__") (Str.ofString "_netrclex.__init__") (paramsOf (meAt 2 0)) (.stmts (bodyOf (meAt 2 0))) (scopeOf (meAt 2 0)) 3 [] .none .none .none (vs "cpy313.netrc" 194) .none (.ref 34) .none 0)) #[])
noncomputable def o_72 (P : Params) : Obj := (.mk (.type "tuple") .none (.seq #[] 0) #[])
noncomputable def o_73 (P : Params) : Obj := (.mk .none .none (.fields #[]) #[])
noncomputable def o_74 (P : Params) : Obj := (.mk (.type "tuple") .none (.seq #[(vs "self" 219), (vs "ch" 220)] 0) #[])
noncomputable def o_75 (P : Params) : Obj := (.mk (.type "tuple") .none (.seq #[] 0) #[])
noncomputable def o_76 (P : Params) : Obj := (.mk .none .none (.func (.mk (Str.ofString "_read_char") (Str.ofString "_netrclex._read_char") (paramsOf (meAt 2 1)) (.stmts (bodyOf (meAt 2 1))) (scopeOf (meAt 2 1)) 0 [] .none .none .none .none .none .none .none 0)) #[])
noncomputable def o_77 (P : Params) : Obj := (.mk (.type "code") .none (.fields #[(vs "_read_char" 216), (vs "_netrclex._read_char" 217), (vs "/claim/cut.py" 218), (.int 13 0), (.int 1 0), (.int 0 0), (.int 0 0), (.int 3 0), (.ref 36), (.bool .true), (.int 181 0), (.ref 37), .none, (.ref 38), (.ref 39), (.ref 40), (.int 221 0), (.int 13 0), (vs "/claim/cut.py" 222)]) #[])
noncomputable def o_78 (P : Params) : Obj := (.mk (.type "function") .none (.func (.mk (Str.ofString "_read_char") (Str.ofString "_netrclex._read_char") (paramsOf (meAt 2 1)) (.stmts (bodyOf (meAt 2 1))) (scopeOf (meAt 2 1)) 3 [] .none .none .none (vs "cpy313.netrc" 194) .none (.ref 41) .none 0)) #[])
noncomputable def o_79 (P : Params) : Obj := (.mk (.type "tuple") .none (.seq #[] 0) #[])
noncomputable def o_80 (P : Params) : Obj := (.mk .none .none (.fields #[]) #[])
noncomputable def o_81 (P : Params) : Obj := (.mk (.type "tuple") .none (.seq #[(vs "self" 227), (vs "token" 228), (vs "fiter" 229), (vs "ch" 230)] 0) #[])
noncomputable def o_82 (P : Params) : Obj := (.mk (.type "tuple") .none (.seq #[] 0) #[])
noncomputable def o_83 (P : Params) : Obj := (.mk .none .none (.func (.mk (Str.ofString "get_token") (Str.ofString "_netrclex.get_token") (paramsOf (meAt 2 2)) (.stmts (bodyOf (meAt 2 2))) (scopeOf (meAt 2 2)) 0 [] .none .none .none .none .none .none .none 0)) #[])
noncomputable def o_84 (P : Params) : Obj := (.mk (.type "code") .none (.fields #[(vs "get_token" 224), (vs "_netrclex.get_token" 225), (vs "/claim/cut.py" 226), (.int 19 0), (.int 1 0), (.int 0 0), (.int 0 0), (.int 3 0), (.ref 43), (.bool .true), (.int 181 0), (.ref 44), .none, (.ref 45), (.ref 46), (.ref 47), (.int 231 0), (.int 19 0), (vs "/claim/cut.py" 232)]) #[])
noncomputable def o_85 (P : Params) : Obj := (.mk (.type "function") .none (.func (.mk (Str.ofString "get_token") (Str.ofString "_netrclex.get_token") (paramsOf (meAt 2 2)) (.stmts (bodyOf (meAt 2 2))) (scopeOf (meAt 2 2)) 3 [] .none .none .none (vs "cpy313.netrc" 194) .none (.ref 48) .none 0)) #[])
noncomputable def o_86 (P : Params) : Obj := (.mk (.type "tuple") .none (.seq #[] 0) #[])
noncomputable def o_87 (P : Params) : Obj := (.mk .none .none (.fields #[]) #[])
noncomputable def o_88 (P : Params) : Obj := (.mk (.type "tuple") .none (.seq #[(vs "self" 237), (vs "token" 238)] 0) #[])
noncomputable def o_89 (P : Params) : Obj := (.mk (.type "tuple") .none (.seq #[] 0) #[])
noncomputable def o_90 (P : Params) : Obj := (.mk .none .none (.func (.mk (Str.ofString "push_token") (Str.ofString "_netrclex.push_token") (paramsOf (meAt 2 3)) (.stmts (bodyOf (meAt 2 3))) (scopeOf (meAt 2 3)) 0 [] .none .none .none .none .none .none .none 0)) #[])
noncomputable def o_91 (P : Params) : Obj := (.mk (.type "code") .none (.fields #[(vs "push_token" 234), (vs "_netrclex.push_token" 235), (vs "/claim/cut.py" 236), (.int 46 0), (.int 2 0), (.int 0 0), (.int 0 0), (.int 3 0), (.ref 50), (.bool .true), (.int 181 0), (.ref 51), .none, (.ref 52), (.ref 53), (.ref 54), (.int 239 0), (.int 46 0), (vs "/claim/cut.py" 240)]) #[])
noncomputable def o_92 (P : Params) : Obj := (.mk (.type "function") .none (.func (.mk (Str.ofString "push_token") (Str.ofString "_netrclex.push_token") (paramsOf (meAt 2 3)) (.stmts (bodyOf (meAt 2 3))) (scopeOf (meAt 2 3)) 3 [] .none .none .none (vs "cpy313.netrc" 194) .none (.ref 55) .none 0)) #[])
noncomputable def o_93 (P : Params) : Obj := (.mk (.type "tuple") .none (.seq #[(vs "instream" 242), (vs "lineno" 243), (vs "pushback" 244), (vs "whitespace" 245)] 0) #[])
noncomputable def o_94 (P : Params) : Obj := (.mk (.type "dict") .none (.dict #[de P "__module__" 203 (vs "cpy313.netrc" 194), de P "__firstlineno__" 207 (.int 5 206), de P "__init__" 215 (.ref 35), de P "_read_char" 223 (.ref 42), de P "get_token" 233 (.ref 49), de P "push_token" 241 (.ref 56), de P "__static_attributes__" 246 (.ref 57), de P "__dict__" 248 (.ref 60), de P "__weakref__" 250 (.ref 61), de P "__doc__" 251 .none] 4) #[])
noncomputable def o_95 (P : Params) : Obj := (.mk (.type "type") .none (.cls (.mk (Str.ofString "_netrclex") [(.type "object")] [(.ref 59), (.type "object")] 58 (Str.ofString "_netrclex") .true [] [] .false .none .false)) #[.none, .none, (.some (vs "_netrclex" 196)), (.some (vs "_netrclex" 204)), (.some (.builtin "object.__new__")), (.some (.bool .true))])
noncomputable def o_96 (P : Params) : Obj := (.mk (.type "getset_descriptor") .none (.fields #[(vs "__dict__" 247), (.ref 59), (.builtin "function.__dict__"), (.builtin "function.__dict__#set")]) #[])
noncomputable def o_97 (P : Params) : Obj := (.mk (.type "getset_descriptor") .none (.fields #[(vs "__weakref__" 249), (.ref 59), (.builtin "ExceptionGroup.__weakref__"), .none]) #[])
noncomputable def o_98 (P : Params) : Obj := (.mk (.type "super") .none (.fields #[(.ref 59), (.ref 59), (.ref 59)]) #[])
noncomputable def o_99 (P : Params) : Obj := (.mk (.type "builtin_function_or_method") .none (.fields #[(.builtin "object.__init_subclass__"), (.ref 59)]) #[])
noncomputable def o_100 (P : Params) : Obj := (.mk .none .none (.dict #[de P "type.__subclasses__.Exception.0" 272 (.int 73 0), de P "type.__subclasses__.Exception.n" 273 (.int 1 0)] 2) #[])
noncomputable def o_101 (P : Params) : Obj := (.mk (.type "dict") .none (.dict #[de P "__name__" 165 (vs "cpy313.ftplib" 254), de P "__doc__" 166 .none, de P "__package__" 167 .none, de P "__loader__" 168 (.builtin "__main__.__loader__#opaque"), de P "__spec__" 169 .none, de P "__annotations__" 170 (.ref 6), de P "__builtins__" 171 (.ref 4), de P "__file__" 173 (vs "/claim/cut.py" 172), de P "__cached__" 174 .none, de P "_wall" 193 (.ref 21), de P "_netrclex" 253 (.ref 59), de P "Error" 275 (.ref 73)] 12) #[])
noncomputable def o_102 (P : Params) : Obj := (.mk .none .none (.fields #[(.int 1 0), (.int 0 0), (.ref 20), (.int 5 0), (.int 0 0), (.ref 27), (.int 49 0), (.int 0 0), (.ref 69)]) #[])
noncomputable def o_103 (P : Params) : Obj := (.mk (.type "tuple") .none (.seq #[(.type "Exception")] 0) #[])
noncomputable def o_104 (P : Params) : Obj := (.mk (.type "builtin_function_or_method") .none (.fields #[(.builtin "type.__prepare__"), (.type "type")]) #[])
noncomputable def o_105 (P : Params) : Obj := (.mk (.type "dict") .none (.dict #[de P "__module__" 263 (vs "cpy313.ftplib" 254), de P "__qualname__" 265 (vs "Error" 264), de P "__firstlineno__" 267 (.int 49 266), de P "__static_attributes__" 268 (.ref 71)] 4) #[])
noncomputable def o_106 (P : Params) : Obj := (.mk (.type "tuple") .none (.seq #[] 0) #[])
noncomputable def o_107 (P : Params) : Obj := (.mk .none .none (.fields #[]) #[])
noncomputable def o_108 (P : Params) : Obj := (.mk (.type "code") .none (.fields #[(vs "Error" 258), (vs "Error" 259), (vs "/claim/cut.py" 260), (.int 49 0), (.int 0 0), (.int 0 0), (.int 0 0), (.int 0 0), (.ref 67), (.bool .false), (.int 181 0), (.ref 68), .none, .none, .none, .none, (.int 261 0), (.int 49 0), (vs "/claim/cut.py" 262)]) #[])
noncomputable def o_109 (P : Params) : Obj := (.mk (.type "frame") .none .plain #[(.some (.ref 69)), (.some (.ref 3)), (.some (.ref 66)), .none, (.some (vs "cpy313.ftplib" 254)), .none, (.some (.ref 0))])
noncomputable def o_110 (P : Params) : Obj := (.mk (.type "tuple") .none (.seq #[] 0) #[])
noncomputable def o_111 (P : Params) : Obj := (.mk (.type "dict") .none (.dict #[de P "__module__" 263 (vs "cpy313.ftplib" 254), de P "__firstlineno__" 267 (.int 49 266), de P "__static_attributes__" 268 (.ref 71), de P "__weakref__" 270 (.ref 74), de P "__doc__" 271 .none] 3) #[])
noncomputable def o_112 (P : Params) : Obj := (.mk (.type "type") .none (.cls (.mk (Str.ofString "Error") [(.type "Exception")] [(.ref 73), (.type "Exception"), (.type "BaseException"), (.type "object")] 72 (Str.ofString "Error") .true [] [] .false .none .false)) #[(.some (.ref 64)), .none, (.some (vs "Error" 256)), (.some (vs "Error" 264)), (.some (.builtin "Exception.__new__")), (.some (.bool .true))])
noncomputable def o_113 (P : Params) : Obj := (.mk (.type "getset_descriptor") .none (.fields #[(vs "__weakref__" 269), (.ref 73), (.builtin "ExceptionGroup.__weakref__"), .none]) #[])
noncomputable def o_114 (P : Params) : Obj := (.mk (.type "super") .none (.fields #[(.ref 73), (.ref 73), (.ref 73)]) #[])
noncomputable def o_115 (P : Params) : Obj := (.mk (.type "builtin_function_or_method") .none (.fields #[(.builtin "object.__init_subclass__"), (.ref 73)]) #[])
noncomputable def o_116 (P : Params) : Obj := (.mk (.type "dict") .none (.dict #[de P "__name__" 165 (vs "cpy313.tabnanny" 303), de P "__doc__" 166 .none, de P "__package__" 167 .none, de P "__loader__" 168 (.builtin "__main__.__loader__#opaque"), de P "__spec__" 169 .none, de P "__annotations__" 170 (.ref 6), de P "__builtins__" 171 (.ref 4), de P "__file__" 173 (vs "/claim/cut.py" 172), de P "__cached__" 174 .none, de P "_wall" 193 (.ref 21), de P "_netrclex" 253 (.ref 59), de P "Error" 275 (.ref 73), de P "error_reply" 291 (.ref 86), de P "parse257" 302 (.ref 95)] 14) #[])
noncomputable def o_117 (P : Params) : Obj := (.mk .none .none (.fields #[(.int 1 0), (.int 0 0), (.ref 20), (.int 5 0), (.int 0 0), (.ref 27), (.int 49 0), (.int 0 0), (.ref 69), (.int 51 0), (.int 0 0), (.ref 82), (.int 53 0), (.int 0 0), (.ref 94)]) #[])
noncomputable def o_118 (P : Params) : Obj := (.mk (.type "type") .none (.cls (.mk (Str.ofString "Error") [(.type "Exception")] [(.ref 73), (.type "Exception"), (.type "BaseException"), (.type "object")] 72 (Str.ofString "Error") .true [] [(.ref 86)] .false .none .false)) #[(.some (.ref 64)), .none, (.some (vs "Error" 256)), (.some (vs "Error" 264)), (.some (.builtin "Exception.__new__")), (.some (.bool .true))])
noncomputable def o_119 (P : Params) : Obj := (.mk (.type "tuple") .none (.seq #[(.ref 73)] 0) #[])
noncomputable def o_120 (P : Params) : Obj := (.mk (.type "builtin_function_or_method") .none (.fields #[(.builtin "type.__prepare__"), (.type "type")]) #[])
noncomputable def o_121 (P : Params) : Obj := (.mk (.type "dict") .none (.dict #[de P "__module__" 283 (vs "cpy313.ftplib" 254), de P "__qualname__" 285 (vs "error_reply" 284), de P "__firstlineno__" 287 (.int 51 286), de P "__static_attributes__" 288 (.ref 84)] 4) #[])
noncomputable def o_122 (P : Params) : Obj := (.mk (.type "tuple") .none (.seq #[] 0) #[])
noncomputable def o_123 (P : Params) : Obj := (.mk .none .none (.fields #[]) #[])
noncomputable def o_124 (P : Params) : Obj := (.mk (.type "code") .none (.fields #[(vs "error_reply" 278), (vs "error_reply" 279), (vs "/claim/cut.py" 280), (.int 51 0), (.int 0 0), (.int 0 0), (.int 0 0), (.int 0 0), (.ref 80), (.bool .false), (.int 181 0), (.ref 81), .none, .none, .none, .none, (.int 281 0), (.int 51 0), (vs "/claim/cut.py" 282)]) #[])
noncomputable def o_125 (P : Params) : Obj := (.mk (.type "frame") .none .plain #[(.some (.ref 82)), (.some (.ref 3)), (.some (.ref 79)), .none, (.some (vs "cpy313.ftplib" 254)), .none, (.some (.ref 0))])
noncomputable def o_126 (P : Params) : Obj := (.mk (.type "tuple") .none (.seq #[] 0) #[])
noncomputable def o_127 (P : Params) : Obj := (.mk (.type "dict") .none (.dict #[de P "__module__" 283 (vs "cpy313.ftplib" 254), de P "__firstlineno__" 287 (.int 51 286), de P "__static_attributes__" 288 (.ref 84), de P "__doc__" 289 .none] 2) #[])
noncomputable def o_128 (P : Params) : Obj := (.mk (.type "type") .none (.cls (.mk (Str.ofString "error_reply") [(.ref 73)] [(.ref 86), (.ref 73), (.type "Exception"), (.type "BaseException"), (.type "object")] 85 (Str.ofString "error_reply") .true [] [] .false .none .false)) #[(.some (.ref 77)), .none, (.some (vs "error_reply" 276)), (.some (vs "error_reply" 284)), (.some (.builtin "Exception.__new__")), (.some (.bool .true))])
noncomputable def o_129 (P : Params) : Obj := (.mk (.type "super") .none (.fields #[(.ref 86), (.ref 86), (.ref 86)]) #[])
noncomputable def o_130 (P : Params) : Obj := (.mk (.type "builtin_function_or_method") .none (.fields #[(.builtin "object.__init_subclass__"), (.ref 86)]) #[])
noncomputable def o_131 (P : Params) : Obj := (.mk (.type "tuple") .none (.seq #[] 0) #[])
noncomputable def o_132 (P : Params) : Obj := (.mk .none .none (.fields #[]) #[])
noncomputable def o_133 (P : Params) : Obj := (.mk (.type "tuple") .none (.seq #[(vs "resp" 295), (vs "dirname" 296), (vs "i" 297), (vs "n" 298), (vs "c" 299)] 0) #[])
noncomputable def o_134 (P : Params) : Obj := (.mk (.type "tuple") .none (.seq #[] 0) #[])
noncomputable def o_135 (P : Params) : Obj := (.mk .none .none (.func (.mk (Str.ofString "parse257") (Str.ofString "parse257") (paramsOf (stAt 6)) (.stmts (bodyOf (stAt 6))) (scopeOf (stAt 6)) 0 [] .none .none .none .none .none .none .none 0)) #[])
noncomputable def o_136 (P : Params) : Obj := (.mk (.type "code") .none (.fields #[(vs "parse257" 292), (vs "parse257" 293), (vs "/claim/cut.py" 294), (.int 53 0), (.int 1 0), (.int 0 0), (.int 0 0), (.int 3 0), (.ref 89), (.bool .true), (.int 181 0), (.ref 90), .none, (.ref 91), (.ref 92), (.ref 93), (.int 300 0), (.int 53 0), (vs "/claim/cut.py" 301)]) #[])
noncomputable def o_137 (P : Params) : Obj := (.mk (.type "function") .none (.func (.mk (Str.ofString "parse257") (Str.ofString "parse257") (paramsOf (stAt 6)) (.stmts (bodyOf (stAt 6))) (scopeOf (stAt 6)) 3 [] .none .none .none (vs "cpy313.ftplib" 254) .none (.ref 94) .none 0)) #[])
noncomputable def o_138 (P : Params) : Obj := (.mk (.type "dict") .none (.dict #[de P "__name__" 165 (vs "cpy313.tabnanny" 303), de P "__doc__" 166 .none, de P "__package__" 167 .none, de P "__loader__" 168 (.builtin "__main__.__loader__#opaque"), de P "__spec__" 169 .none, de P "__annotations__" 170 (.ref 6), de P "__builtins__" 171 (.ref 4), de P "__file__" 173 (vs "/claim/cut.py" 172), de P "__cached__" 174 .none, de P "_wall" 193 (.ref 21), de P "_netrclex" 253 (.ref 59), de P "Error" 275 (.ref 73), de P "error_reply" 291 (.ref 86), de P "parse257" 302 (.ref 95), de P "Whitespace" 404 (.ref 157)] 15) #[])
noncomputable def o_139 (P : Params) : Obj := (.mk .none .none (.fields #[(.int 1 0), (.int 0 0), (.ref 20), (.int 5 0), (.int 0 0), (.ref 27), (.int 49 0), (.int 0 0), (.ref 69), (.int 51 0), (.int 0 0), (.ref 82), (.int 53 0), (.int 0 0), (.ref 94), (.int 71 0), (.int 0 0), (.ref 101)]) #[])
noncomputable def o_140 (P : Params) : Obj := (.mk (.type "tuple") .none (.seq #[] 0) #[])
noncomputable def o_141 (P : Params) : Obj := (.mk (.type "builtin_function_or_method") .none (.fields #[(.builtin "type.__prepare__"), (.type "type")]) #[])
noncomputable def o_142 (P : Params) : Obj := (.mk (.type "dict") .none (.dict #[de P "__module__" 312 (vs "cpy313.tabnanny" 303), de P "__qualname__" 314 (vs "Whitespace" 313), de P "__firstlineno__" 316 (.int 71 315), de P "S" 320 (vs " " 318), de P "T" 321 (vs "\t" 319), de P "__init__" 336 (.ref 112), de P "longest_run_of_spaces" 345 (.ref 119), de P "indent_level" 357 (.ref 126), de P "equal" 365 (.ref 133), de P "not_equal_witness" 373 (.ref 140), de P "less" 383 (.ref 147), de P "not_less_witness" 391 (.ref 154), de P "__static_attributes__" 397 (.ref 155)] 13) #[])
noncomputable def o_143 (P : Params) : Obj := (.mk (.type "tuple") .none (.seq #[] 0) #[])
noncomputable def o_144 (P : Params) : Obj := (.mk .none .none (.fields #[(.int 74 0), (.int 4 0), (.ref 111), (.int 97 0), (.int 4 0), (.ref 118), (.int 101 0), (.int 4 0), (.ref 125), (.int 108 0), (.int 4 0), (.ref 132), (.int 111 0), (.int 4 0), (.ref 139), (.int 114 0), (.int 4 0), (.ref 146), (.int 125 0), (.int 4 0), (.ref 153)]) #[])
noncomputable def o_145 (P : Params) : Obj := (.mk (.type "code") .none (.fields #[(vs "Whitespace" 307), (vs "Whitespace" 308), (vs "/claim/cut.py" 309), (.int 71 0), (.int 0 0), (.int 0 0), (.int 0 0), (.int 0 0), (.ref 99), (.bool .false), (.int 181 0), (.ref 100), .none, .none, .none, .none, (.int 310 0), (.int 71 0), (vs "/claim/cut.py" 311)]) #[])
noncomputable def o_146 (P : Params) : Obj := (.mk (.type "frame") .none .plain #[(.some (.ref 101)), (.some (.ref 3)), (.some (.ref 98)), .none, (.some (vs "cpy313.tabnanny" 303)), .none, (.some (.ref 0))])
noncomputable def o_147 (P : Params) : Obj := (.mk (.type "str_ascii_iterator") .none (.fields #[.none, (.int 2 0)]) #[])
noncomputable def o_148 (P : Params) : Obj := (.mk (.type "tuple") .none (.seq #[] 0) #[])
noncomputable def o_149 (P : Params) : Obj := (.mk (.type "StopIteration") .none (.fields #[(.ref 104), .none, .none, .none, (.bool .false), .none]) #[])
noncomputable def o_150 (P : Params) : Obj := (.mk (.type "tuple") .none (.seq #[] 0) #[])
noncomputable def o_151 (P : Params) : Obj := (.mk .none .none (.fields #[]) #[])
noncomputable def o_152 (P : Params) : Obj := (.mk (.type "tuple") .none (.seq #[(vs "self" 325), (vs "ws" 326), (vs "S" 327), (vs "T" 328), (vs "count" 329), (vs "b" 330), (vs "n" 331), (vs "nt" 332), (vs "ch" 333)] 0) #[])
noncomputable def o_153 (P : Params) : Obj := (.mk (.type "tuple") .none (.seq #[] 0) #[])
noncomputable def o_154 (P : Params) : Obj := (.mk .none .none (.func (.mk (Str.ofString "__init__") (Str.ofString "Whitespace.__init__") (paramsOf (meAt 8 1)) (.stmts (bodyOf (meAt 8 1))) (scopeOf (meAt 8 1)) 0 [] .none .none .none .none .none .none .none 0)) #[])
noncomputable def o_155 (P : Params) : Obj := (.mk (.type "code") .none (.fields #[(vs "__init__" 322), (vs "Whitespace.__init__" 323), (vs "/claim/cut.py" 324), (.int 74 0), (.int 2 0), (.int 0 0), (.int 0 0), (.int 3 0), (.ref 106), (.bool .true), (.int 181 0), (.ref 107), .none, (.ref 108), (.ref 109), (.ref 110), (.int 334 0), (.int 74 0), (vs "/claim/cut.py" 335)]) #[])
noncomputable def o_156 (P : Params) : Obj := (.mk (.type "function") .none (.func (.mk (Str.ofString "__init__") (Str.ofString "Whitespace.__init__") (paramsOf (meAt 8 1)) (.stmts (bodyOf (meAt 8 1))) (scopeOf (meAt 8 1)) 3 [] .none .none .none (vs "cpy313.tabnanny" 303) .none (.ref 111) .none 0)) #[])
noncomputable def o_157 (P : Params) : Obj := (.mk (.type "tuple") .none (.seq #[] 0) #[])
noncomputable def o_158 (P : Params) : Obj := (.mk .none .none (.fields #[]) #[])
noncomputable def o_159 (P : Params) : Obj := (.mk (.type "tuple") .none (.seq #[(vs "self" 340), (vs "count" 341), (vs "trailing" 342)] 0) #[])
noncomputable def o_160 (P : Params) : Obj := (.mk (.type "tuple") .none (.seq #[] 0) #[])
noncomputable def o_161 (P : Params) : Obj := (.mk .none .none (.func (.mk (Str.ofString "longest_run_of_spaces") (Str.ofString "Whitespace.longest_run_of_spaces") (paramsOf (meAt 8 2)) (.stmts (bodyOf (meAt 8 2))) (scopeOf (meAt 8 2)) 0 [] .none .none .none .none .none .none .none 0)) #[])
noncomputable def o_162 (P : Params) : Obj := (.mk (.type "code") .none (.fields #[(vs "longest_run_of_spaces" 337), (vs "Whitespace.longest_run_of_spaces" 338), (vs "/claim/cut.py" 339), (.int 97 0), (.int 1 0), (.int 0 0), (.int 0 0), (.int 3 0), (.ref 113), (.bool .true), (.int 181 0), (.ref 114), .none, (.ref 115), (.ref 116), (.ref 117), (.int 343 0), (.int 97 0), (vs "/claim/cut.py" 344)]) #[])
noncomputable def o_163 (P : Params) : Obj := (.mk (.type "function") .none (.func (.mk (Str.ofString "longest_run_of_spaces") (Str.ofString "Whitespace.longest_run_of_spaces") (paramsOf (meAt 8 2)) (.stmts (bodyOf (meAt 8 2))) (scopeOf (meAt 8 2)) 3 [] .none .none .none (vs "cpy313.tabnanny" 303) .none (.ref 118) .none 0)) #[])
noncomputable def o_164 (P : Params) : Obj := (.mk (.type "tuple") .none (.seq #[] 0) #[])
noncomputable def o_165 (P : Params) : Obj := (.mk .none .none (.fields #[]) #[])
noncomputable def o_166 (P : Params) : Obj := (.mk (.type "tuple") .none (.seq #[(vs "self" 349), (vs "tabsize" 350), (vs "count" 351), (vs "trailing" 352), (vs "il" 353), (vs "i" 354)] 0) #[])
noncomputable def o_167 (P : Params) : Obj := (.mk (.type "tuple") .none (.seq #[] 0) #[])
noncomputable def o_168 (P : Params) : Obj := (.mk .none .none (.func (.mk (Str.ofString "indent_level") (Str.ofString "Whitespace.indent_level") (paramsOf (meAt 8 3)) (.stmts (bodyOf (meAt 8 3))) (scopeOf (meAt 8 3)) 0 [] .none .none .none .none .none .none .none 0)) #[])
noncomputable def o_169 (P : Params) : Obj := (.mk (.type "code") .none (.fields #[(vs "indent_level" 346), (vs "Whitespace.indent_level" 347), (vs "/claim/cut.py" 348), (.int 101 0), (.int 2 0), (.int 0 0), (.int 0 0), (.int 3 0), (.ref 120), (.bool .true), (.int 181 0), (.ref 121), .none, (.ref 122), (.ref 123), (.ref 124), (.int 355 0), (.int 101 0), (vs "/claim/cut.py" 356)]) #[])
noncomputable def o_170 (P : Params) : Obj := (.mk (.type "function") .none (.func (.mk (Str.ofString "indent_level") (Str.ofString "Whitespace.indent_level") (paramsOf (meAt 8 3)) (.stmts (bodyOf (meAt 8 3))) (scopeOf (meAt 8 3)) 3 [] .none .none .none (vs "cpy313.tabnanny" 303) .none (.ref 125) .none 0)) #[])
noncomputable def o_171 (P : Params) : Obj := (.mk (.type "tuple") .none (.seq #[] 0) #[])
noncomputable def o_172 (P : Params) : Obj := (.mk .none .none (.fields #[]) #[])
noncomputable def o_173 (P : Params) : Obj := (.mk (.type "tuple") .none (.seq #[(vs "self" 361), (vs "other" 362)] 0) #[])
noncomputable def o_174 (P : Params) : Obj := (.mk (.type "tuple") .none (.seq #[] 0) #[])
noncomputable def o_175 (P : Params) : Obj := (.mk .none .none (.func (.mk (Str.ofString "equal") (Str.ofString "Whitespace.equal") (paramsOf (meAt 8 4)) (.stmts (bodyOf (meAt 8 4))) (scopeOf (meAt 8 7)) 0 [] .none .none .none .none .none .none .none 0)) #[])
noncomputable def o_176 (P : Params) : Obj := (.mk (.type "code") .none (.fields #[(vs "equal" 358), (vs "Whitespace.equal" 359), (vs "/claim/cut.py" 360), (.int 108 0), (.int 2 0), (.int 0 0), (.int 0 0), (.int 3 0), (.ref 127), (.bool .true), (.int 181 0), (.ref 128), .none, (.ref 129), (.ref 130), (.ref 131), (.int 363 0), (.int 108 0), (vs "/claim/cut.py" 364)]) #[])
noncomputable def o_177 (P : Params) : Obj := (.mk (.type "function") .none (.func (.mk (Str.ofString "equal") (Str.ofString "Whitespace.equal") (paramsOf (meAt 8 4)) (.stmts (bodyOf (meAt 8 4))) (scopeOf (meAt 8 7)) 3 [] .none .none .none (vs "cpy313.tabnanny" 303) .none (.ref 132) .none 0)) #[])
noncomputable def o_178 (P : Params) : Obj := (.mk (.type "tuple") .none (.seq #[] 0) #[])
noncomputable def o_179 (P : Params) : Obj := (.mk .none .none (.fields #[]) #[])
noncomputable def o_180 (P : Params) : Obj := (.mk (.type "tuple") .none (.seq #[(vs "self" 369), (vs "other" 370)] 0) #[])
noncomputable def o_181 (P : Params) : Obj := (.mk (.type "tuple") .none (.seq #[] 0) #[])
noncomputable def o_182 (P : Params) : Obj := (.mk .none .none (.func (.mk (Str.ofString "not_equal_witness") (Str.ofString "Whitespace.not_equal_witness") (paramsOf (meAt 8 5)) (.stmts (bodyOf (meAt 8 5))) (scopeOf (meAt 8 7)) 0 [] .none .none .none .none .none .none .none 0)) #[])
noncomputable def o_183 (P : Params) : Obj := (.mk (.type "code") .none (.fields #[(vs "not_equal_witness" 366), (vs "Whitespace.not_equal_witness" 367), (vs "/claim/cut.py" 368), (.int 111 0), (.int 2 0), (.int 0 0), (.int 0 0), (.int 3 0), (.ref 134), (.bool .true), (.int 181 0), (.ref 135), .none, (.ref 136), (.ref 137), (.ref 138), (.int 371 0), (.int 111 0), (vs "/claim/cut.py" 372)]) #[])
noncomputable def o_184 (P : Params) : Obj := (.mk (.type "function") .none (.func (.mk (Str.ofString "not_equal_witness") (Str.ofString "Whitespace.not_equal_witness") (paramsOf (meAt 8 5)) (.stmts (bodyOf (meAt 8 5))) (scopeOf (meAt 8 7)) 3 [] .none .none .none (vs "cpy313.tabnanny" 303) .none (.ref 139) .none 0)) #[])
noncomputable def o_185 (P : Params) : Obj := (.mk (.type "tuple") .none (.seq #[] 0) #[])
noncomputable def o_186 (P : Params) : Obj := (.mk .none .none (.fields #[]) #[])
noncomputable def o_187 (P : Params) : Obj := (.mk (.type "tuple") .none (.seq #[(vs "self" 377), (vs "other" 378), (vs "n" 379), (vs "ts" 380)] 0) #[])
noncomputable def o_188 (P : Params) : Obj := (.mk (.type "tuple") .none (.seq #[] 0) #[])
noncomputable def o_189 (P : Params) : Obj := (.mk .none .none (.func (.mk (Str.ofString "less") (Str.ofString "Whitespace.less") (paramsOf (meAt 8 6)) (.stmts (bodyOf (meAt 8 6))) (scopeOf (meAt 8 6)) 0 [] .none .none .none .none .none .none .none 0)) #[])
noncomputable def o_190 (P : Params) : Obj := (.mk (.type "code") .none (.fields #[(vs "less" 374), (vs "Whitespace.less" 375), (vs "/claim/cut.py" 376), (.int 114 0), (.int 2 0), (.int 0 0), (.int 0 0), (.int 3 0), (.ref 141), (.bool .true), (.int 181 0), (.ref 142), .none, (.ref 143), (.ref 144), (.ref 145), (.int 381 0), (.int 114 0), (vs "/claim/cut.py" 382)]) #[])
noncomputable def o_191 (P : Params) : Obj := (.mk (.type "function") .none (.func (.mk (Str.ofString "less") (Str.ofString "Whitespace.less") (paramsOf (meAt 8 6)) (.stmts (bodyOf (meAt 8 6))) (scopeOf (meAt 8 6)) 3 [] .none .none .none (vs "cpy313.tabnanny" 303) .none (.ref 146) .none 0)) #[])
noncomputable def o_192 (P : Params) : Obj := (.mk (.type "tuple") .none (.seq #[] 0) #[])
noncomputable def o_193 (P : Params) : Obj := (.mk .none .none (.fields #[]) #[])
noncomputable def o_194 (P : Params) : Obj := (.mk (.type "tuple") .none (.seq #[(vs "self" 387), (vs "other" 388)] 0) #[])
noncomputable def o_195 (P : Params) : Obj := (.mk (.type "tuple") .none (.seq #[] 0) #[])
noncomputable def o_196 (P : Params) : Obj := (.mk .none .none (.func (.mk (Str.ofString "not_less_witness") (Str.ofString "Whitespace.not_less_witness") (paramsOf (meAt 8 7)) (.stmts (bodyOf (meAt 8 7))) (scopeOf (meAt 8 7)) 0 [] .none .none .none .none .none .none .none 0)) #[])
noncomputable def o_197 (P : Params) : Obj := (.mk (.type "code") .none (.fields #[(vs "not_less_witness" 384), (vs "Whitespace.not_less_witness" 385), (vs "/claim/cut.py" 386), (.int 125 0), (.int 2 0), (.int 0 0), (.int 0 0), (.int 3 0), (.ref 148), (.bool .true), (.int 181 0), (.ref 149), .none, (.ref 150), (.ref 151), (.ref 152), (.int 389 0), (.int 125 0), (vs "/claim/cut.py" 390)]) #[])
noncomputable def o_198 (P : Params) : Obj := (.mk (.type "function") .none (.func (.mk (Str.ofString "not_less_witness") (Str.ofString "Whitespace.not_less_witness") (paramsOf (meAt 8 7)) (.stmts (bodyOf (meAt 8 7))) (scopeOf (meAt 8 7)) 3 [] .none .none .none (vs "cpy313.tabnanny" 303) .none (.ref 153) .none 0)) #[])
noncomputable def o_199 (P : Params) : Obj := (.mk (.type "tuple") .none (.seq #[(vs "is_simple" 392), (vs "n" 393), (vs "norm" 394), (vs "nt" 395), (vs "raw" 396)] 0) #[])
noncomputable def o_200 (P : Params) : Obj := (.mk (.type "dict") .none (.dict #[de P "__module__" 312 (vs "cpy313.tabnanny" 303), de P "__firstlineno__" 316 (.int 71 315), de P "S" 320 (vs " " 318), de P "T" 321 (vs "\t" 319), de P "__init__" 336 (.ref 112), de P "longest_run_of_spaces" 345 (.ref 119), de P "indent_level" 357 (.ref 126), de P "equal" 365 (.ref 133), de P "not_equal_witness" 373 (.ref 140), de P "less" 383 (.ref 147), de P "not_less_witness" 391 (.ref 154), de P "__static_attributes__" 397 (.ref 155), de P "__dict__" 399 (.ref 158), de P "__weakref__" 401 (.ref 159), de P "__doc__" 402 .none] 4) #[])
noncomputable def o_201 (P : Params) : Obj := (.mk (.type "type") .none (.cls (.mk (Str.ofString "Whitespace") [(.type "object")] [(.ref 157), (.type "object")] 156 (Str.ofString "Whitespace") .true [] [] .false .none .false)) #[.none, .none, (.some (vs "Whitespace" 305)), (.some (vs "Whitespace" 313)), (.some (.builtin "object.__new__")), (.some (.bool .true))])
noncomputable def o_202 (P : Params) : Obj := (.mk (.type "getset_descriptor") .none (.fields #[(vs "__dict__" 398), (.ref 157), (.builtin "function.__dict__"), (.builtin "function.__dict__#set")]) #[])
noncomputable def o_203 (P : Params) : Obj := (.mk (.type "getset_descriptor") .none (.fields #[(vs "__weakref__" 400), (.ref 157), (.builtin "ExceptionGroup.__weakref__"), .none]) #[])
noncomputable def o_204 (P : Params) : Obj := (.mk (.type "super") .none (.fields #[(.ref 157), (.ref 157), (.ref 157)]) #[])
noncomputable def o_205 (P : Params) : Obj := (.mk (.type "builtin_function_or_method") .none (.fields #[(.builtin "object.__init_subclass__"), (.ref 157)]) #[])
noncomputable def o_208 (P : Params) : Obj := (.mk (.type "dict") .none (.dict #[de P "__name__" 165 (vs "law_rl0078_01" 405), de P "__doc__" 166 .none, de P "__package__" 167 .none, de P "__loader__" 168 (.builtin "__main__.__loader__#opaque"), de P "__spec__" 169 .none, de P "__annotations__" 170 (.ref 6), de P "__builtins__" 171 (.ref 4), de P "__file__" 173 (vs "/claim/cut.py" 172), de P "__cached__" 174 .none, de P "_wall" 193 (.ref 21), de P "_netrclex" 253 (.ref 59), de P "Error" 275 (.ref 73), de P "error_reply" 291 (.ref 86), de P "parse257" 302 (.ref 95), de P "Whitespace" 404 (.ref 157), de P "_law_lexer" 415 (.ref 168), de P "_law_spelled" 421 (.ref 173), de P "_law_columns" 432 (.ref 180), de P "_law_links" 438 (.ref 185), de P "law" 444 (.ref 190)] 20) #[])
noncomputable def o_209 (P : Params) : Obj := (.mk .none .none (.fields #[(.int 1 0), (.int 0 0), (.ref 20), (.int 5 0), (.int 0 0), (.ref 27), (.int 49 0), (.int 0 0), (.ref 69), (.int 51 0), (.int 0 0), (.ref 82), (.int 53 0), (.int 0 0), (.ref 94), (.int 71 0), (.int 0 0), (.ref 101), (.int 128 0), (.int 0 0), (.ref 167), (.int 133 0), (.int 0 0), (.ref 172), (.int 139 0), (.int 0 0), (.ref 179), (.int 147 0), (.int 0 0), (.ref 184), (.int 154 0), (.int 0 0), (.ref 189)]) #[])
noncomputable def o_210 (P : Params) : Obj := (.mk (.type "tuple") .none (.seq #[] 0) #[])
noncomputable def o_211 (P : Params) : Obj := (.mk .none .none (.fields #[]) #[])
noncomputable def o_212 (P : Params) : Obj := (.mk (.type "tuple") .none (.seq #[(vs "text" 410), (vs "source" 411)] 0) #[])
noncomputable def o_213 (P : Params) : Obj := (.mk (.type "tuple") .none (.seq #[(vs "tape" 412)] 0) #[])
noncomputable def o_214 (P : Params) : Obj := (.mk .none .none (.func (.mk (Str.ofString "_law_lexer") (Str.ofString "_law_lexer") (paramsOf (stAt 10)) (.stmts (bodyOf (stAt 10))) (scopeOf (stAt 10)) 0 [] .none .none .none .none .none .none .none 0)) #[])
noncomputable def o_215 (P : Params) : Obj := (.mk (.type "code") .none (.fields #[(vs "_law_lexer" 407), (vs "_law_lexer" 408), (vs "/claim/cut.py" 409), (.int 128 0), (.int 1 0), (.int 0 0), (.int 0 0), (.int 3 0), (.ref 162), (.bool .true), (.int 181 0), (.ref 163), .none, (.ref 164), (.ref 165), (.ref 166), (.int 413 0), (.int 128 0), (vs "/claim/cut.py" 414)]) #[])
noncomputable def o_216 (P : Params) : Obj := (.mk (.type "function") .none (.func (.mk (Str.ofString "_law_lexer") (Str.ofString "_law_lexer") (paramsOf (stAt 10)) (.stmts (bodyOf (stAt 10))) (scopeOf (stAt 10)) 3 [] .none .none .none (vs "law_rl0078_01" 405) .none (.ref 167) .none 0)) #[])
noncomputable def o_217 (P : Params) : Obj := (.mk (.type "tuple") .none (.seq #[] 0) #[])
noncomputable def o_218 (P : Params) : Obj := (.mk .none .none (.fields #[]) #[])
noncomputable def o_219 (P : Params) : Obj := (.mk .none .none (.func (.mk (Str.ofString "_law_spelled") (Str.ofString "_law_spelled") (paramsOf (stAt 11)) (.stmts (bodyOf (stAt 11))) (scopeOf (stAt 11)) 0 [] .none .none .none .none .none .none .none 0)) #[])
noncomputable def o_220 (P : Params) : Obj := (.mk (.type "code") .none (.fields #[(vs "_law_spelled" 416), (vs "_law_spelled" 417), (vs "/claim/cut.py" 418), (.int 133 0), (.int 2 0), (.int 0 0), (.int 0 0), (.int 3 0), (.ref 169), (.bool .true), (.int 181 0), (.ref 170), .none, .none, .none, (.ref 171), (.int 419 0), (.int 133 0), (vs "/claim/cut.py" 420)]) #[])
noncomputable def o_221 (P : Params) : Obj := (.mk (.type "function") .none (.func (.mk (Str.ofString "_law_spelled") (Str.ofString "_law_spelled") (paramsOf (stAt 11)) (.stmts (bodyOf (stAt 11))) (scopeOf (stAt 11)) 3 [] .none .none .none (vs "law_rl0078_01" 405) .none (.ref 172) .none 0)) #[])
noncomputable def o_222 (P : Params) : Obj := (.mk (.type "tuple") .none (.seq #[] 0) #[])
noncomputable def o_223 (P : Params) : Obj := (.mk .none .none (.fields #[]) #[])
noncomputable def o_224 (P : Params) : Obj := (.mk (.type "tuple") .none (.seq #[(vs "lead" 425), (vs "columns" 426), (vs "size" 427), (vs "column" 428), (vs "sign" 429)] 0) #[])
noncomputable def o_225 (P : Params) : Obj := (.mk (.type "tuple") .none (.seq #[] 0) #[])
noncomputable def o_226 (P : Params) : Obj := (.mk .none .none (.func (.mk (Str.ofString "_law_columns") (Str.ofString "_law_columns") (paramsOf (stAt 12)) (.stmts (bodyOf (stAt 12))) (scopeOf (stAt 12)) 0 [] .none .none .none .none .none .none .none 0)) #[])
noncomputable def o_227 (P : Params) : Obj := (.mk (.type "code") .none (.fields #[(vs "_law_columns" 422), (vs "_law_columns" 423), (vs "/claim/cut.py" 424), (.int 139 0), (.int 1 0), (.int 0 0), (.int 0 0), (.int 3 0), (.ref 174), (.bool .true), (.int 181 0), (.ref 175), .none, (.ref 176), (.ref 177), (.ref 178), (.int 430 0), (.int 139 0), (vs "/claim/cut.py" 431)]) #[])
noncomputable def o_228 (P : Params) : Obj := (.mk (.type "function") .none (.func (.mk (Str.ofString "_law_columns") (Str.ofString "_law_columns") (paramsOf (stAt 12)) (.stmts (bodyOf (stAt 12))) (scopeOf (stAt 12)) 3 [] .none .none .none (vs "law_rl0078_01" 405) .none (.ref 179) .none 0)) #[])
noncomputable def o_229 (P : Params) : Obj := (.mk (.type "tuple") .none (.seq #[] 0) #[])
noncomputable def o_230 (P : Params) : Obj := (.mk .none .none (.fields #[]) #[])
noncomputable def o_231 (P : Params) : Obj := (.mk .none .none (.func (.mk (Str.ofString "_law_links") (Str.ofString "_law_links") (paramsOf (stAt 13)) (.stmts (bodyOf (stAt 13))) (scopeOf (stAt 13)) 0 [] .none .none .none .none .none .none .none 0)) #[])
noncomputable def o_232 (P : Params) : Obj := (.mk (.type "code") .none (.fields #[(vs "_law_links" 433), (vs "_law_links" 434), (vs "/claim/cut.py" 435), (.int 147 0), (.int 1 0), (.int 0 0), (.int 0 0), (.int 3 0), (.ref 181), (.bool .true), (.int 181 0), (.ref 182), .none, .none, .none, (.ref 183), (.int 436 0), (.int 147 0), (vs "/claim/cut.py" 437)]) #[])
noncomputable def o_233 (P : Params) : Obj := (.mk (.type "function") .none (.func (.mk (Str.ofString "_law_links") (Str.ofString "_law_links") (paramsOf (stAt 13)) (.stmts (bodyOf (stAt 13))) (scopeOf (stAt 13)) 3 [] .none .none .none (vs "law_rl0078_01" 405) .none (.ref 184) .none 0)) #[])
noncomputable def o_234 (P : Params) : Obj := (.mk (.type "tuple") .none (.seq #[] 0) #[])
noncomputable def o_235 (P : Params) : Obj := (.mk .none .none (.fields #[]) #[])
noncomputable def o_236 (P : Params) : Obj := (.mk .none .none (.func (.mk (Str.ofString "law") (Str.ofString "law") (paramsOf (stAt 14)) (.stmts (bodyOf (stAt 14))) (scopeOf (stAt 14)) 0 [] .none .none .none .none .none .none .none 0)) #[])
noncomputable def o_237 (P : Params) : Obj := (.mk (.type "code") .none (.fields #[(vs "law" 439), (vs "law" 440), (vs "/claim/cut.py" 441), (.int 154 0), (.int 1 0), (.int 0 0), (.int 0 0), (.int 3 0), (.ref 186), (.bool .true), (.int 181 0), (.ref 187), .none, .none, .none, (.ref 188), (.int 442 0), (.int 154 0), (vs "/claim/cut.py" 443)]) #[])
noncomputable def o_238 (P : Params) : Obj := (.mk (.type "function") .none (.func (.mk (Str.ofString "law") (Str.ofString "law") (paramsOf (stAt 14)) (.stmts (bodyOf (stAt 14))) (scopeOf (stAt 14)) 3 [] .none .none .none (vs "law_rl0078_01" 405) .none (.ref 189) .none 0)) #[])
noncomputable def tree_47 (P : Params) : BT := (.node (boot_o_0 P) (.node (boot_o_1 P) (.node (boot_o_3 P) (.node (boot_o_7 P) .nil .nil) (.node (o_43 P) .nil .nil)) (.node (boot_o_5 P) (.node (boot_o_9 P) .nil .nil) (.node (o_45 P) .nil .nil))) (.node (boot_o_2 P) (.node (boot_o_4 P) (.node (boot_o_8 P) .nil .nil) (.node (o_44 P) .nil .nil)) (.node (boot_o_6 P) (.node (boot_o_10 P) .nil .nil) (.node (o_46 P) .nil .nil))))
noncomputable def tree_99 (P : Params) : BT := (.node (boot_o_0 P) (.node (boot_o_1 P) (.node (o_49 P) (.node (boot_o_7 P) (.node (o_51 P) (.node (o_67 P) (.node (o_99 P) .nil .nil) .nil) (.node (o_83 P) .nil .nil)) (.node (o_59 P) (.node (o_75 P) .nil .nil) (.node (o_91 P) .nil .nil))) (.node (o_43 P) (.node (o_55 P) (.node (o_71 P) .nil .nil) (.node (o_87 P) .nil .nil)) (.node (o_63 P) (.node (o_79 P) .nil .nil) (.node (o_95 P) .nil .nil)))) (.node (boot_o_5 P) (.node (boot_o_9 P) (.node (o_53 P) (.node (o_69 P) .nil .nil) (.node (o_85 P) .nil .nil)) (.node (o_61 P) (.node (o_77 P) .nil .nil) (.node (o_93 P) .nil .nil))) (.node (o_45 P) (.node (o_57 P) (.node (o_73 P) .nil .nil) (.node (o_89 P) .nil .nil)) (.node (o_65 P) (.node (o_81 P) .nil .nil) (.node (o_97 P) .nil .nil))))) (.node (boot_o_2 P) (.node (boot_o_4 P) (.node (boot_o_8 P) (.node (o_52 P) (.node (o_68 P) .nil .nil) (.node (o_84 P) .nil .nil)) (.node (o_60 P) (.node (o_76 P) .nil .nil) (.node (o_92 P) .nil .nil))) (.node (o_50 P) (.node (o_56 P) (.node (o_72 P) .nil .nil) (.node (o_88 P) .nil .nil)) (.node (o_64 P) (.node (o_80 P) .nil .nil) (.node (o_96 P) .nil .nil)))) (.node (boot_o_6 P) (.node (boot_o_10 P) (.node (o_54 P) (.node (o_70 P) .nil .nil) (.node (o_86 P) .nil .nil)) (.node (o_62 P) (.node (o_78 P) .nil .nil) (.node (o_94 P) .nil .nil))) (.node (o_46 P) (.node (o_58 P) (.node (o_74 P) .nil .nil) (.node (o_90 P) .nil .nil)) (.node (o_66 P) (.node (o_82 P) .nil .nil) (.node (o_98 P) .nil .nil))))))
noncomputable def tree_115 (P : Params) : BT := (.node (boot_o_0 P) (.node (boot_o_1 P) (.node (o_101 P) (.node (boot_o_7 P) (.node (o_51 P) (.node (o_67 P) (.node (o_99 P) .nil .nil) .nil) (.node (o_83 P) .nil .nil)) (.node (o_59 P) (.node (o_75 P) (.node (o_110 P) .nil .nil) .nil) (.node (o_91 P) .nil .nil))) (.node (o_43 P) (.node (o_55 P) (.node (o_71 P) (.node (o_106 P) .nil .nil) .nil) (.node (o_87 P) .nil .nil)) (.node (o_63 P) (.node (o_79 P) (.node (o_114 P) .nil .nil) .nil) (.node (o_95 P) .nil .nil)))) (.node (boot_o_5 P) (.node (boot_o_9 P) (.node (o_53 P) (.node (o_69 P) (.node (o_104 P) .nil .nil) .nil) (.node (o_85 P) .nil .nil)) (.node (o_61 P) (.node (o_77 P) (.node (o_112 P) .nil .nil) .nil) (.node (o_93 P) .nil .nil))) (.node (o_45 P) (.node (o_57 P) (.node (o_73 P) (.node (o_108 P) .nil .nil) .nil) (.node (o_89 P) .nil .nil)) (.node (o_65 P) (.node (o_81 P) .nil .nil) (.node (o_97 P) .nil .nil))))) (.node (o_100 P) (.node (boot_o_4 P) (.node (boot_o_8 P) (.node (o_52 P) (.node (o_68 P) (.node (o_103 P) .nil .nil) .nil) (.node (o_84 P) .nil .nil)) (.node (o_60 P) (.node (o_76 P) (.node (o_111 P) .nil .nil) .nil) (.node (o_92 P) .nil .nil))) (.node (o_102 P) (.node (o_56 P) (.node (o_72 P) (.node (o_107 P) .nil .nil) .nil) (.node (o_88 P) .nil .nil)) (.node (o_64 P) (.node (o_80 P) (.node (o_115 P) .nil .nil) .nil) (.node (o_96 P) .nil .nil)))) (.node (boot_o_6 P) (.node (boot_o_10 P) (.node (o_54 P) (.node (o_70 P) (.node (o_105 P) .nil .nil) .nil) (.node (o_86 P) .nil .nil)) (.node (o_62 P) (.node (o_78 P) (.node (o_113 P) .nil .nil) .nil) (.node (o_94 P) .nil .nil))) (.node (o_46 P) (.node (o_58 P) (.node (o_74 P) (.node (o_109 P) .nil .nil) .nil) (.node (o_90 P) .nil .nil)) (.node (o_66 P) (.node (o_82 P) .nil .nil) (.node (o_98 P) .nil .nil))))))
noncomputable def tree_137 (P : Params) : BT := (.node (boot_o_0 P) (.node (boot_o_1 P) (.node (o_116 P) (.node (boot_o_7 P) (.node (o_51 P) (.node (o_67 P) (.node (o_99 P) .nil .nil) (.node (o_137 P) .nil .nil)) (.node (o_83 P) (.node (o_121 P) .nil .nil) .nil)) (.node (o_59 P) (.node (o_75 P) (.node (o_110 P) .nil .nil) .nil) (.node (o_91 P) (.node (o_129 P) .nil .nil) .nil))) (.node (o_43 P) (.node (o_55 P) (.node (o_71 P) (.node (o_106 P) .nil .nil) .nil) (.node (o_87 P) (.node (o_125 P) .nil .nil) .nil)) (.node (o_63 P) (.node (o_79 P) (.node (o_114 P) .nil .nil) .nil) (.node (o_95 P) (.node (o_133 P) .nil .nil) .nil)))) (.node (boot_o_5 P) (.node (boot_o_9 P) (.node (o_53 P) (.node (o_69 P) (.node (o_104 P) .nil .nil) .nil) (.node (o_85 P) (.node (o_123 P) .nil .nil) .nil)) (.node (o_61 P) (.node (o_77 P) (.node (o_118 P) .nil .nil) .nil) (.node (o_93 P) (.node (o_131 P) .nil .nil) .nil))) (.node (o_45 P) (.node (o_57 P) (.node (o_73 P) (.node (o_108 P) .nil .nil) .nil) (.node (o_89 P) (.node (o_127 P) .nil .nil) .nil)) (.node (o_65 P) (.node (o_81 P) (.node (o_119 P) .nil .nil) .nil) (.node (o_97 P) (.node (o_135 P) .nil .nil) .nil))))) (.node (o_100 P) (.node (boot_o_4 P) (.node (boot_o_8 P) (.node (o_52 P) (.node (o_68 P) (.node (o_103 P) .nil .nil) .nil) (.node (o_84 P) (.node (o_122 P) .nil .nil) .nil)) (.node (o_60 P) (.node (o_76 P) (.node (o_111 P) .nil .nil) .nil) (.node (o_92 P) (.node (o_130 P) .nil .nil) .nil))) (.node (o_117 P) (.node (o_56 P) (.node (o_72 P) (.node (o_107 P) .nil .nil) .nil) (.node (o_88 P) (.node (o_126 P) .nil .nil) .nil)) (.node (o_64 P) (.node (o_80 P) (.node (o_115 P) .nil .nil) .nil) (.node (o_96 P) (.node (o_134 P) .nil .nil) .nil)))) (.node (boot_o_6 P) (.node (boot_o_10 P) (.node (o_54 P) (.node (o_70 P) (.node (o_105 P) .nil .nil) .nil) (.node (o_86 P) (.node (o_124 P) .nil .nil) .nil)) (.node (o_62 P) (.node (o_78 P) (.node (o_113 P) .nil .nil) .nil) (.node (o_94 P) (.node (o_132 P) .nil .nil) .nil))) (.node (o_46 P) (.node (o_58 P) (.node (o_74 P) (.node (o_109 P) .nil .nil) .nil) (.node (o_90 P) (.node (o_128 P) .nil .nil) .nil)) (.node (o_66 P) (.node (o_82 P) (.node (o_120 P) .nil .nil) .nil) (.node (o_98 P) (.node (o_136 P) .nil .nil) .nil))))))
noncomputable def tree_205 (P : Params) : BT := (.node (boot_o_0 P) (.node (boot_o_1 P) (.node (o_138 P) (.node (boot_o_7 P) (.node (o_51 P) (.node (o_67 P) (.node (o_99 P) (.node (o_171 P) .nil .nil) .nil) (.node (o_137 P) (.node (o_203 P) .nil .nil) .nil)) (.node (o_83 P) (.node (o_121 P) (.node (o_187 P) .nil .nil) .nil) (.node (o_155 P) .nil .nil))) (.node (o_59 P) (.node (o_75 P) (.node (o_110 P) (.node (o_179 P) .nil .nil) .nil) (.node (o_147 P) .nil .nil)) (.node (o_91 P) (.node (o_129 P) (.node (o_195 P) .nil .nil) .nil) (.node (o_163 P) .nil .nil)))) (.node (o_43 P) (.node (o_55 P) (.node (o_71 P) (.node (o_106 P) (.node (o_175 P) .nil .nil) .nil) (.node (o_143 P) .nil .nil)) (.node (o_87 P) (.node (o_125 P) (.node (o_191 P) .nil .nil) .nil) (.node (o_159 P) .nil .nil))) (.node (o_63 P) (.node (o_79 P) (.node (o_114 P) (.node (o_183 P) .nil .nil) .nil) (.node (o_151 P) .nil .nil)) (.node (o_95 P) (.node (o_133 P) (.node (o_199 P) .nil .nil) .nil) (.node (o_167 P) .nil .nil))))) (.node (boot_o_5 P) (.node (boot_o_9 P) (.node (o_53 P) (.node (o_69 P) (.node (o_104 P) (.node (o_173 P) .nil .nil) .nil) (.node (o_141 P) (.node (o_205 P) .nil .nil) .nil)) (.node (o_85 P) (.node (o_123 P) (.node (o_189 P) .nil .nil) .nil) (.node (o_157 P) .nil .nil))) (.node (o_61 P) (.node (o_77 P) (.node (o_118 P) (.node (o_181 P) .nil .nil) .nil) (.node (o_149 P) .nil .nil)) (.node (o_93 P) (.node (o_131 P) (.node (o_197 P) .nil .nil) .nil) (.node (o_165 P) .nil .nil)))) (.node (o_45 P) (.node (o_57 P) (.node (o_73 P) (.node (o_108 P) (.node (o_177 P) .nil .nil) .nil) (.node (o_145 P) .nil .nil)) (.node (o_89 P) (.node (o_127 P) (.node (o_193 P) .nil .nil) .nil) (.node (o_161 P) .nil .nil))) (.node (o_65 P) (.node (o_81 P) (.node (o_119 P) (.node (o_185 P) .nil .nil) .nil) (.node (o_153 P) .nil .nil)) (.node (o_97 P) (.node (o_135 P) (.node (o_201 P) .nil .nil) .nil) (.node (o_169 P) .nil .nil)))))) (.node (o_100 P) (.node (boot_o_4 P) (.node (boot_o_8 P) (.node (o_52 P) (.node (o_68 P) (.node (o_103 P) (.node (o_172 P) .nil .nil) .nil) (.node (o_140 P) (.node (o_204 P) .nil .nil) .nil)) (.node (o_84 P) (.node (o_122 P) (.node (o_188 P) .nil .nil) .nil) (.node (o_156 P) .nil .nil))) (.node (o_60 P) (.node (o_76 P) (.node (o_111 P) (.node (o_180 P) .nil .nil) .nil) (.node (o_148 P) .nil .nil)) (.node (o_92 P) (.node (o_130 P) (.node (o_196 P) .nil .nil) .nil) (.node (o_164 P) .nil .nil)))) (.node (o_139 P) (.node (o_56 P) (.node (o_72 P) (.node (o_107 P) (.node (o_176 P) .nil .nil) .nil) (.node (o_144 P) .nil .nil)) (.node (o_88 P) (.node (o_126 P) (.node (o_192 P) .nil .nil) .nil) (.node (o_160 P) .nil .nil))) (.node (o_64 P) (.node (o_80 P) (.node (o_115 P) (.node (o_184 P) .nil .nil) .nil) (.node (o_152 P) .nil .nil)) (.node (o_96 P) (.node (o_134 P) (.node (o_200 P) .nil .nil) .nil) (.node (o_168 P) .nil .nil))))) (.node (boot_o_6 P) (.node (boot_o_10 P) (.node (o_54 P) (.node (o_70 P) (.node (o_105 P) (.node (o_174 P) .nil .nil) .nil) (.node (o_142 P) .nil .nil)) (.node (o_86 P) (.node (o_124 P) (.node (o_190 P) .nil .nil) .nil) (.node (o_158 P) .nil .nil))) (.node (o_62 P) (.node (o_78 P) (.node (o_113 P) (.node (o_182 P) .nil .nil) .nil) (.node (o_150 P) .nil .nil)) (.node (o_94 P) (.node (o_132 P) (.node (o_198 P) .nil .nil) .nil) (.node (o_166 P) .nil .nil)))) (.node (o_46 P) (.node (o_58 P) (.node (o_74 P) (.node (o_109 P) (.node (o_178 P) .nil .nil) .nil) (.node (o_146 P) .nil .nil)) (.node (o_90 P) (.node (o_128 P) (.node (o_194 P) .nil .nil) .nil) (.node (o_162 P) .nil .nil))) (.node (o_66 P) (.node (o_82 P) (.node (o_120 P) (.node (o_186 P) .nil .nil) .nil) (.node (o_154 P) .nil .nil)) (.node (o_98 P) (.node (o_136 P) (.node (o_202 P) .nil .nil) .nil) (.node (o_170 P) .nil .nil)))))))
noncomputable def tree_238 (P : Params) : BT := (.node (boot_o_0 P) (.node (boot_o_1 P) (.node (o_208 P) (.node (boot_o_7 P) (.node (o_51 P) (.node (o_67 P) (.node (o_99 P) (.node (o_171 P) .nil .nil) .nil) (.node (o_137 P) (.node (o_203 P) .nil .nil) .nil)) (.node (o_83 P) (.node (o_121 P) (.node (o_187 P) .nil .nil) .nil) (.node (o_155 P) (.node (o_223 P) .nil .nil) .nil))) (.node (o_59 P) (.node (o_75 P) (.node (o_110 P) (.node (o_179 P) .nil .nil) .nil) (.node (o_147 P) (.node (o_215 P) .nil .nil) .nil)) (.node (o_91 P) (.node (o_129 P) (.node (o_195 P) .nil .nil) .nil) (.node (o_163 P) (.node (o_231 P) .nil .nil) .nil)))) (.node (o_43 P) (.node (o_55 P) (.node (o_71 P) (.node (o_106 P) (.node (o_175 P) .nil .nil) .nil) (.node (o_143 P) (.node (o_211 P) .nil .nil) .nil)) (.node (o_87 P) (.node (o_125 P) (.node (o_191 P) .nil .nil) .nil) (.node (o_159 P) (.node (o_227 P) .nil .nil) .nil))) (.node (o_63 P) (.node (o_79 P) (.node (o_114 P) (.node (o_183 P) .nil .nil) .nil) (.node (o_151 P) (.node (o_219 P) .nil .nil) .nil)) (.node (o_95 P) (.node (o_133 P) (.node (o_199 P) .nil .nil) .nil) (.node (o_167 P) (.node (o_235 P) .nil .nil) .nil))))) (.node (boot_o_5 P) (.node (boot_o_9 P) (.node (o_53 P) (.node (o_69 P) (.node (o_104 P) (.node (o_173 P) .nil .nil) .nil) (.node (o_141 P) (.node (o_205 P) .nil .nil) .nil)) (.node (o_85 P) (.node (o_123 P) (.node (o_189 P) .nil .nil) .nil) (.node (o_157 P) (.node (o_225 P) .nil .nil) .nil))) (.node (o_61 P) (.node (o_77 P) (.node (o_118 P) (.node (o_181 P) .nil .nil) .nil) (.node (o_149 P) (.node (o_217 P) .nil .nil) .nil)) (.node (o_93 P) (.node (o_131 P) (.node (o_197 P) .nil .nil) .nil) (.node (o_165 P) (.node (o_233 P) .nil .nil) .nil)))) (.node (o_45 P) (.node (o_57 P) (.node (o_73 P) (.node (o_108 P) (.node (o_177 P) .nil .nil) .nil) (.node (o_145 P) (.node (o_213 P) .nil .nil) .nil)) (.node (o_89 P) (.node (o_127 P) (.node (o_193 P) .nil .nil) .nil) (.node (o_161 P) (.node (o_229 P) .nil .nil) .nil))) (.node (o_65 P) (.node (o_81 P) (.node (o_119 P) (.node (o_185 P) .nil .nil) .nil) (.node (o_153 P) (.node (o_221 P) .nil .nil) .nil)) (.node (o_97 P) (.node (o_135 P) (.node (o_201 P) .nil .nil) .nil) (.node (o_169 P) (.node (o_237 P) .nil .nil) .nil)))))) (.node (o_100 P) (.node (boot_o_4 P) (.node (boot_o_8 P) (.node (o_52 P) (.node (o_68 P) (.node (o_103 P) (.node (o_172 P) .nil .nil) .nil) (.node (o_140 P) (.node (o_204 P) .nil .nil) .nil)) (.node (o_84 P) (.node (o_122 P) (.node (o_188 P) .nil .nil) .nil) (.node (o_156 P) (.node (o_224 P) .nil .nil) .nil))) (.node (o_60 P) (.node (o_76 P) (.node (o_111 P) (.node (o_180 P) .nil .nil) .nil) (.node (o_148 P) (.node (o_216 P) .nil .nil) .nil)) (.node (o_92 P) (.node (o_130 P) (.node (o_196 P) .nil .nil) .nil) (.node (o_164 P) (.node (o_232 P) .nil .nil) .nil)))) (.node (o_209 P) (.node (o_56 P) (.node (o_72 P) (.node (o_107 P) (.node (o_176 P) .nil .nil) .nil) (.node (o_144 P) (.node (o_212 P) .nil .nil) .nil)) (.node (o_88 P) (.node (o_126 P) (.node (o_192 P) .nil .nil) .nil) (.node (o_160 P) (.node (o_228 P) .nil .nil) .nil))) (.node (o_64 P) (.node (o_80 P) (.node (o_115 P) (.node (o_184 P) .nil .nil) .nil) (.node (o_152 P) (.node (o_220 P) .nil .nil) .nil)) (.node (o_96 P) (.node (o_134 P) (.node (o_200 P) .nil .nil) .nil) (.node (o_168 P) (.node (o_236 P) .nil .nil) .nil))))) (.node (boot_o_6 P) (.node (boot_o_10 P) (.node (o_54 P) (.node (o_70 P) (.node (o_105 P) (.node (o_174 P) .nil .nil) .nil) (.node (o_142 P) (.node (o_210 P) .nil .nil) .nil)) (.node (o_86 P) (.node (o_124 P) (.node (o_190 P) .nil .nil) .nil) (.node (o_158 P) (.node (o_226 P) .nil .nil) .nil))) (.node (o_62 P) (.node (o_78 P) (.node (o_113 P) (.node (o_182 P) .nil .nil) .nil) (.node (o_150 P) (.node (o_218 P) .nil .nil) .nil)) (.node (o_94 P) (.node (o_132 P) (.node (o_198 P) .nil .nil) .nil) (.node (o_166 P) (.node (o_234 P) .nil .nil) .nil)))) (.node (o_46 P) (.node (o_58 P) (.node (o_74 P) (.node (o_109 P) (.node (o_178 P) .nil .nil) .nil) (.node (o_146 P) (.node (o_214 P) .nil .nil) .nil)) (.node (o_90 P) (.node (o_128 P) (.node (o_194 P) .nil .nil) .nil) (.node (o_162 P) (.node (o_230 P) .nil .nil) .nil))) (.node (o_66 P) (.node (o_82 P) (.node (o_120 P) (.node (o_186 P) .nil .nil) .nil) (.node (o_154 P) (.node (o_222 P) .nil .nil) .nil)) (.node (o_98 P) (.node (o_136 P) (.node (o_202 P) .nil .nil) .nil) (.node (o_170 P) (.node (o_238 P) .nil .nil) .nil)))))))
noncomputable def heap_46 (P : Params) : Heap := (.mk #[(boot_o_0 P), (boot_o_1 P), (boot_o_2 P), (boot_o_3 P), (boot_o_4 P), (boot_o_5 P), (boot_o_6 P), (boot_o_7 P), (boot_o_8 P), (boot_o_9 P), (boot_o_10 P), (o_43 P), (o_44 P), (o_45 P), (o_46 P)] (.mk [] [] [] 0 [] [] .false #[] [] 0 .false .false .false 0 [2000, 10, 10] .false 0 .true [] [] 0 .false))
noncomputable def heap_239 (P : Params) : Heap := (.mk #[(boot_o_0 P), (boot_o_1 P), (o_100 P), (o_208 P), (boot_o_4 P), (boot_o_5 P), (boot_o_6 P), (boot_o_7 P), (boot_o_8 P), (boot_o_9 P), (boot_o_10 P), (o_43 P), (o_209 P), (o_45 P), (o_46 P), (o_51 P), (o_52 P), (o_53 P), (o_54 P), (o_55 P), (o_56 P), (o_57 P), (o_58 P), (o_59 P), (o_60 P), (o_61 P), (o_62 P), (o_63 P), (o_64 P), (o_65 P), (o_66 P), (o_67 P), (o_68 P), (o_69 P), (o_70 P), (o_71 P), (o_72 P), (o_73 P), (o_74 P), (o_75 P), (o_76 P), (o_77 P), (o_78 P), (o_79 P), (o_80 P), (o_81 P), (o_82 P), (o_83 P), (o_84 P), (o_85 P), (o_86 P), (o_87 P), (o_88 P), (o_89 P), (o_90 P), (o_91 P), (o_92 P), (o_93 P), (o_94 P), (o_95 P), (o_96 P), (o_97 P), (o_98 P), (o_99 P), (o_103 P), (o_104 P), (o_105 P), (o_106 P), (o_107 P), (o_108 P), (o_109 P), (o_110 P), (o_111 P), (o_118 P), (o_113 P), (o_114 P), (o_115 P), (o_119 P), (o_120 P), (o_121 P), (o_122 P), (o_123 P), (o_124 P), (o_125 P), (o_126 P), (o_127 P), (o_128 P), (o_129 P), (o_130 P), (o_131 P), (o_132 P), (o_133 P), (o_134 P), (o_135 P), (o_136 P), (o_137 P), (o_140 P), (o_141 P), (o_142 P), (o_143 P), (o_144 P), (o_145 P), (o_146 P), (o_147 P), (o_148 P), (o_149 P), (o_150 P), (o_151 P), (o_152 P), (o_153 P), (o_154 P), (o_155 P), (o_156 P), (o_157 P), (o_158 P), (o_159 P), (o_160 P), (o_161 P), (o_162 P), (o_163 P), (o_164 P), (o_165 P), (o_166 P), (o_167 P), (o_168 P), (o_169 P), (o_170 P), (o_171 P), (o_172 P), (o_173 P), (o_174 P), (o_175 P), (o_176 P), (o_177 P), (o_178 P), (o_179 P), (o_180 P), (o_181 P), (o_182 P), (o_183 P), (o_184 P), (o_185 P), (o_186 P), (o_187 P), (o_188 P), (o_189 P), (o_190 P), (o_191 P), (o_192 P), (o_193 P), (o_194 P), (o_195 P), (o_196 P), (o_197 P), (o_198 P), (o_199 P), (o_200 P), (o_201 P), (o_202 P), (o_203 P), (o_204 P), (o_205 P), (o_210 P), (o_211 P), (o_212 P), (o_213 P), (o_214 P), (o_215 P), (o_216 P), (o_217 P), (o_218 P), (o_219 P), (o_220 P), (o_221 P), (o_222 P), (o_223 P), (o_224 P), (o_225 P), (o_226 P), (o_227 P), (o_228 P), (o_229 P), (o_230 P), (o_231 P), (o_232 P), (o_233 P), (o_234 P), (o_235 P), (o_236 P), (o_237 P), (o_238 P)] (.mk [] [] [] 0 [] [] .false #[] [] 0 .false .false .false 0 [2000, 10, 10] .false 0 .true [] [] 0 .false))
noncomputable def KF (P : Params) : Frag := [(2, o_100 P), (3, o_208 P), (15, o_51 P), (17, o_53 P), (18, o_54 P), (20, o_56 P), (21, o_57 P), (29, o_65 P), (31, o_67 P), (32, o_68 P), (34, o_70 P), (35, o_71 P), (36, o_72 P), (38, o_74 P), (39, o_75 P), (41, o_77 P), (42, o_78 P), (43, o_79 P), (45, o_81 P), (46, o_82 P), (48, o_84 P), (49, o_85 P), (50, o_86 P), (52, o_88 P), (53, o_89 P), (55, o_91 P), (56, o_92 P), (57, o_93 P), (58, o_94 P), (59, o_95 P), (60, o_96 P), (61, o_97 P), (64, o_103 P), (71, o_110 P), (72, o_111 P), (73, o_118 P), (74, o_113 P), (77, o_119 P), (84, o_126 P), (85, o_127 P), (86, o_128 P), (89, o_131 P), (91, o_133 P), (92, o_134 P), (94, o_136 P), (95, o_137 P), (106, o_150 P), (108, o_152 P), (109, o_153 P), (111, o_155 P), (112, o_156 P), (113, o_157 P), (115, o_159 P), (116, o_160 P), (118, o_162 P), (119, o_163 P), (120, o_164 P), (122, o_166 P), (123, o_167 P), (125, o_169 P), (126, o_170 P), (127, o_171 P), (129, o_173 P), (130, o_174 P), (132, o_176 P), (133, o_177 P), (134, o_178 P), (136, o_180 P), (137, o_181 P), (139, o_183 P), (140, o_184 P), (141, o_185 P), (143, o_187 P), (144, o_188 P), (146, o_190 P), (147, o_191 P), (148, o_192 P), (150, o_194 P), (151, o_195 P), (153, o_197 P), (154, o_198 P), (155, o_199 P), (156, o_200 P), (157, o_201 P), (158, o_202 P), (159, o_203 P), (162, o_210 P), (164, o_212 P), (165, o_213 P), (167, o_215 P), (168, o_216 P), (169, o_217 P), (172, o_220 P), (173, o_221 P), (174, o_222 P), (176, o_224 P), (177, o_225 P), (179, o_227 P), (180, o_228 P), (181, o_229 P), (184, o_232 P), (185, o_233 P), (186, o_234 P), (189, o_237 P), (190, o_238 P)]
noncomputable def KA : List Addr := [2, 3, 15, 17, 18, 20, 21, 29, 31, 32, 34, 35, 36, 38, 39, 41, 42, 43, 45, 46, 48, 49, 50, 52, 53, 55, 56, 57, 58, 59, 60, 61, 64, 71, 72, 73, 74, 77, 84, 85, 86, 89, 91, 92, 94, 95, 106, 108, 109, 111, 112, 113, 115, 116, 118, 119, 120, 122, 123, 125, 126, 127, 129, 130, 132, 133, 134, 136, 137, 139, 140, 141, 143, 144, 146, 147, 148, 150, 151, 153, 154, 155, 156, 157, 158, 159, 162, 164, 165, 167, 168, 169, 172, 173, 174, 176, 177, 179, 180, 181, 184, 185, 186, 189, 190]
noncomputable abbrev pv : Program := Challenge.rw_rl0078_01.row.toRowW.1
noncomputable def hEnv : Env := { scope := pv.main.scope, locals := mainNs, globals := mainNs, cells := [], code := .ref 13, frame := some 14 }
noncomputable abbrev hCode : Code := .body (behindTheImports pv) hEnv
noncomputable abbrev hFr : List Frame := [topFrame ⟨0, 0, 0, 0⟩]
noncomputable def qv : Program := { pv with main := { pv.main with body := [stAt 0, stAt 2, stAt 4, stAt 5, stAt 6, stAt 8, stAt 10, stAt 11, stAt 12, stAt 13, stAt 14] } }
noncomputable abbrev sT (t : BT) (n k : Nat) (os : OsState) : SharedT := { tree := t, n := n, life := {}, gens := ⟨[]⟩, drawn := {}, toks := k, os := os }
noncomputable abbrev segT (w : World) (n : Nat) (s : SharedT) (l : List Stmt) (p : Pos) : Option (Flow × SharedT × Code × Pos) := segRunT treeTable pv w 11 (some (.ref 6)) 1 n s (piecesOf l hEnv hCode p hFr)
noncomputable def sts1 : List Stmt := [stAt 0, stAt 1, stAt 2, stAt 3]
noncomputable def sts2 : List Stmt := [stAt 4]
noncomputable def sts3 : List Stmt := [stAt 5, stAt 6, stAt 7]
noncomputable def sts4 : List Stmt := [stAt 8]
noncomputable def sts5 : List Stmt := [stAt 9, stAt 10, stAt 11, stAt 12, stAt 13, stAt 14]
noncomputable abbrev segQ (w : World) (n : Nat) (s : SharedT) (l : List Stmt) (p : Pos) : Option (Flow × SharedT × Code × Pos) := PySem.W.Fast.tw10110043849684766642 PySem.W.Fast.tw14364793385576792824 pv w 11 (some (.ref 6)) 1 n s (piecesOf l hEnv hCode p hFr)
theorem seg_fast (w : World) (n : Nat) (s : SharedT) (l : List Stmt) (p : Pos) : segT w n s l p = segQ w n s l p := by
  show segRunT treeTable pv w 11 (some (.ref 6)) 1 n s (piecesOf l hEnv hCode p hFr) = segQ w n s l p
  rw [PySem.W.Fast.te10110043849684766642, PySem.W.Fast.te14364793385576792824]
theorem hr_pre (w : World) (os : OsState) : topGo treeTable pv w 11 (some (.ref 6)) 12 { heap := boot_heap w.params, drawn := boot_drawn, toks := boot_toks, os := os } (topStub pv) =
    some ({ heap := heap_46 w.params, toks := 187, os := os }, { cur := denote treeTable hCode, code := hCode, pos := ⟨0, 0, 0, 0⟩, stack := hFr }) := by kernel_rfl
theorem hr_block (w : World) (os : OsState) : segRun treeTable pv w 11 (some (.ref 6)) 1 1 { heap := heap_46 w.params, toks := 187, os := os } (blockOf (behindTheImports pv) hEnv hCode ⟨0, 0, 0, 0⟩ hFr) =
    some (.next, (sT (tree_47 w.params) 15 187 os).abs, hCode, ⟨0, 0, 0, 0⟩) := by kernel_rfl
theorem hr_1 (w : World) (os : OsState) : segT w 371 (sT (tree_47 w.params) 15 187 os) sts1 ⟨0, 0, 0, 0⟩ = some (.next, sT (tree_99 w.params) 64 256 os, hCode, ⟨48, 0, 48, 8⟩) := (seg_fast _ _ _ _ _).trans (by kernel_rfl)
theorem hr_2 (w : World) (os : OsState) : segT w 197 (sT (tree_99 w.params) 64 256 os) sts2 ⟨48, 0, 48, 8⟩ = some (.next, sT (tree_115 w.params) 77 276 os, hCode, ⟨49, 0, 50, 8⟩) := (seg_fast _ _ _ _ _).trans (by kernel_rfl)
theorem hr_3 (w : World) (os : OsState) : segT w 256 (sT (tree_115 w.params) 77 276 os) sts3 ⟨49, 0, 50, 8⟩ = some (.next, sT (tree_137 w.params) 96 305 os, hCode, ⟨70, 0, 70, 8⟩) := (seg_fast _ _ _ _ _).trans (by kernel_rfl)
theorem hr_4f (w : World) (os : OsState) : segT (w.withFollow "special-get-raises" false) 493 (sT (tree_137 (w.withFollow "special-get-raises" false).params) 96 305 os) sts4 ⟨70, 0, 70, 8⟩ = some (.next, sT (tree_205 (w.withFollow "special-get-raises" false).params) 162 405 os, hCode, ⟨71, 0, 126, 16⟩) := (seg_fast _ _ _ _ _).trans (by kernel_rfl)
theorem hr_4t (w : World) (os : OsState) : segT (w.withFollow "special-get-raises" true) 493 (sT (tree_137 (w.withFollow "special-get-raises" true).params) 96 305 os) sts4 ⟨70, 0, 70, 8⟩ = some (.next, sT (tree_205 (w.withFollow "special-get-raises" true).params) 162 405 os, hCode, ⟨71, 0, 126, 16⟩) := (seg_fast _ _ _ _ _).trans (by kernel_rfl)
theorem hr_4 (w : World) (os : OsState) : segT w 493 (sT (tree_137 w.params) 96 305 os) sts4 ⟨70, 0, 70, 8⟩ = some (.next, sT (tree_205 w.params) 162 405 os, hCode, ⟨71, 0, 126, 16⟩) :=
  byRow2 "special-get-raises" (P := fun w => segT w 493 (sT (tree_137 w.params) 96 305 os) sts4 ⟨70, 0, 70, 8⟩ = some (.next, sT (tree_205 w.params) 162 405 os, hCode, ⟨71, 0, 126, 16⟩)) (fun w => hr_4f w os) (fun w => hr_4t w os) w
theorem hr_5 (w : World) (os : OsState) : segT w 152 (sT (tree_205 w.params) 162 405 os) sts5 ⟨71, 0, 126, 16⟩ = some (.next, sT (tree_238 w.params) 191 445 os, hCode, ⟨154, 0, 187, 124⟩) := (seg_fast _ _ _ _ _).trans (by kernel_rfl)
noncomputable abbrev hFin (w : World) (os : OsState) : Shared := { heap := heap_239 w.params, toks := 445, os := os }
theorem hr_fin (w : World) (os : OsState) : topRun treeTable pv w 11 (some (.ref 6)) 2 (sT (tree_238 w.params) 191 445 os).abs { cur := doneF .next, code := hCode, pos := ⟨154, 0, 187, 124⟩, stack := hFr } = some (hFin w os) := by kernel_rfl
theorem hr_beh : behindTheImports pv = sts1 ++ (sts2 ++ (sts3 ++ (sts4 ++ (sts5 ++ [])))) := by kernel_rfl
theorem hr_rest (w : World) (os : OsState) : topRun treeTable pv w 11 (some (.ref 6)) (371 + (197 + (256 + (493 + (152 + 2))))) (sT (tree_47 w.params) 15 187 os).abs (restOf (sts1 ++ (sts2 ++ (sts3 ++ (sts4 ++ (sts5 ++ []))))) hEnv hCode ⟨0, 0, 0, 0⟩ hFr) = some (hFin w os) :=
  piece_app (segRun_of (hr_1 w os)) (piece_app (segRun_of (hr_2 w os)) (piece_app (segRun_of (hr_3 w os)) (piece_app (segRun_of (hr_4 w os)) (piece_app (segRun_of (hr_5 w os)) (piece_nil (hr_fin w os))))))
theorem hr_run (w : World) (os : OsState) : topRun treeTable pv w 11 (some (.ref 6)) (12 + (1 + (371 + (197 + (256 + (493 + (152 + 2))))))) { heap := boot_heap w.params, drawn := boot_drawn, toks := boot_toks, os := os } (topStub pv) = some (hFin w os) :=
  go_top (hr_pre w os) (piece_block (hr_block w os) ((congrArg (fun l => topRun treeTable pv w 11 (some (.ref 6)) (371 + (197 + (256 + (493 + (152 + 2))))) (sT (tree_47 w.params) 15 187 os).abs (restOf l hEnv hCode ⟨0, 0, 0, 0⟩ hFr)) hr_beh).trans (hr_rest w os)))
noncomputable abbrev hK : Hook := kmHook KF KA (fun P => by kernel_rfl) [182, 163]
noncomputable abbrev hXt (s : Shared) : Bool := xlAt qv [] s && recOk Challenge.rw_rl0078_01.row.records s
noncomputable abbrev hLoose : List Str := [Str.ofString "Whitespace"]
theorem hl_0 (w : World) (os : OsState) : (staticsOk (importedModules pv.main.body) (boot_heap w.params) (heap_239 w.params) && namesBound pv (heap_239 w.params) && gensDone (hFin w os) && laidKept (boot_heap w.params) (heap_239 w.params)) = true := by kernel_rfl
theorem hl_1 (w : World) (os : OsState) : seen ((recsOf qv).map (·.name)) (ownsOf qv) [] { hFin w os with gens := #[] } = expectedOf qv := by kernel_rfl
theorem hl_2 (w : World) (os : OsState) : (hFin w os).heap.bltView = bltViewBooted := by kernel_rfl
theorem hl_3 (w : World) (os : OsState) : ((hFin w os).heap.keysOk (looseW qv hLoose) ((recsOf qv).map (·.name)) ((litsOf qv).map (·.1)) ((clssOf qv (looseW qv hLoose)).map (·.name)) && (hFin w os).heap.accountedOkI (importedModules pv.main.body) && (hFin w os).heap.isNs mainGlobals && (hFin w os).heap.isNs builtinsNs && tablesOk qv (hFin w os).heap && hXt (hFin w os) && (if true then (hFin w os).gens.size == 0 else !leftWithCleanup (hFin w os).gens)) = true := by kernel_rfl
theorem hl_4 (w : World) (os : OsState) : tabsOk qv (hFin w os) = true := by kernel_rfl
theorem hl_5 (w : World) (os : OsState) : pinSeenD qv (drecsOf qv) (hFin w os) = pinGoodD (drecsOf qv) := by kernel_rfl
theorem hl_6 (w : World) (os : OsState) : plainSeenE qv (looseW qv hLoose) (hFin w os) = plainGoodE qv (looseW qv hLoose) := by kernel_rfl
theorem hl_7 (w : World) (os : OsState) : plainSeenD qv hLoose (hFin w os) = plainGoodD qv hLoose := by kernel_rfl
theorem hl_8 (w : World) (os : OsState) : wideSeen qv (hFin w os) = wideGood qv := by kernel_rfl
theorem hl_9 (w : World) (os : OsState) : clsSeenW qv hLoose (hFin w os) = clsGoodW qv hLoose := by kernel_rfl
theorem hl_K (w : World) (os : OsState) : hK.obs (hFin w os) = hK.val w := by kernel_rfl
theorem h_left : LeftO pv qv hLoose hXt hK.obs hK.val 3054 :=
  LeftO.of_pieces (H₀ := boot_heap) (H₁ := heap_239) (gs₀ := ⟨[]⟩) (gs₁ := ⟨[]⟩) (d₀ := boot_drawn) (d₁ := {}) (k₀ := boot_toks) (k₁ := 445) (m₀ := 11) (ann := some (.ref 6))
    (boot_open (by kernel_rfl) (by decide) (fun s => by kernel_rfl)) (fun w => by kernel_rfl) hr_run (by decide)
    (fun w => funext fun os => looks_pair (hl_0 w os) (looks_pair (looks_pair (hl_1 w os) (looks_pair (hl_2 w os) (looks_pair (hl_3 w os) (looks_pair (hl_4 w os) (looks_pair (hl_5 w os) (looks_pair (hl_6 w os) (looks_pair (hl_7 w os) (looks_pair (hl_8 w os) (hl_9 w os))))))))) (hl_K w os)))
noncomputable def dLaw : DefRec := { name := Str.ofString "law", params := paramsOf (stAt 14), body := bodyOf (stAt 14), scope := scopeOf (stAt 14), pos := ⟨154, 0, 187, 124⟩ }
theorem h_said : Challenge.rw_rl0078_01.wellSaid = true := (congrFun PySem.W.Fast.te9446332074065402090 _).trans (by kernel_rfl)
theorem h_def : defOf qv Challenge.rw_rl0078_01.row.name = some (dLaw, []) := by kernel_rfl
theorem h_the : Challenge.rw_rl0078_01.row.prog.theDef Challenge.rw_rl0078_01.row.name = some (dLaw.params, dLaw.body, dLaw.scope) := by kernel_rfl
theorem h_kw : kwWritten? dLaw.params.kwonlyargs dLaw.params.kw_defaults = some [] := by kernel_rfl
theorem h_wr : (!Challenge.rw_rl0078_01.row.writes || Challenge.rw_rl0078_01.row.records.isEmpty) = true := by kernel_rfl
theorem h_ok : (chainsOk qv && opensWell Challenge.rw_rl0078_01.row.prog && (frees Challenge.rw_rl0078_01.row.toRowW && Challenge.rw_rl0078_01.row.within.isEmpty)) = true := by kernel_rfl
theorem h_whole : Challenge.rw_rl0078_01.row.prog.tablesWhole = true := by kernel_rfl
theorem h_pre : Challenge.rw_rl0078_01.row.claim.pre [WData.list []] = true := by kernel_rfl
theorem h_lay : (WData.layableAll [WData.list []] && Challenge.rw_rl0078_01.row.returnsAt [WData.list []]) = true := by kernel_rfl
theorem hd (h : WalkO qv hLoose (XL qv []) hK.says Challenge.rw_rl0078_01.row.toRowW dLaw [] fun f vs => PySem.call f vs) : Challenge.rw_rl0078_01.Holds :=
  holds_law h_said fun said => holds_open (q := qv) (loose := hLoose) (Xt := hXt) (XP := XL qv []) (Yf := hK.obs) (Ya := hK.val) (YP := hK.says) (N := 3054) h_left (Hook.of hK) (Hook.keeps hK)
    (fun s e => xl_of s (Bool.and_eq_true_iff.mp e).1) XL.keeps h_def h_the h_kw (fun s e => recFacts_of (Bool.and_eq_true_iff.mp e).2) h_wr said h_ok ⟨rfl, rfl, rfl, rfl, rfl, h_whole⟩ ⟨[WData.list []], h_pre, h_lay⟩ h
end Mine
end

section
namespace Mine
theorem ofS_inj (a b : String) : (Str.ofString a = Str.ofString b) = (a = b) := by
  rw [Str.ofString_eq_toList, Str.ofString_eq_toList]
  refine propext ⟨fun h => ?_, fun h => by rw [h]⟩
  have h1 : (a.toList.map Char.toNat) = (b.toList.map Char.toNat) := by simpa using congrArg (fun s : Str => s.cps.toList) h
  have h2 : a.toList = b.toList := by
    refine List.map_inj_right (f := Char.toNat) ?_ |>.mp h1
    intro x y e
    exact Char.toNat_inj.mp e
  exact String.toList_inj.mp h2

noncomputable def gtab : List (Str × Value) := [(Str.ofString "len", .builtin "len"), (Str.ofString "parse257", .ref 95), (Str.ofString "max", .builtin "max"), (Str.ofString "min", .builtin "min"), (Str.ofString "sum", .builtin "sum"), (Str.ofString "sorted", .builtin "sorted"), (Str.ofString "iter", .builtin "iter"),
  (Str.ofString "range", .type "range"), (Str.ofString "zip", .type "zip"), (Str.ofString "enumerate", .type "enumerate"), (Str.ofString "list", .type "list"), (Str.ofString "tuple", .type "tuple"),
  (Str.ofString "_netrclex", .ref 59), (Str.ofString "Whitespace", .ref 157), (Str.ofString "_law_lexer", .ref 168), (Str.ofString "_law_spelled", .ref 173), (Str.ofString "_law_columns", .ref 180), (Str.ofString "_law_links", .ref 185)]
noncomputable def G0 (w : World) (mg mb : Str → Option Value) (LM : Nat → Addr → Obj → Prop) : G := { prog := Challenge.pw_rl0078_01, w := w, K := KF w.params, mg := mg, mb := mb, LM := LM, gt := gtab }

theorem fn_parse (P : Params) : FnAt (KF P) 95 (bodyOf (stAt 6)) (scopeOf (stAt 6)) where
  at_ := ⟨.type "function", none, #[], by kernel_rfl⟩
  body := by kernel_rfl
  scope := by kernel_rfl
  globals := by kernel_rfl
  builtins := by kernel_rfl
  code := by kernel_rfl
  keep := by kernel_rfl
theorem fn_linit (P : Params) : FnAt (KF P) 35 (bodyOf (meAt 2 0)) (scopeOf (meAt 2 0)) where
  at_ := ⟨.type "function", none, #[], by kernel_rfl⟩
  body := by kernel_rfl
  scope := by kernel_rfl
  globals := by kernel_rfl
  builtins := by kernel_rfl
  code := by kernel_rfl
  keep := by kernel_rfl
theorem fn_read (P : Params) : FnAt (KF P) 42 (bodyOf (meAt 2 1)) (scopeOf (meAt 2 1)) where
  at_ := ⟨.type "function", none, #[], by kernel_rfl⟩
  body := by kernel_rfl
  scope := by kernel_rfl
  globals := by kernel_rfl
  builtins := by kernel_rfl
  code := by kernel_rfl
  keep := by kernel_rfl
theorem fn_get (P : Params) : FnAt (KF P) 49 (bodyOf (meAt 2 2)) (scopeOf (meAt 2 2)) where
  at_ := ⟨.type "function", none, #[], by kernel_rfl⟩
  body := by kernel_rfl
  scope := by kernel_rfl
  globals := by kernel_rfl
  builtins := by kernel_rfl
  code := by kernel_rfl
  keep := by kernel_rfl
theorem fn_push (P : Params) : FnAt (KF P) 56 (bodyOf (meAt 2 3)) (scopeOf (meAt 2 3)) where
  at_ := ⟨.type "function", none, #[], by kernel_rfl⟩
  body := by kernel_rfl
  scope := by kernel_rfl
  globals := by kernel_rfl
  builtins := by kernel_rfl
  code := by kernel_rfl
  keep := by kernel_rfl
theorem fn_winit (P : Params) : FnAt (KF P) 112 (bodyOf (meAt 8 1)) (scopeOf (meAt 8 1)) where
  at_ := ⟨.type "function", none, #[], by kernel_rfl⟩
  body := by kernel_rfl
  scope := by kernel_rfl
  globals := by kernel_rfl
  builtins := by kernel_rfl
  code := by kernel_rfl
  keep := by kernel_rfl
theorem fn_wlong (P : Params) : FnAt (KF P) 119 (bodyOf (meAt 8 2)) (scopeOf (meAt 8 2)) where
  at_ := ⟨.type "function", none, #[], by kernel_rfl⟩
  body := by kernel_rfl
  scope := by kernel_rfl
  globals := by kernel_rfl
  builtins := by kernel_rfl
  code := by kernel_rfl
  keep := by kernel_rfl
theorem fn_windent (P : Params) : FnAt (KF P) 126 (bodyOf (meAt 8 3)) (scopeOf (meAt 8 3)) where
  at_ := ⟨.type "function", none, #[], by kernel_rfl⟩
  body := by kernel_rfl
  scope := by kernel_rfl
  globals := by kernel_rfl
  builtins := by kernel_rfl
  code := by kernel_rfl
  keep := by kernel_rfl
theorem fn_wless (P : Params) : FnAt (KF P) 147 (bodyOf (meAt 8 6)) (scopeOf (meAt 8 6)) where
  at_ := ⟨.type "function", none, #[], by kernel_rfl⟩
  body := by kernel_rfl
  scope := by kernel_rfl
  globals := by kernel_rfl
  builtins := by kernel_rfl
  code := by kernel_rfl
  keep := by kernel_rfl
theorem fn_lexer (P : Params) : FnAtC (KF P) 168 (bodyOf (stAt 10)) (scopeOf (stAt 10)) 167 (Str.ofString "_law_lexer" ++ ".<locals>.") where
  at_ := ⟨.type "function", none, #[], by kernel_rfl⟩
  body := by kernel_rfl
  scope := by kernel_rfl
  globals := by kernel_rfl
  builtins := by kernel_rfl
  code := by kernel_rfl
  keep := by kernel_rfl
  clos := by kernel_rfl
  cd_ := by kernel_rfl
  ql := by kernel_rfl
theorem fn_spelled (P : Params) : FnAt (KF P) 173 (bodyOf (stAt 11)) (scopeOf (stAt 11)) where
  at_ := ⟨.type "function", none, #[], by kernel_rfl⟩
  body := by kernel_rfl
  scope := by kernel_rfl
  globals := by kernel_rfl
  builtins := by kernel_rfl
  code := by kernel_rfl
  keep := by kernel_rfl
theorem fn_columns (P : Params) : FnAt (KF P) 180 (bodyOf (stAt 12)) (scopeOf (stAt 12)) where
  at_ := ⟨.type "function", none, #[], by kernel_rfl⟩
  body := by kernel_rfl
  scope := by kernel_rfl
  globals := by kernel_rfl
  builtins := by kernel_rfl
  code := by kernel_rfl
  keep := by kernel_rfl
theorem fn_links (P : Params) : FnAtC (KF P) 185 (bodyOf (stAt 13)) (scopeOf (stAt 13)) 184 (Str.ofString "_law_links" ++ ".<locals>.") where
  at_ := ⟨.type "function", none, #[], by kernel_rfl⟩
  body := by kernel_rfl
  scope := by kernel_rfl
  globals := by kernel_rfl
  builtins := by kernel_rfl
  code := by kernel_rfl
  keep := by kernel_rfl
  clos := by kernel_rfl
  cd_ := by kernel_rfl
  ql := by kernel_rfl
theorem bd_parse (P : Params) (v : Value) : bindArgs (fdAt (KF P) 95) ⟨[v], []⟩ = pure [(Str.ofString "resp", v)] := by kernel_rfl
theorem bd_linit (P : Params) (v u : Value) : bindArgs (fdAt (KF P) 35) ⟨[v, u], []⟩ = pure [(Str.ofString "self", v), (Str.ofString "fp", u)] := by kernel_rfl
theorem bd_read (P : Params) (v : Value) : bindArgs (fdAt (KF P) 42) ⟨[v], []⟩ = pure [(Str.ofString "self", v)] := by kernel_rfl
theorem bd_get (P : Params) (v : Value) : bindArgs (fdAt (KF P) 49) ⟨[v], []⟩ = pure [(Str.ofString "self", v)] := by kernel_rfl
theorem bd_push (P : Params) (v u : Value) : bindArgs (fdAt (KF P) 56) ⟨[v, u], []⟩ = pure [(Str.ofString "self", v), (Str.ofString "token", u)] := by kernel_rfl
theorem bd_winit (P : Params) (v u : Value) : bindArgs (fdAt (KF P) 112) ⟨[v, u], []⟩ = pure [(Str.ofString "self", v), (Str.ofString "ws", u)] := by kernel_rfl
theorem bd_wlong (P : Params) (v : Value) : bindArgs (fdAt (KF P) 119) ⟨[v], []⟩ = pure [(Str.ofString "self", v)] := by kernel_rfl
theorem bd_windent (P : Params) (v u : Value) : bindArgs (fdAt (KF P) 126) ⟨[v, u], []⟩ = pure [(Str.ofString "self", v), (Str.ofString "tabsize", u)] := by kernel_rfl
theorem bd_wless (P : Params) (v u : Value) : bindArgs (fdAt (KF P) 147) ⟨[v, u], []⟩ = pure [(Str.ofString "self", v), (Str.ofString "other", u)] := by kernel_rfl
theorem bd_lexer (P : Params) (v : Value) : bindArgs (fdAt (KF P) 168) ⟨[v], []⟩ = pure [(Str.ofString "text", v)] := by kernel_rfl
theorem bd_spelled (P : Params) (v u : Value) : bindArgs (fdAt (KF P) 173) ⟨[v, u], []⟩ = pure [(Str.ofString "word", v), (Str.ofString "form", u)] := by kernel_rfl
theorem bd_columns (P : Params) (v : Value) : bindArgs (fdAt (KF P) 180) ⟨[v], []⟩ = pure [(Str.ofString "lead", v)] := by kernel_rfl
theorem bd_links (P : Params) (v : Value) : bindArgs (fdAt (KF P) 185) ⟨[v], []⟩ = pure [(Str.ofString "rows", v)] := by kernel_rfl

theorem cs1 : Str.ofString "257" = ⟨([50, 53, 55] : List Nat).toArray⟩ := by decide +kernel
theorem cs2 : Str.ofString " \"" = ⟨([32, 34] : List Nat).toArray⟩ := by decide +kernel
theorem cs3 : Str.ofString "\"" = ⟨([34] : List Nat).toArray⟩ := by decide +kernel
theorem cs4 : Str.ofString "" = ⟨([] : List Nat).toArray⟩ := by decide +kernel
theorem cs5 : Str.ofString "\n\t\r " = ⟨([10, 9, 13, 32] : List Nat).toArray⟩ := by decide +kernel
theorem cs6 : Str.ofString "\n" = ⟨([10] : List Nat).toArray⟩ := by decide +kernel
theorem cs7 : Str.ofString "\\" = ⟨([92] : List Nat).toArray⟩ := by decide +kernel
theorem cs8 : Str.ofString " " = ⟨([32] : List Nat).toArray⟩ := by decide +kernel
theorem cs9 : Str.ofString "\t" = ⟨([9] : List Nat).toArray⟩ := by decide +kernel
theorem cs10 : Str.ofString "abcde\"" = ⟨([97, 98, 99, 100, 101, 34] : List Nat).toArray⟩ := by decide +kernel
theorem cs11 : Str.ofString "\"\\" = ⟨([34, 92] : List Nat).toArray⟩ := by decide +kernel
theorem cs12 : Str.ofString "\n \r\t\n" = ⟨([10, 32, 13, 9, 10] : List Nat).toArray⟩ := by decide +kernel
theorem cs13 : Str.ofString "abcde" = ⟨([97, 98, 99, 100, 101] : List Nat).toArray⟩ := by decide +kernel
theorem cs14 : Str.ofString "257 \"" = ⟨([50, 53, 55, 32, 34] : List Nat).toArray⟩ := by decide +kernel
theorem cs15 : Str.ofString "z" = ⟨([122] : List Nat).toArray⟩ := by decide +kernel
end Mine
end

section
namespace Mine
section
variable {g : G} {c : Cx} {σ : List AO} {lc : Lc} {d : Nat}
theorem iadd_int {a b : Int} {k : AV → List AO → Prop} (h : k (.int (a + b)) σ) : WV2 g d σ lc (.int a) (.int b) (inplaceOp .Add) VR k := by
  rintro A base L as s _ _ Rm T S ⟨t, rfl⟩ ⟨u, rfl⟩
  exact Tri.here h S ⟨_, rfl⟩ fun Q E q => P.iadd_int (q _)
theorem we_and3 {x y z : Expr} {pos : Pos} {k : AV → List AO → Prop} (h : WE g c σ lc x fun a σ₁ => WTru g c.d σ₁ lc a fun b σ₂ => if b then WE g c σ₂ lc y fun a σ₃ => WTru g c.d σ₃ lc a fun b σ₄ => if b then WE g c σ₄ lc z k else k a σ₄ else k a σ₂) : WE g c σ lc (.BoolOp .And [x, y, z] pos) k :=
  fun A env base L as s Rm Re T S Q E q => by
    show wpAny (MM g) A (do
      let v ← eval x env
      standAt pos
      let t ← holding [v] (truthy v)
      match BoolOp.And, t with
      | .And, false | .Or, true => pure v
      | _, _ => eval (.BoolOp .And [y, z] pos) env) Q E s
    refine wpAny_bind (h A env base L as s Rm Re T S _ E fun h₁ tk₁ bs a a' σ₁ hk S₁ ra => wpAny_bind (wpAny_standAt (wpAny_bind (wpAny_holding (hk A base L (as ++ bs) _ a' Rm T S₁ ra _ E fun h₂ tk₂ cs b b' σ₂ hk₂ S₂ rb => ?_)))))
    have q₂ := Tri.next (s := { s with heap := h₁, toks := tk₁ }) (as := as ++ bs) (bs := cs) (h' := h₂) (tk := tk₂) (Tri.next (s := s) (bs := bs) (h' := h₁) (tk := tk₁) q)
    cases rb
    cases b with
    | false => exact wpAny_pure (Tri.next (s := s) (bs := bs) (h' := h₁) (tk := tk₁) q h₂ tk₂ cs a a' σ₂ hk₂ S₂ ra.mono)
    | true => exact we_and2 (show WE g c σ₂ lc y _ from hk₂) A env base L (as ++ bs ++ cs) _ Rm Re.mono.mono T S₂ Q E q₂
theorem call_len_tuple {l : Nat} {xs : List AV} {k : AV → List AO → Prop} (ho : σ[l]? = some (.tuple xs)) (hz : xs.length ≤ sizeLine) (h : k (.int xs.length) σ) : WCall g d σ lc (.top (.builtin "len")) [.ref l] k := by
  rintro A base L as s _ _ Rm T S rfl ra
  cases ra with
  | cons r1 ra =>
    cases ra
    obtain ⟨a, ea, rfl⟩ := r1
    obtain ⟨vs, q, it, hlen⟩ := tup_is S ea ho
    refine Tri.here (x := .int xs.length) (b := .int xs.length (s.toks + 1)) h S (show VR as (.int xs.length) _ from ⟨s.toks + 1, rfl⟩) fun Q E q => ?_
    exact PyProof.Rows.len_tuple it (by rw [hlen]; have : xs.length ≤ 2 ^ 24 := hz; omega) (by rw [hlen]; exact q _)
theorem sub_tuple {value slice : Expr} {l : Nat} {xs : List AV} {i : Int} {x : AV} {k : AV → List AO → Prop} (ho : σ[l]? = some (.tuple xs)) (h0 : 0 ≤ i) (hi : i < 2 ^ 63) (hx : xs[i.toNat]? = some x) (h : k x σ)
    (hs : ∀ o i, subscripted slice false o i = operate [o, i] (getItem o i)) : WV2 g d σ lc (.ref l) (.int i) (subscriptTail value slice) VR k := by
  rintro A base L as s _ _ Rm T S ⟨a, ea, rfl⟩ ⟨t, rfl⟩
  obtain ⟨vs, q, it, hlen⟩ := tup_is S ea ho
  obtain ⟨v, ev, rv⟩ := q.get hx
  have hl : i.toNat < vs.size := by
    rcases Nat.lt_or_ge i.toNat vs.size with z | z
    · exact z
    · rw [List.getElem?_eq_none (by simpa using z)] at ev; cases ev
  have hj : seqIndex? i vs.size = some i.toNat := by
    unfold seqIndex?
    have h1 : ¬ i < 0 := by omega
    have h2 : 0 ≤ i ∧ i < (vs.size : Int) := ⟨h0, by omega⟩
    simp [h1, h2]
  exact Tri.here h S rv fun Q E q' => tail_any it.typeIs slot_tuple_getitem.lookup (getItem_tuple it (by omega) hi hj (by simpa using ev) (q' s.toks)) (hs _ _)
theorem we_neg {e : Expr} {pos : Pos} {k : AV → List AO → Prop} (h : WE g c σ lc e fun v σ₁ => ∃ a, v = .int a ∧ k (.int (-a)) σ₁) : WE g c σ lc (.UnaryOp .USub e pos) k :=
  fun A env base L as s Rm Re T S Q E q => wpAny_UnaryOp (h A env base L as s Rm Re T S _ E fun h₁ tk₁ bs v v' σ₁ hk S₁ rv => by
    obtain ⟨a, rfl, hk⟩ := hk
    obtain ⟨t, rfl⟩ := rv
    exact PyProof.Rows.neg_int (q h₁ _ bs (.int (-a)) _ σ₁ hk S₁ ⟨_, rfl⟩))
theorem sub_lsl {value slice : Expr} {l sl : Nat} {xs ys : List AV} {lo hi st : Option Int} {k : AV → List AO → Prop} (ho : σ[l]? = some (.list xs)) (hs : σ[sl]? = some (.raw (sliceO lo hi st))) (h0 : st ≠ some 0) (hz : xs.length ≤ sizeLine)
    (hp : ∀ as (vs : Array Value), VRs as xs vs.toList → VRs as ys (slicePick vs lo hi st).toList) (h : k (.ref σ.length) (σ ++ [.list ys])) (he : ∀ a b, subscripted slice false (.ref a) (.ref b) = operate [.ref a, .ref b] (getItem (.ref a) (.ref b))) :
    WV2 g d σ lc (.ref l) (.ref sl) (subscriptTail value slice) VR k := by
  rintro A base L as s _ _ Rm T S ⟨a, ea, rfl⟩ ⟨b, eb, rfl⟩
  obtain ⟨vs, n, hg, r, il, hlen⟩ := list_is S ea ho
  obtain ⟨o, hg', vl, vu, vk, pl, pu, pk, rfl⟩ := S.at_ eb hs
  refine list_grown (us := slicePick vs lo hi st) h S (hp as vs r) fun Q E q => ?_
  exact tail_any (Heap.IsList.typeIs (s := s) il) slot_list_getitem.lookup (wpAny_getItem_list_slice il ⟨_, hg', rfl, rfl⟩ pl pu pk h0 (q _) (by rw [hlen]; exact hz)) (he a b)
end
theorem fo_line (P : Params) : FieldOk (KF P) 59 (Str.ofString "lineno") := ⟨by kernel_rfl, by kernel_rfl, by kernel_rfl⟩
theorem fo_instream (P : Params) : FieldOk (KF P) 59 (Str.ofString "instream") := ⟨by kernel_rfl, by kernel_rfl, by kernel_rfl⟩
theorem fo_whitespace (P : Params) : FieldOk (KF P) 59 (Str.ofString "whitespace") := ⟨by kernel_rfl, by kernel_rfl, by kernel_rfl⟩
theorem fo_pushback (P : Params) : FieldOk (KF P) 59 (Str.ofString "pushback") := ⟨by kernel_rfl, by kernel_rfl, by kernel_rfl⟩
theorem fo_read (P : Params) : FieldOk (KF P) 59 (Str.ofString "read") := ⟨by kernel_rfl, by kernel_rfl, by kernel_rfl⟩
theorem fo_raw (P : Params) : FieldOk (KF P) 157 (Str.ofString "raw") := ⟨by kernel_rfl, by kernel_rfl, by kernel_rfl⟩
theorem fo_n (P : Params) : FieldOk (KF P) 157 (Str.ofString "n") := ⟨by kernel_rfl, by kernel_rfl, by kernel_rfl⟩
theorem fo_nt (P : Params) : FieldOk (KF P) 157 (Str.ofString "nt") := ⟨by kernel_rfl, by kernel_rfl, by kernel_rfl⟩
theorem fo_norm (P : Params) : FieldOk (KF P) 157 (Str.ofString "norm") := ⟨by kernel_rfl, by kernel_rfl, by kernel_rfl⟩
theorem fo_simple (P : Params) : FieldOk (KF P) 157 (Str.ofString "is_simple") := ⟨by kernel_rfl, by kernel_rfl, by kernel_rfl⟩
theorem so_59 (P : Params) (name : Str) (h : takerIn (KF P) 59 name = some none) : StoreOk (KF P) 59 name := ⟨by kernel_rfl, by kernel_rfl, h, by kernel_rfl⟩
theorem so_157 (P : Params) (name : Str) (h : takerIn (KF P) 157 name = some none) : StoreOk (KF P) 157 name := ⟨by kernel_rfl, by kernel_rfl, h, by kernel_rfl⟩
theorem mo_read (P : Params) : MethOk (KF P) 59 (Str.ofString "_read_char") 42 := ⟨by kernel_rfl, by kernel_rfl, by kernel_rfl, by kernel_rfl, by kernel_rfl, by kernel_rfl, by kernel_rfl⟩
theorem mo_get (P : Params) : MethOk (KF P) 59 (Str.ofString "get_token") 49 := ⟨by kernel_rfl, by kernel_rfl, by kernel_rfl, by kernel_rfl, by kernel_rfl, by kernel_rfl, by kernel_rfl⟩
theorem mo_push (P : Params) : MethOk (KF P) 59 (Str.ofString "push_token") 56 := ⟨by kernel_rfl, by kernel_rfl, by kernel_rfl, by kernel_rfl, by kernel_rfl, by kernel_rfl, by kernel_rfl⟩
theorem mo_long (P : Params) : MethOk (KF P) 157 (Str.ofString "longest_run_of_spaces") 119 := ⟨by kernel_rfl, by kernel_rfl, by kernel_rfl, by kernel_rfl, by kernel_rfl, by kernel_rfl, by kernel_rfl⟩
theorem mo_indent (P : Params) : MethOk (KF P) 157 (Str.ofString "indent_level") 126 := ⟨by kernel_rfl, by kernel_rfl, by kernel_rfl, by kernel_rfl, by kernel_rfl, by kernel_rfl, by kernel_rfl⟩
theorem mo_less (P : Params) : MethOk (KF P) 157 (Str.ofString "less") 147 := ⟨by kernel_rfl, by kernel_rfl, by kernel_rfl, by kernel_rfl, by kernel_rfl, by kernel_rfl, by kernel_rfl⟩
theorem mk_59 (P : Params) : makesIn (KF P) 59 = true ∧ findIn (KF P) (.ref 59) "__init__" = some (some (.ref 35)) ∧ isFn (KF P) (.ref 35) = true ∧ keepIn (KF P) (.ref 59) = true := ⟨by kernel_rfl, by kernel_rfl, by kernel_rfl, by kernel_rfl⟩
theorem mk_157 (P : Params) : makesIn (KF P) 157 = true ∧ findIn (KF P) (.ref 157) "__init__" = some (some (.ref 112)) ∧ isFn (KF P) (.ref 112) = true ∧ keepIn (KF P) (.ref 157) = true := ⟨by kernel_rfl, by kernel_rfl, by kernel_rfl, by kernel_rfl⟩
noncomputable def isFound (x : Str) : Option CFound → Bool
  | some (.val (.str s _)) => s == x
  | _ => false
theorem found_of {x : Str} {r : Option CFound} (h : isFound x r = true) : ∃ t, r = some (.val (.str x t)) := by
  unfold isFound at h
  split at h
  · rename_i s t
    have : s = x := beq_iff_eq.mp h
    subst this
    exact ⟨_, rfl⟩
  · cases h
theorem ca_S (P : Params) : ∃ t, findCls (KF P) (.ref 157) (.type "type") (Str.ofString "S") = some (.val (.str (Str.ofString " ") t)) := found_of (by kernel_rfl)
theorem ca_T (P : Params) : ∃ t, findCls (KF P) (.ref 157) (.type "type") (Str.ofString "T") = some (.val (.str (Str.ofString "\t") t)) := found_of (by kernel_rfl)
theorem ca_reads (P : Params) : readsIn (KF P) 157 (.type "type") = true := by kernel_rfl
section
variable {w : World} {mg mb : Str → Option Value} {LM : Nat → Addr → Obj → Prop}
theorem gg_0 : getG (Str.ofString "len") (G0 w mg mb LM).gt = some (.builtin "len") := by kernel_rfl
theorem gg_1 : getG (Str.ofString "parse257") (G0 w mg mb LM).gt = some (.ref 95) := by kernel_rfl
theorem gg_2 : getG (Str.ofString "max") (G0 w mg mb LM).gt = some (.builtin "max") := by kernel_rfl
theorem gg_3 : getG (Str.ofString "min") (G0 w mg mb LM).gt = some (.builtin "min") := by kernel_rfl
theorem gg_4 : getG (Str.ofString "sum") (G0 w mg mb LM).gt = some (.builtin "sum") := by kernel_rfl
theorem gg_5 : getG (Str.ofString "sorted") (G0 w mg mb LM).gt = some (.builtin "sorted") := by kernel_rfl
theorem gg_6 : getG (Str.ofString "iter") (G0 w mg mb LM).gt = some (.builtin "iter") := by kernel_rfl
theorem gg_7 : getG (Str.ofString "range") (G0 w mg mb LM).gt = some (.type "range") := by kernel_rfl
theorem gg_8 : getG (Str.ofString "zip") (G0 w mg mb LM).gt = some (.type "zip") := by kernel_rfl
theorem gg_9 : getG (Str.ofString "enumerate") (G0 w mg mb LM).gt = some (.type "enumerate") := by kernel_rfl
theorem gg_10 : getG (Str.ofString "list") (G0 w mg mb LM).gt = some (.type "list") := by kernel_rfl
theorem gg_11 : getG (Str.ofString "tuple") (G0 w mg mb LM).gt = some (.type "tuple") := by kernel_rfl
theorem gg_12 : getG (Str.ofString "_netrclex") (G0 w mg mb LM).gt = some (.ref 59) := by kernel_rfl
theorem gg_13 : getG (Str.ofString "Whitespace") (G0 w mg mb LM).gt = some (.ref 157) := by kernel_rfl
theorem gg_14 : getG (Str.ofString "_law_lexer") (G0 w mg mb LM).gt = some (.ref 168) := by kernel_rfl
theorem gg_15 : getG (Str.ofString "_law_spelled") (G0 w mg mb LM).gt = some (.ref 173) := by kernel_rfl
theorem gg_16 : getG (Str.ofString "_law_columns") (G0 w mg mb LM).gt = some (.ref 180) := by kernel_rfl
theorem gg_17 : getG (Str.ofString "_law_links") (G0 w mg mb LM).gt = some (.ref 185) := by kernel_rfl
end
end Mine
end

section
namespace Mine
local macro_rules | `(tactic| walk_at "gv") => `(tactic| (simp only [getV, putV, ofS_inj, String.reduceEq, if_false, if_true]; try rfl))
local macro_rules | `(tactic| walk_at "gc") => `(tactic| (simp only [getC, cellsAt, List.map, ofS_inj, String.reduceEq, if_false, if_true]; try rfl))
local macro_rules | `(tactic| walk_at "e") => `(tactic| (with_reducible first
  | refine wss_nil ?_
  | refine wss_cons ?_
  | refine ws_assign (fun _ => rfl) ?_
  | refine ws_setattr (fun _ => rfl) ?_
  | refine ws_augattr ?_
  | refine ws_if ?_
  | refine ws_ret ?_
  | refine ws_break ?_
  | refine ws_cont ?_
  | refine ws_expr rfl (fun _ => rfl) ?_
  | refine wn_loc' (by kernel_rfl) (by walk_at "gv") ?_
  | refine wb_cmp rfl ?_
  | refine wb_or2 ?_
  | refine wb_and2 ?_
  | refine wb_not ?_
  | refine we_int ?_
  | refine we_none ?_
  | refine we_bool ?_
  | refine we_str _ (by first | exact cs1 | exact cs2 | exact cs3 | exact cs4 | exact cs5 | exact cs6 | exact cs7 | exact cs8 | exact cs9 | exact cs10 | exact cs11 | exact cs12 | exact cs13 | exact cs14 | exact cs15) ?_
  | refine we_glob (by kernel_rfl) (by (simp only [gg_0, gg_1, gg_2, gg_3, gg_4, gg_5, gg_6, gg_7, gg_8, gg_9, gg_10, gg_11, gg_12, gg_13, gg_14, gg_15, gg_16, gg_17]; try rfl)) ?_ (by decide +kernel)
  | refine we_loc (by kernel_rfl) (by walk_at "gv") ?_ (by decide +kernel)
  | refine we_bin ?_
  | refine we_cmp rfl ?_
  | refine we_if ?_
  | refine we_and2 ?_
  | refine we_and3 ?_
  | refine we_slice (fun _ _ => rfl) ?_
  | refine we_sub ?_
  | refine we_attr (fun _ => rfl) ?_
  | refine we_list ?_
  | refine we_tuple ?_
  | refine we_meth (fun _ => rfl) (fun _ => rfl) (fun _ => .inl rfl) ?_
  | refine we_meth (fun _ => rfl) (fun _ => rfl) (fun _ => .inr ⟨_, _, rfl⟩) ?_
  | refine we_call0 (fun _ => rfl) ?_
  | refine we_call (fun _ => rfl) (fun _ => rfl) (fun _ => rfl) ?_
  | refine wes_nil ?_
  | refine wes_cons (fun _ => rfl) ?_
  | refine bin_add_int ?_
  | refine bin_sub_int ?_
  | refine iadd_int ?_
  | refine cmp_ne_str ?_
  | refine cmp_eq_str ?_
  | refine cmp_lt_int ?_
  | refine cmp_ge_int ?_
  | refine cmp_le_int ?_
  | refine cmp_gt_int ?_
  | refine cmp_eq_int ?_
  | refine cmp_in_str ?_
  | refine tru_bool ?_
  | refine seq_next ?_
  | refine seq_brk ?_
  | refine seq_cont ?_
  | refine seq_ret ?_
  | refine loop_brk ?_
  | refine loop_ret ?_
  | refine for_next ?_
  | refine for_cont ?_
  | refine for_brk ?_
  | refine for_ret ?_
  | refine end_ret ?_
  | refine end_next ?_
  | refine ite_yes ?_
  | refine ite_no ?_
  | refine weo_none ?_
  | refine weo_some ?_
  ))

section
variable {w : World} {mg mb : Str → Option Value} {LM : Nat → Addr → Obj → Prop} {σ : List AO} {lc : Lc} {d : Nat}
noncomputable def lamOf (q : Str) : Stmt → FnI
  | .Assign _ (.Lambda a b s _) _ => ⟨q, a, b, s⟩
  | _ => ⟨q, default, .Constant .none 0 default, default⟩
noncomputable def lamI : FnI := lamOf (Str.ofString "_law_lexer" ++ ".<locals>." ++ "<lambda>") ((bodyOf (stAt 10)).getD 2 (.Pass default))
structure Lx where
  obj : Nat
  dct : Nat
  pb : Nat
  src : Nat
  sdct : Nat
  lam : Nat
  code : Nat
  cell : Nat
  tape : Nat
noncomputable abbrev wsL : List Nat := [10, 9, 13, 32]
noncomputable abbrev ldct (line : Int) (src pb : Nat) : Lc := [(Str.ofString "lineno", .int line), (Str.ofString "instream", .ref src), (Str.ofString "whitespace", .str wsL), (Str.ofString "pushback", .ref pb)]
noncomputable abbrev sdctL (pb0 lam : Nat) : Lc := [(Str.ofString "lineno", .int 1), (Str.ofString "instream", .none), (Str.ofString "whitespace", .str wsL), (Str.ofString "pushback", .ref pb0), (Str.ofString "read", .ref lam)]
noncomputable abbrev tapeL (rest : List Nat) : List AV := strL (rest.reverse.map fun ch => [ch])
structure LexAt (σ : List AO) (x : Lx) (rest : List Nat) (line : Int) (pb : List (List Nat)) : Prop where
  obj : σ[x.obj]? = some (.inst 59 x.dct)
  dct : σ[x.dct]? = some (.dict (ldct line x.src x.pb))
  pbk : σ[x.pb]? = some (.list (strL pb))
  src : σ[x.src]? = some (.inst 59 x.sdct)
  sdct : ∃ pb0, σ[x.sdct]? = some (.dict (sdctL pb0 x.lam))
  lam : σ[x.lam]? = some (.fn lamI [(Str.ofString "tape", x.cell)] x.code)
  code : σ[x.code]? = some (.code lamI.qual)
  cell : σ[x.cell]? = some (.cell (some (.ref x.tape)))
  tape : σ[x.tape]? = some (.list (tapeL rest))
  ne : x.pb ≠ x.tape
  nd : x.sdct ≠ x.dct
  len : rest.length ≤ 10000
noncomputable def KeptL (x : Lx) (σ σ' : List AO) : Prop := ∀ l ao, σ[l]? = some ao → l ≠ x.dct → l ≠ x.pb → l ≠ x.tape → σ'[l]? = some ao
theorem KeptL.refl {x : Lx} {σ : List AO} : KeptL x σ σ := fun _ _ e _ _ _ => e
theorem KeptL.trans {x : Lx} {σ σ' σ'' : List AO} (h : KeptL x σ σ') (h' : KeptL x σ' σ'') : KeptL x σ σ'' := fun l ao e a b c => h' l ao (h l ao e a b c) a b c
theorem set_other {σ : List AO} {i j : Nat} {a b : AO} (h : i ≠ j) (e : σ[j]? = some b) : (σ.set i a)[j]? = some b := by rw [List.getElem?_set_ne h]; exact e
theorem set_self {σ : List AO} {i : Nat} {a b : AO} (e : σ[i]? = some b) : (σ.set i a)[i]? = some a := by
  rw [List.getElem?_set_self]
  rcases Nat.lt_or_ge i σ.length with q | q
  · exact q
  · rw [List.getElem?_eq_none q] at e; cases e
theorem ne_of_ao {σ : List AO} {i j : Nat} {a b : AO} (e : σ[i]? = some a) (e' : σ[j]? = some b) (h : a ≠ b) : i ≠ j := fun z => h (by rw [z, e'] at e; exact (Option.some.inj e).symm)
theorem KeptL.setTape {x : Lx} {σ : List AO} {a : AO} : KeptL x σ (σ.set x.tape a) := fun _ _ e _ _ c => set_other (Ne.symm c) e
theorem KeptL.setDct {x : Lx} {σ : List AO} {a : AO} : KeptL x σ (σ.set x.dct a) := fun _ _ e a _ _ => set_other (Ne.symm a) e
theorem KeptL.setPb {x : Lx} {σ : List AO} {a : AO} : KeptL x σ (σ.set x.pb a) := fun _ _ e _ b _ => set_other (Ne.symm b) e
theorem KeptL.app {x : Lx} {σ τ : List AO} : KeptL x σ (σ ++ τ) := fun _ _ e _ _ _ => by
  rw [List.getElem?_append_left]
  · exact e
  · rcases Nat.lt_or_ge _ σ.length with q | q
    · exact q
    · rw [List.getElem?_eq_none q] at e; cases e
namespace LexAt
variable {x : Lx} {rest : List Nat} {line : Int} {pb : List (List Nat)} {σ' : List AO}
theorem nTD (h : LexAt σ x rest line pb) : x.tape ≠ x.dct := ne_of_ao h.tape h.dct (by simp)
theorem nPD (h : LexAt σ x rest line pb) : x.pb ≠ x.dct := ne_of_ao h.pbk h.dct (by simp)
theorem keep (h : LexAt σ x rest line pb) {rest' : List Nat} {line' : Int} {pb' : List (List Nat)} (k : KeptL x σ σ') (hd : σ'[x.dct]? = some (.dict (ldct line' x.src x.pb))) (hp : σ'[x.pb]? = some (.list (strL pb'))) (ht : σ'[x.tape]? = some (.list (tapeL rest'))) (hl : rest'.length ≤ 10000) : LexAt σ' x rest' line' pb' where
  obj := k _ _ h.obj (ne_of_ao h.obj h.dct (by simp)) (ne_of_ao h.obj h.pbk (by simp)) (ne_of_ao h.obj h.tape (by simp))
  dct := hd
  pbk := hp
  src := k _ _ h.src (ne_of_ao h.src h.dct (by simp)) (ne_of_ao h.src h.pbk (by simp)) (ne_of_ao h.src h.tape (by simp))
  sdct := let ⟨pb0, e⟩ := h.sdct; ⟨pb0, k _ _ e h.nd (ne_of_ao e h.pbk (by simp)) (ne_of_ao e h.tape (by simp))⟩
  lam := k _ _ h.lam (ne_of_ao h.lam h.dct (by simp)) (ne_of_ao h.lam h.pbk (by simp)) (ne_of_ao h.lam h.tape (by simp))
  code := k _ _ h.code (ne_of_ao h.code h.dct (by simp)) (ne_of_ao h.code h.pbk (by simp)) (ne_of_ao h.code h.tape (by simp))
  cell := k _ _ h.cell (ne_of_ao h.cell h.dct (by simp)) (ne_of_ao h.cell h.pbk (by simp)) (ne_of_ao h.cell h.tape (by simp))
  tape := ht
  ne := h.ne
  nd := h.nd
  len := hl
theorem app (h : LexAt σ x rest line pb) {τ : List AO} : LexAt (σ ++ τ) x rest line pb :=
  have k : ∀ {l : Nat} {ao : AO}, σ[l]? = some ao → (σ ++ τ)[l]? = some ao := fun {l ao} e => by
    rw [List.getElem?_append_left]
    · exact e
    · rcases Nat.lt_or_ge l σ.length with q | q
      · exact q
      · rw [List.getElem?_eq_none q] at e; cases e
  ⟨k h.obj, k h.dct, k h.pbk, k h.src, let ⟨p, e⟩ := h.sdct; ⟨p, k e⟩, k h.lam, k h.code, k h.cell, k h.tape, h.ne, h.nd, h.len⟩
end LexAt
noncomputable def headS : List Nat → List Nat
  | [] => []
  | ch :: _ => [ch]
theorem lam_call {x : Lx} {rest : List Nat} {line : Int} {pb : List (List Nat)} {n : AV} {k : AV → List AO → Prop} (hL : LexAt σ x rest line pb)
    (h : ∀ σ', LexAt σ' x rest.tail line pb → KeptL x σ σ' → σ'.length = σ.length → k (.str (headS rest)) σ') : WCall (G0 w mg mb LM) (d + 1) σ lc (.ref x.lam) [n] k := by
  have hz : sizeLine = 2 ^ 24 := rfl
  have hl := hL.len
  refine call_lam (lc₀ := [(Str.ofString "count", n)]) (fun vals => match vals with | [v] => [(Str.ofString "count", v)] | _ => []) hL.lam hL.code (fun clos pm ca ctv vals e => ?_) (fun vals e y hy => ?_) (fun as vals rv => ?_) (by decide +kernel) (by decide +kernel) (by decide +kernel) (by decide +kernel) ?_
  · match vals, e with
    | [v], _ => rfl
  · match vals, e with
    | [v], _ => have : y = (Str.ofString "count", v) := by simpa using hy
                subst this; show List.lookup (Str.ofString "count") lamI.scope.names = some .local; decide +kernel
  · cases rv with
    | @cons _ v _ vs r1 rv =>
      cases rv
      intro y u e
      simp only [getV] at e
      by_cases q : Str.ofString "count" = y
      · rw [if_pos q] at e; cases e; exact ⟨v, by simp [q], r1⟩
      · rw [if_neg q] at e; cases e
  refine we_if ?_
  refine wb_val (fun _ _ => rfl) ?_
  refine we_free (by kernel_rfl) (by walk_at "gc") hL.cell ?_ (by decide +kernel) (by decide +kernel)
  refine tru_list hL.tape (by simp [strL]; omega) ?_
  cases rest with
  | nil =>
    refine ite_no ?_
    repeat walk_at "e"
    exact h σ hL KeptL.refl rfl
  | cons ch r =>
    have e : tapeL (ch :: r) = tapeL r ++ [.str [ch]] := by simp [tapeL, strL]
    have hb : (!(tapeL (ch :: r)).isEmpty) = true := by rw [e]; simp
    rw [hb]
    refine ite_yes ?_
    repeat walk_at "e"
    refine we_free (by kernel_rfl) (by walk_at "gc") hL.cell ?_ (by decide +kernel) (by decide +kernel)
    refine meth_list PySem.F.slot_list_pop PySem.F.type_list_pop hL.tape ?_
    repeat walk_at "e"
    refine ⟨kp_builtin, call_pop (e ▸ hL.tape) (by rw [← e]; simp [strL]; simp at hl; omega) ?_⟩
    have kk : KeptL x σ (σ.set x.tape (.list (tapeL r))) := KeptL.setTape
    exact h _ (hL.keep kk (set_other hL.nTD hL.dct) (set_other hL.ne.symm hL.pbk) (set_self hL.tape) (by simp at hl; simp; omega)) kk (by simp)
end

section
variable {w : World} {mg mb : Str → Option Value} {LM : Nat → Addr → Obj → Prop} {σ : List AO} {lc : Lc} {d : Nat}
noncomputable def nl (ch : List Nat) : Int := if ch = [10] then 1 else 0
set_option maxHeartbeats 1000000 in
theorem read_code {x : Lx} {rest : List Nat} {line : Int} {pb : List (List Nat)} {k : AV → List AO → Prop} (hL : LexAt σ x rest line pb)
    (h : ∀ σ', LexAt σ' x rest.tail (line + nl (headS rest)) pb → KeptL x σ σ' → σ'.length = σ.length → k (.str (headS rest)) σ') : WCode (G0 w mg mb LM) (d + 2) σ lc (.top (.ref 42)) [.ref x.obj] k := by
  refine code1 (fn_read _) (bd_read _) (by decide +kernel) (by decide +kernel) (by decide +kernel) (by decide +kernel) (by decide +kernel) ?_
  refine wss_cons ?_
  repeat walk_at "e"
  refine get_field (fo_instream _) hL.obj hL.dct (by walk_at "gv") rfl ?_
  obtain ⟨pb0, hsd⟩ := hL.sdct
  refine meth_field (fo_read _) hL.src hsd (by walk_at "gv") rfl ?_
  repeat walk_at "e"
  refine ⟨kp_fn hL.lam, lam_call hL fun σ' hL' hK hlen => ?_⟩
  repeat walk_at "e"
  by_cases hq : headS rest = [10]
  · rw [hq] at h ⊢
    refine ite_yes ?_
    repeat walk_at "e"
    refine get_field (fo_line _) hL'.obj hL'.dct (by walk_at "gv") rfl ?_
    repeat walk_at "e"
    refine set_field (so_59 _ _ (by kernel_rfl)) hL'.obj hL'.dct (by simp) ?_
    repeat walk_at "e"
    have e : putV (Str.ofString "lineno") (.int (line + 1)) (ldct line x.src x.pb) = ldct (line + nl [10]) x.src x.pb := by simp [putV, nl]
    have kk : KeptL x σ' (σ'.set x.dct (.dict (putV (Str.ofString "lineno") (.int (line + 1)) (ldct line x.src x.pb)))) := KeptL.setDct
    refine h _ (hL'.keep kk ?_ (set_other hL'.nPD.symm hL'.pbk) (set_other hL'.nTD.symm hL'.tape) hL'.len) (hK.trans kk) (by simp [hlen])
    rw [← e]
    exact set_self hL'.dct
  · have e : (headS rest == [10]) = false := by simpa using hq
    rw [e]
    refine ite_no ?_
    repeat walk_at "e"
    have e : line + nl (headS rest) = line := by simp [nl, hq]
    rw [e] at h
    exact h σ' hL' hK hlen
theorem push_call {x : Lx} {rest : List Nat} {line : Int} {pb : List (List Nat)} {t : List Nat} {k : AV → List AO → Prop} (hL : LexAt σ x rest line pb) (hz : pb.length ≤ 900)
    (h : ∀ σ', LexAt σ' x rest line (pb ++ [t]) → KeptL x σ σ' → σ'.length = σ.length → k .none σ') : WCall (G0 w mg mb LM) (d + 1) σ lc (.top (.ref 56)) [.ref x.obj, .str t] k := by
  have hz' : sizeLine = 2 ^ 24 := rfl
  refine call2 (fn_push _) (bd_push _) (by decide +kernel) (by decide +kernel) (by decide +kernel) (by decide +kernel) (by decide +kernel) (by decide +kernel) (by decide +kernel) ?_
  refine wss_cons ?_
  repeat walk_at "e"
  refine get_field (fo_pushback _) hL.obj hL.dct (by walk_at "gv") rfl ?_
  refine meth_list PySem.F.slot_list_append PySem.F.type_list_append hL.pbk ?_
  repeat walk_at "e"
  refine ⟨kp_builtin, call_append hL.pbk (by simp [strL]; omega) ?_⟩
  repeat walk_at "e"
  have e : strL pb ++ [.str t] = strL (pb ++ [t]) := by simp [strL]
  rw [e]
  have kk : KeptL x σ (σ.set x.pb (.list (strL (pb ++ [t])))) := KeptL.setPb
  exact h _ (hL.keep kk (set_other hL.nPD hL.dct) (set_self hL.pbk) (set_other hL.ne hL.tape) hL.len) kk (by simp)
end

section
variable {w : World} {mg mb : Str → Option Value} {LM : Nat → Addr → Obj → Prop} {σ : List AO} {lc : Lc} {d : Nat}
noncomputable def lexQ : List Nat → List Nat → List Nat × List Nat
  | acc, [] => (acc, [])
  | acc, [c] => if c = 34 then (acc, []) else if c = 92 then (acc, []) else (acc ++ [c], [])
  | acc, c :: b :: r => if c = 34 then (acc, b :: r) else if c = 92 then lexQ (acc ++ [b]) r else lexQ (acc ++ [c]) (b :: r)
theorem lexQ_cons (acc : List Nat) (c : Nat) (r : List Nat) : lexQ acc (c :: r) = if c = 34 then (acc, r) else if c = 92 then lexQ (acc ++ headS r) r.tail else lexQ (acc ++ [c]) r := by
  cases r with
  | nil => simp only [lexQ, headS, List.tail_nil, List.append_nil]
  | cons b r => simp only [lexQ, headS, List.tail_cons]
noncomputable def lexU : List Nat → List Nat → List Nat × List Nat
  | acc, [] => (acc, [])
  | acc, [c] => if c ∈ wsL then (acc, []) else if c = 92 then (acc, []) else (acc ++ [c], [])
  | acc, c :: b :: r => if c ∈ wsL then (acc, b :: r) else if c = 92 then lexU (acc ++ [b]) r else lexU (acc ++ [c]) (b :: r)
theorem lexU_cons (acc : List Nat) (c : Nat) (r : List Nat) : lexU acc (c :: r) = if c ∈ wsL then (acc, r) else if c = 92 then lexU (acc ++ headS r) r.tail else lexU (acc ++ [c]) r := by
  cases r with
  | nil => simp only [lexU, headS, List.tail_nil, List.append_nil]
  | cons b r => simp only [lexU, headS, List.tail_cons]
noncomputable def lex0 : List Nat → List Nat × List Nat
  | [] => ([], [])
  | c :: r => if c ∈ wsL then lex0 r else if c = 34 then lexQ [] r else if c = 92 then lexU (headS r) r.tail else lexU [c] r
noncomputable def LexT (σ : List AO) (x : Lx) (rest : List Nat) (tot : Nat) (pb : List (List Nat)) : Prop := LexAt σ x rest ((tot : Int) - (rest.count 10 : Nat)) pb
theorem nl_tail (rest : List Nat) (tot : Nat) : ((tot : Int) - (rest.count 10 : Nat)) + nl (headS rest) = (tot : Int) - (rest.tail.count 10 : Nat) := by
  cases rest with
  | nil => simp [nl, headS]
  | cons c r =>
    simp only [headS, nl, List.tail_cons, List.count_cons]
    by_cases h : c = 10
    · subst h; simp; omega
    · have h' : ¬ [c] = [10] := by simpa using h
      simp [h, h']
theorem read_T {x : Lx} {rest : List Nat} {tot : Nat} {pb : List (List Nat)} {k : AV → List AO → Prop} (hL : LexT σ x rest tot pb)
    (h : ∀ σ', LexT σ' x rest.tail tot pb → KeptL x σ σ' → k (.str (headS rest)) σ') : WCode (G0 w mg mb LM) (d + 2) σ lc (.top (.ref 42)) [.ref x.obj] k :=
  read_code hL fun σ' h1 h2 _ => h σ' (by unfold LexT; rw [← nl_tail]; exact h1) h2
structure ItL (σ : List AO) (x : Lx) (l fl : Nat) : Prop where
  it : σ[l]? = some (.citer (.ref fl) (.str []))
  me : σ[fl]? = some (.meth 42 (.ref x.obj))
theorem ItL.keep {x : Lx} {l fl : Nat} {rest : List Nat} {tot : Nat} {pb : List (List Nat)} {σ' : List AO} (h : ItL σ x l fl) (hL : LexT σ x rest tot pb) (k : KeptL x σ σ') : ItL σ' x l fl :=
  ⟨k _ _ h.it (ne_of_ao h.it hL.dct (by simp)) (ne_of_ao h.it hL.pbk (by simp)) (ne_of_ao h.it hL.tape (by simp)), k _ _ h.me (ne_of_ao h.me hL.dct (by simp)) (ne_of_ao h.me hL.pbk (by simp)) (ne_of_ao h.me hL.tape (by simp))⟩
theorem LexT.done {x : Lx} {l fl : Nat} {rest : List Nat} {tot : Nat} {pb : List (List Nat)} (h : ItL σ x l fl) (hL : LexT σ x rest tot pb) : LexT (σ.set l .cdone) x rest tot pb := by
  have ne : ∀ {j : Nat} {b : AO}, σ[j]? = some b → (AO.citer (.ref fl) (.str []) ≠ b) → (σ.set l .cdone)[j]? = some b := fun {j b} e hb => set_other (ne_of_ao h.it e hb) e
  exact ⟨ne hL.obj (by simp), ne hL.dct (by simp), ne hL.pbk (by simp), ne hL.src (by simp), let ⟨p, e⟩ := hL.sdct; ⟨p, ne e (by simp)⟩, ne hL.lam (by simp), ne hL.code (by simp), ne hL.cell (by simp), ne hL.tape (by simp), hL.ne, hL.nd, hL.len⟩
noncomputable def KeptI (x : Lx) (n : Nat) (σ σ' : List AO) : Prop := ∀ l ao, l < n → σ[l]? = some ao → l ≠ x.dct → l ≠ x.pb → l ≠ x.tape → σ'[l]? = some ao
theorem KeptI.of {x : Lx} {n : Nat} {σ σ' : List AO} (h : KeptL x σ σ') : KeptI x n σ σ' := fun l ao _ => h l ao
theorem KeptI.trans {x : Lx} {n : Nat} {σ σ' σ'' : List AO} (h : KeptI x n σ σ') (h' : KeptI x n σ' σ'') : KeptI x n σ σ'' := fun l ao z e a b c => h' l ao z (h l ao z e a b c) a b c
theorem KeptI.set {x : Lx} {n l : Nat} {σ : List AO} {a : AO} (h : n ≤ l) : KeptI x n σ (σ.set l a) := fun j ao z e _ _ _ => set_other (by omega) e
noncomputable abbrev lcx (o : Nat) (acc : List Nat) (fi : Nat) (t : Lc) : Lc := (Str.ofString "self", .ref o) :: (Str.ofString "token", .str acc) :: (Str.ofString "fiter", .ref fi) :: t
theorem tok_put (o : Nat) (acc acc' : List Nat) (fi : Nat) (t : Lc) : putV (Str.ofString "token") (.str acc') (lcx o acc fi t) = lcx o acc' fi t := by simp [putV, ofS_inj]
theorem ch_put (o : Nat) (acc : List Nat) (fi : Nat) (t : Lc) (v : AV) (ht : t = [] ∨ ∃ u, t = [(Str.ofString "ch", u)]) : putV (Str.ofString "ch") v (lcx o acc fi t) = lcx o acc fi [(Str.ofString "ch", v)] := by
  rcases ht with rfl | ⟨u, rfl⟩ <;> simp [putV, ofS_inj]
end

section
variable {w : World} {mg mb : Str → Option Value} {LM : Nat → Addr → Obj → Prop} {σ : List AO} {lc : Lc} {d : Nat}
theorem loop_cont {n m : Nat} {I : Nat → List AO → Lc → Prop} {k : AF → List AO → Lc → Prop} (hm : m < n) (h : I m σ lc) : loopK n I k .cont σ lc := ⟨m, hm, h⟩
theorem loop_next {n m : Nat} {I : Nat → List AO → Lc → Prop} {k : AF → List AO → Lc → Prop} (hm : m < n) (h : I m σ lc) : loopK n I k .next σ lc := ⟨m, hm, h⟩
set_option maxHeartbeats 4000000 in
theorem get_empty {x : Lx} {rest : List Nat} {tot : Nat} {k : AV → List AO → Prop} (hL : LexT σ x rest tot [])
    (h : ∀ σ', LexT σ' x (lex0 rest).2 tot [] → KeptL x σ σ' → k (.str (lex0 rest).1) σ') : WCall (G0 w mg mb LM) (d + 4) σ lc (.top (.ref 49)) [.ref x.obj] k := by
  have hz : sizeLine = 2 ^ 24 := rfl
  have hlen := hL.len
  refine call1 (fn_get _) (bd_get _) (by decide +kernel) (by decide +kernel) (by decide +kernel) (by decide +kernel) (by decide +kernel) ?_
  refine wss_cons ?_
  repeat walk_at "e"
  refine wb_val (fun _ _ => rfl) ?_
  repeat walk_at "e"
  refine get_field (fo_pushback _) hL.obj hL.dct (by walk_at "gv") rfl ?_
  refine tru_list hL.pbk (by simp [strL]) ?_
  refine ite_no ?_
  repeat walk_at "e"
  refine get_bound (mo_read _) hL.obj hL.dct (by walk_at "gv") ?_
  repeat walk_at "e"
  refine ⟨kp_builtin, call_iter2 (fm := 42) (self := .ref x.obj) (by simp) ?_⟩
  repeat walk_at "e"
  have el : (σ ++ [AO.meth 42 (.ref x.obj)]).length = σ.length + 1 := by simp
  rw [el]
  have eσ : σ ++ [AO.meth 42 (.ref x.obj)] ++ [AO.citer (.ref σ.length) (.str [])] = σ ++ [AO.meth 42 (.ref x.obj), AO.citer (.ref σ.length) (.str [])] := by simp
  rw [eσ]
  have hL2 : LexT (σ ++ [AO.meth 42 (.ref x.obj), AO.citer (.ref σ.length) (.str [])]) x rest tot [] := hL.app
  have hI2 : ItL (σ ++ [AO.meth 42 (.ref x.obj), AO.citer (.ref σ.length) (.str [])]) x (σ.length + 1) σ.length := ⟨by simp, by simp⟩
  have hK2 : KeptI x σ.length σ (σ ++ [AO.meth 42 (.ref x.obj), AO.citer (.ref σ.length) (.str [])]) := KeptI.of KeptL.app
  have back : ∀ σ', KeptI x σ.length σ σ' → KeptL x σ σ' := fun σ' hk l ao e a b c => hk l ao (by
    rcases Nat.lt_or_ge l σ.length with q | q
    · exact q
    · rw [List.getElem?_eq_none q] at e; cases e) e a b c
  generalize σ ++ [AO.meth 42 (.ref x.obj), AO.citer (.ref σ.length) (.str [])] = σ2 at *
  have hfl : fnIn (KF w.params) 42 = true := by kernel_rfl
  have hll : σ.length ≤ σ.length + 1 := Nat.le_succ _
  generalize σ.length + 1 = l at *
  refine ws_for_ci (d := d + 2) (l := l) (fl := σ.length) (fm := 42) (self := .ref x.obj) (fun n σ' lc' => (∃ (t : Lc) (rest' : List Nat), (t = [] ∨ ∃ u, t = [(Str.ofString "ch", u)]) ∧ lc' = lcx x.obj [] l t ∧ LexT σ' x rest' tot [] ∧ ItL σ' x l σ.length ∧ KeptI x σ.length σ σ' ∧ lex0 rest' = lex0 rest ∧ n = rest'.length + 1) ∨
      (n = 0 ∧ ∃ (t : Lc) (acc : List Nat), lc' = lcx x.obj acc l t ∧ LexT σ' x [] tot [] ∧ σ'[l]? = some .cdone ∧ KeptI x σ.length σ σ' ∧ lex0 rest = (acc, []))) rfl (fun _ _ => rfl) hfl ?turn ?h
  case h =>
    repeat walk_at "e"
    exact ⟨rfl, hI2.it, _, .inl ⟨[], rest, .inl rfl, rfl, hL2, hI2, hK2, rfl, rfl⟩⟩
  case turn =>
    intro n σ' lc' hIn
    rcases hIn with hA | ⟨rfl, t, acc, rfl, hL', hd, hK, hlex⟩
    rotate_left
    · refine .inl ⟨hd, ?_⟩
      repeat walk_at "e"
      rw [hlex] at h
      exact h σ' hL' (back _ hK)
    obtain ⟨t, rest', ht, rfl, hL', hI, hK, hlex, rfl⟩ := hA
    refine .inr ⟨hI.it, hI.me, meth_obj_call hI.me (read_T hL' fun σ1 hL1 hK1 => ⟨(hI.keep hL' hK1).it, (hI.keep hL' hK1).me, headS rest', rfl, ?_⟩)⟩
    have hI1 := hI.keep hL' hK1
    have hK01 : KeptI x σ.length σ σ1 := hK.trans (.of hK1)
    have hlen' := hL'.len
    cases rest' with
    | nil =>
      refine (if_pos (show headS [] = [] from rfl)).mpr ?_
      repeat walk_at "e"
      rw [← hlex] at h
      exact h _ (hL1.done hI1) (back _ (hK01.trans (.set hll)))
    | cons ch r =>
      refine (if_neg (show ¬ headS (ch :: r) = [] by simp [headS])).mpr ?_
      rw [show headS (ch :: r) = [ch] from rfl]
      refine wn_loc' (by kernel_rfl) (ch_put _ _ _ _ _ ht) ?_
      refine wss_cons ?_
      repeat walk_at "e"
      refine get_field (fo_whitespace _) hL1.obj hL1.dct (by walk_at "gv") rfl ?_
      repeat walk_at "e"
      have hlx : lex0 (ch :: r) = if ch ∈ wsL then lex0 r else if ch = 34 then lexQ [] r else if ch = 92 then lexU (headS r) r.tail else lexU [ch] r := rfl
      by_cases hws : ch ∈ wsL
      · rw [decide_eq_true hws]
        refine ite_yes ?_
        repeat walk_at "e"
        exact loop_cont (Nat.lt_succ_self _) (.inl ⟨_, r, .inr ⟨_, rfl⟩, rfl, hL1, hI1, hK01, by rw [← hlex, hlx, if_pos hws], rfl⟩)
      · rw [decide_eq_false hws]
        rw [if_neg hws] at hlx
        refine ite_no ?_
        repeat walk_at "e"
        by_cases hq : ch = 34
        · subst hq
          rw [if_pos rfl] at hlx
          refine ite_yes ?_
          refine wss_cons ?_
          refine ws_for_ci (d := d + 2) (l := l) (fl := σ.length) (fm := 42) (self := .ref x.obj) (fun n σ' lc' => ∃ u rest' acc, lc' = lcx x.obj acc l [(Str.ofString "ch", u)] ∧ LexT σ' x rest' tot [] ∧ ItL σ' x l σ.length ∧ KeptI x σ.length σ σ' ∧ lexQ acc rest' = lex0 rest ∧ acc.length + rest'.length ≤ 10000 ∧ n = rest'.length + 1) rfl (fun _ _ => rfl) hfl ?turn2 ?h2
          case h2 =>
            repeat walk_at "e"
            exact ⟨rfl, hI1.it, _, _, r, [], rfl, hL1, hI1, hK01, by rw [← hlex, hlx], by simp at hlen' ⊢; omega, rfl⟩
          case turn2 =>
            rintro n σ3 lc' ⟨u, rest3, acc, rfl, hL3, hI3, hK3, hq3, hz3, rfl⟩
            refine .inr ⟨hI3.it, hI3.me, meth_obj_call hI3.me (read_T hL3 fun σ4 hL4 hK4 => ⟨(hI3.keep hL3 hK4).it, (hI3.keep hL3 hK4).me, headS rest3, rfl, ?_⟩)⟩
            have hI4 := hI3.keep hL3 hK4
            have hK04 : KeptI x σ.length σ σ4 := hK3.trans (.of hK4)
            cases rest3 with
            | nil =>
              refine (if_pos (show headS [] = [] from rfl)).mpr ?_
              repeat walk_at "e"
              exact loop_next (Nat.succ_pos _) (.inr ⟨rfl, _, acc, rfl, hL4.done hI4, set_self hI4.it, hK04.trans (.set hll), by rw [← hq3]; rfl⟩)
            | cons ch r =>
              refine (if_neg (show ¬ headS (ch :: r) = [] by simp [headS])).mpr ?_
              rw [show headS (ch :: r) = [ch] from rfl]
              refine wn_loc' (by kernel_rfl) (ch_put _ _ _ _ _ (.inr ⟨_, rfl⟩)) ?_
              refine wss_cons ?_
              repeat walk_at "e"
              rw [lexQ_cons] at hq3
              by_cases hq : ch = 34
              · subst hq
                rw [if_pos rfl] at hq3
                refine ite_yes ?_
                repeat walk_at "e"
                rw [← hq3] at h
                exact h σ4 hL4 (back _ hK04)
              · have hqb : ([ch] == [34]) = false := by simpa using hq
                rw [if_neg hq] at hq3
                rw [hqb]
                refine ite_no ?_
                repeat walk_at "e"
                by_cases hb : ch = 92
                · subst hb
                  rw [if_pos rfl] at hq3
                  refine ite_yes ?_
                  repeat walk_at "e"
                  refine meth_inst (mo_read _) hL4.obj hL4.dct (by walk_at "gv") ?_
                  repeat walk_at "e"
                  refine ⟨kp_K (fn_read _).keep, call_of_code (read_T hL4 fun σ5 hL5 hK5 => ?_)⟩
                  refine wn_loc' (by kernel_rfl) (ch_put _ _ _ _ _ (.inr ⟨_, rfl⟩)) ?_
                  repeat walk_at "e"
                  refine ws_aug (by kernel_rfl) (by walk_at "gv") ?_
                  repeat walk_at "e"
                  refine iadd_str (by cases r <;> simp [headS] at hz3 ⊢ <;> omega) ?_
                  refine wn_loc' (by kernel_rfl) (tok_put _ _ _ _ _) ?_
                  repeat walk_at "e"
                  exact loop_next (m := r.tail.length + 1) (by simp; omega) ⟨_, r.tail, acc ++ headS r, rfl, hL5, hI4.keep hL4 hK5, hK04.trans (.of hK5), hq3, by cases r <;> simp [headS] at hz3 ⊢ <;> omega, rfl⟩
                · have hbb : ([ch] == [92]) = false := by simpa using hb
                  rw [if_neg hb] at hq3
                  rw [hbb]
                  refine ite_no ?_
                  repeat walk_at "e"
                  refine ws_aug (by kernel_rfl) (by walk_at "gv") ?_
                  repeat walk_at "e"
                  refine iadd_str (by simp at hz3 ⊢; omega) ?_
                  refine wn_loc' (by kernel_rfl) (tok_put _ _ _ _ _) ?_
                  repeat walk_at "e"
                  exact loop_next (Nat.lt_succ_self _) ⟨_, r, acc ++ [ch], rfl, hL4, hI4, hK04, hq3, by simp at hz3 ⊢; omega, rfl⟩
        · have hqb : ([ch] == [34]) = false := by simpa using hq
          rw [if_neg hq] at hlx
          rw [hqb]
          refine ite_no ?_
          repeat walk_at "e"
          by_cases hb : ch = 92
          · subst hb
            rw [if_pos rfl] at hlx
            refine ite_yes ?_
            repeat walk_at "e"
            refine meth_inst (mo_read _) hL1.obj hL1.dct (by walk_at "gv") ?_
            repeat walk_at "e"
            refine ⟨kp_K (fn_read _).keep, call_of_code (read_T hL1 fun σ5 hL5 hK5 => ?_)⟩
            refine wn_loc' (by kernel_rfl) (ch_put _ _ _ _ _ (.inr ⟨_, rfl⟩)) ?_
            repeat walk_at "e"
            refine ws_aug (by kernel_rfl) (by walk_at "gv") ?_
            repeat walk_at "e"
            refine iadd_str (by cases r <;> simp [headS] <;> omega) ?_
            refine wn_loc' (by kernel_rfl) (tok_put _ _ _ _ _) ?_
            repeat walk_at "e"
            refine ws_for_ci (d := d + 2) (l := l) (fl := σ.length) (fm := 42) (self := .ref x.obj) (fun n σ' lc' => ∃ u rest' acc, lc' = lcx x.obj acc l [(Str.ofString "ch", u)] ∧ LexT σ' x rest' tot [] ∧ ItL σ' x l σ.length ∧ KeptI x σ.length σ σ' ∧ lexU acc rest' = lex0 rest ∧ acc.length + rest'.length ≤ 10000 ∧ n = rest'.length + 1) rfl (fun _ _ => rfl) hfl ?turn2 ?h2
            case h2 =>
              repeat walk_at "e"
              exact ⟨rfl, (hI1.keep hL1 hK5).it, _, _, r.tail, [] ++ headS r, rfl, hL5, hI1.keep hL1 hK5, hK01.trans (.of hK5), by rw [← hlex, hlx]; rfl, by cases r <;> simp [headS] at hlen' ⊢ <;> omega, rfl⟩
            case turn2 =>
              rintro n σ3 lc' ⟨u, rest3, acc, rfl, hL3, hI3, hK3, hq3, hz3, rfl⟩
              refine .inr ⟨hI3.it, hI3.me, meth_obj_call hI3.me (read_T hL3 fun σ4 hL4 hK4 => ⟨(hI3.keep hL3 hK4).it, (hI3.keep hL3 hK4).me, headS rest3, rfl, ?_⟩)⟩
              have hI4 := hI3.keep hL3 hK4
              have hK04 : KeptI x σ.length σ σ4 := hK3.trans (.of hK4)
              cases rest3 with
              | nil =>
                refine (if_pos (show headS [] = [] from rfl)).mpr ?_
                repeat walk_at "e"
                exact loop_next (Nat.succ_pos _) (.inr ⟨rfl, _, acc, rfl, hL4.done hI4, set_self hI4.it, hK04.trans (.set hll), by rw [← hq3]; rfl⟩)
              | cons ch r =>
                refine (if_neg (show ¬ headS (ch :: r) = [] by simp [headS])).mpr ?_
                rw [show headS (ch :: r) = [ch] from rfl]
                refine wn_loc' (by kernel_rfl) (ch_put _ _ _ _ _ (.inr ⟨_, rfl⟩)) ?_
                refine wss_cons ?_
                repeat walk_at "e"
                refine get_field (fo_whitespace _) hL4.obj hL4.dct (by walk_at "gv") rfl ?_
                repeat walk_at "e"
                rw [lexU_cons] at hq3
                by_cases hws : ch ∈ wsL
                · rw [decide_eq_true hws]
                  rw [if_pos hws] at hq3
                  refine ite_yes ?_
                  repeat walk_at "e"
                  rw [← hq3] at h
                  exact h σ4 hL4 (back _ hK04)
                · rw [decide_eq_false hws]
                  rw [if_neg hws] at hq3
                  refine ite_no ?_
                  repeat walk_at "e"
                  by_cases hb : ch = 92
                  · subst hb
                    rw [if_pos rfl] at hq3
                    refine ite_yes ?_
                    repeat walk_at "e"
                    refine meth_inst (mo_read _) hL4.obj hL4.dct (by walk_at "gv") ?_
                    repeat walk_at "e"
                    refine ⟨kp_K (fn_read _).keep, call_of_code (read_T hL4 fun σ5 hL5 hK5 => ?_)⟩
                    refine wn_loc' (by kernel_rfl) (ch_put _ _ _ _ _ (.inr ⟨_, rfl⟩)) ?_
                    repeat walk_at "e"
                    refine ws_aug (by kernel_rfl) (by walk_at "gv") ?_
                    repeat walk_at "e"
                    refine iadd_str (by cases r <;> simp [headS] at hz3 ⊢ <;> omega) ?_
                    refine wn_loc' (by kernel_rfl) (tok_put _ _ _ _ _) ?_
                    repeat walk_at "e"
                    exact loop_next (m := r.tail.length + 1) (by simp; omega) ⟨_, r.tail, acc ++ headS r, rfl, hL5, hI4.keep hL4 hK5, hK04.trans (.of hK5), hq3, by cases r <;> simp [headS] at hz3 ⊢ <;> omega, rfl⟩
                  · have hbb : ([ch] == [92]) = false := by simpa using hb
                    rw [if_neg hb] at hq3
                    rw [hbb]
                    refine ite_no ?_
                    repeat walk_at "e"
                    refine ws_aug (by kernel_rfl) (by walk_at "gv") ?_
                    repeat walk_at "e"
                    refine iadd_str (by simp at hz3 ⊢; omega) ?_
                    refine wn_loc' (by kernel_rfl) (tok_put _ _ _ _ _) ?_
                    repeat walk_at "e"
                    exact loop_next (Nat.lt_succ_self _) ⟨_, r, acc ++ [ch], rfl, hL4, hI4, hK04, hq3, by simp at hz3 ⊢; omega, rfl⟩
          · have hbb : ([ch] == [92]) = false := by simpa using hb
            rw [if_neg hb] at hlx
            rw [hbb]
            refine ite_no ?_
            repeat walk_at "e"
            refine ws_aug (by kernel_rfl) (by walk_at "gv") ?_
            repeat walk_at "e"
            refine iadd_str (by simp; omega) ?_
            refine wn_loc' (by kernel_rfl) (tok_put _ _ _ _ _) ?_
            repeat walk_at "e"
            refine ws_for_ci (d := d + 2) (l := l) (fl := σ.length) (fm := 42) (self := .ref x.obj) (fun n σ' lc' => ∃ u rest' acc, lc' = lcx x.obj acc l [(Str.ofString "ch", u)] ∧ LexT σ' x rest' tot [] ∧ ItL σ' x l σ.length ∧ KeptI x σ.length σ σ' ∧ lexU acc rest' = lex0 rest ∧ acc.length + rest'.length ≤ 10000 ∧ n = rest'.length + 1) rfl (fun _ _ => rfl) hfl ?turn2 ?h2
            case h2 =>
              repeat walk_at "e"
              exact ⟨rfl, (hI1).it, _, _, r, [] ++ [ch], rfl, hL1, hI1, hK01, by rw [← hlex, hlx]; rfl, by simp at hlen' ⊢; omega, rfl⟩
            case turn2 =>
              rintro n σ3 lc' ⟨u, rest3, acc, rfl, hL3, hI3, hK3, hq3, hz3, rfl⟩
              refine .inr ⟨hI3.it, hI3.me, meth_obj_call hI3.me (read_T hL3 fun σ4 hL4 hK4 => ⟨(hI3.keep hL3 hK4).it, (hI3.keep hL3 hK4).me, headS rest3, rfl, ?_⟩)⟩
              have hI4 := hI3.keep hL3 hK4
              have hK04 : KeptI x σ.length σ σ4 := hK3.trans (.of hK4)
              cases rest3 with
              | nil =>
                refine (if_pos (show headS [] = [] from rfl)).mpr ?_
                repeat walk_at "e"
                exact loop_next (Nat.succ_pos _) (.inr ⟨rfl, _, acc, rfl, hL4.done hI4, set_self hI4.it, hK04.trans (.set hll), by rw [← hq3]; rfl⟩)
              | cons ch r =>
                refine (if_neg (show ¬ headS (ch :: r) = [] by simp [headS])).mpr ?_
                rw [show headS (ch :: r) = [ch] from rfl]
                refine wn_loc' (by kernel_rfl) (ch_put _ _ _ _ _ (.inr ⟨_, rfl⟩)) ?_
                refine wss_cons ?_
                repeat walk_at "e"
                refine get_field (fo_whitespace _) hL4.obj hL4.dct (by walk_at "gv") rfl ?_
                repeat walk_at "e"
                rw [lexU_cons] at hq3
                by_cases hws : ch ∈ wsL
                · rw [decide_eq_true hws]
                  rw [if_pos hws] at hq3
                  refine ite_yes ?_
                  repeat walk_at "e"
                  rw [← hq3] at h
                  exact h σ4 hL4 (back _ hK04)
                · rw [decide_eq_false hws]
                  rw [if_neg hws] at hq3
                  refine ite_no ?_
                  repeat walk_at "e"
                  by_cases hb : ch = 92
                  · subst hb
                    rw [if_pos rfl] at hq3
                    refine ite_yes ?_
                    repeat walk_at "e"
                    refine meth_inst (mo_read _) hL4.obj hL4.dct (by walk_at "gv") ?_
                    repeat walk_at "e"
                    refine ⟨kp_K (fn_read _).keep, call_of_code (read_T hL4 fun σ5 hL5 hK5 => ?_)⟩
                    refine wn_loc' (by kernel_rfl) (ch_put _ _ _ _ _ (.inr ⟨_, rfl⟩)) ?_
                    repeat walk_at "e"
                    refine ws_aug (by kernel_rfl) (by walk_at "gv") ?_
                    repeat walk_at "e"
                    refine iadd_str (by cases r <;> simp [headS] at hz3 ⊢ <;> omega) ?_
                    refine wn_loc' (by kernel_rfl) (tok_put _ _ _ _ _) ?_
                    repeat walk_at "e"
                    exact loop_next (m := r.tail.length + 1) (by simp; omega) ⟨_, r.tail, acc ++ headS r, rfl, hL5, hI4.keep hL4 hK5, hK04.trans (.of hK5), hq3, by cases r <;> simp [headS] at hz3 ⊢ <;> omega, rfl⟩
                  · have hbb : ([ch] == [92]) = false := by simpa using hb
                    rw [if_neg hb] at hq3
                    rw [hbb]
                    refine ite_no ?_
                    repeat walk_at "e"
                    refine ws_aug (by kernel_rfl) (by walk_at "gv") ?_
                    repeat walk_at "e"
                    refine iadd_str (by simp at hz3 ⊢; omega) ?_
                    refine wn_loc' (by kernel_rfl) (tok_put _ _ _ _ _) ?_
                    repeat walk_at "e"
                    exact loop_next (Nat.lt_succ_self _) ⟨_, r, acc ++ [ch], rfl, hL4, hI4, hK04, hq3, by simp at hz3 ⊢; omega, rfl⟩
end

section
variable {w : World} {mg mb : Str → Option Value} {LM : Nat → Addr → Obj → Prop} {σ : List AO} {lc : Lc} {d : Nat}
theorem get_pushed {x : Lx} {rest : List Nat} {tot : Nat} {t : List Nat} {pb : List (List Nat)} {k : AV → List AO → Prop} (hL : LexT σ x rest tot (t :: pb)) (hz : pb.length ≤ 900)
    (h : ∀ σ', LexT σ' x rest tot pb → KeptL x σ σ' → k (.str t) σ') : WCall (G0 w mg mb LM) (d + 1) σ lc (.top (.ref 49)) [.ref x.obj] k := by
  have hz' : sizeLine = 2 ^ 24 := rfl
  refine call1 (fn_get _) (bd_get _) (by decide +kernel) (by decide +kernel) (by decide +kernel) (by decide +kernel) (by decide +kernel) ?_
  refine wss_cons ?_
  repeat walk_at "e"
  refine wb_val (fun _ _ => rfl) ?_
  repeat walk_at "e"
  refine get_field (fo_pushback _) hL.obj hL.dct (by walk_at "gv") rfl ?_
  refine tru_list hL.pbk (by simp [strL]; omega) ?_
  refine ite_yes ?_
  repeat walk_at "e"
  refine get_field (fo_pushback _) hL.obj hL.dct (by walk_at "gv") rfl ?_
  refine meth_list PySem.F.slot_list_pop PySem.F.type_list_pop hL.pbk ?_
  repeat walk_at "e"
  refine ⟨kp_builtin, call_pop0 hL.pbk (by simp [strL]; omega) ?_⟩
  repeat walk_at "e"
  have kk : KeptL x σ (σ.set x.pb (.list (strL pb))) := KeptL.setPb
  exact h _ (hL.keep kk (set_other hL.nPD hL.dct) (set_self hL.pbk) (set_other hL.ne hL.tape) hL.len) kk
end

section
theorem app_set {σ τ : List AO} {i : Nat} {v : AO} : (σ ++ τ).set (σ.length + i) v = σ ++ τ.set i v := by
  rw [List.set_append_right _ _ (Nat.le_add_right ..)]; congr 2; omega
theorem app_set0 {σ τ : List AO} {v : AO} : (σ ++ τ).set σ.length v = σ ++ τ.set 0 v := by
  rw [List.set_append_right _ _ (Nat.le_refl _)]; congr 2; omega
theorem app_get {σ τ : List AO} {i : Nat} : (σ ++ τ)[σ.length + i]? = τ[i]? := by
  rw [List.getElem?_append_right (Nat.le_add_right ..)]; congr 1; omega
theorem app_get0 {σ τ : List AO} : (σ ++ τ)[σ.length]? = τ[0]? := by
  rw [List.getElem?_append_right (Nat.le_refl _)]; congr 1; omega
theorem lt_of_get {σ : List AO} {i : Nat} {a : AO} (e : σ[i]? = some a) : i < σ.length := by
  rcases Nat.lt_or_ge i σ.length with q | q
  · exact q
  · rw [List.getElem?_eq_none q] at e; cases e
theorem get_app {σ τ : List AO} {i : Nat} {a : AO} (e : σ[i]? = some a) : (σ ++ τ)[i]? = some a := by rw [List.getElem?_append_left (lt_of_get e)]; exact e
theorem set_app {σ τ : List AO} {i : Nat} {v : AO} (h : i < σ.length) : (σ ++ τ).set i v = σ.set i v ++ τ := List.set_append_left _ _ h
local macro_rules | `(tactic| walk_at "nz") => `(tactic| simp only [List.append_assoc, List.cons_append, List.nil_append, List.length_append, List.length_cons, List.length_nil, List.length_set, Nat.reduceAdd, Nat.zero_add, Nat.add_zero, Nat.add_assoc, app_set, app_set0, List.set_cons_succ, List.set_cons_zero])
variable {w : World} {mg mb : Str → Option Value} {LM : Nat → Addr → Obj → Prop} {σ : List AO} {lc : Lc} {d : Nat}
theorem mklex {a : AV} {k : AV → List AO → Prop} (h : k (.ref (σ.length + 1)) (σ ++ [.dict [(Str.ofString "lineno", .int 1), (Str.ofString "instream", a), (Str.ofString "whitespace", .str wsL), (Str.ofString "pushback", .ref (σ.length + 2))], .inst 59 σ.length, .list []])) :
    WCall (G0 w mg mb LM) (d + 2) σ lc (.top (.ref 59)) [a] k := by
  refine make2 (mk_59 _).1 (mk_59 _).2.1 (mk_59 _).2.2.1 (fn_linit _) (bd_linit _) (by decide +kernel) (by decide +kernel) (by decide +kernel) (by decide +kernel) (by decide +kernel) (by decide +kernel) (by decide +kernel) ?_
  refine wss_cons ?_
  repeat walk_at "e"
  refine set_field (fs := []) (dl := σ.length) (C := 59) (so_59 _ _ (by kernel_rfl)) (by simp) (by simp) (by simp) ?_
  walk_at "nz"
  repeat walk_at "e"
  refine set_field (dl := σ.length) (C := 59) (so_59 _ _ (by kernel_rfl)) (by simp) (by rw [app_get0]; rfl) (by simp [putV]) ?_
  walk_at "nz"
  repeat walk_at "e"
  refine set_field (dl := σ.length) (C := 59) (so_59 _ _ (by kernel_rfl)) (by simp) (by rw [app_get0]; rfl) (by simp [putV, ofS_inj]) ?_
  walk_at "nz"
  repeat walk_at "e"
  refine ⟨by simp [sizeLine], ?_⟩
  repeat walk_at "e"
  walk_at "nz"
  refine set_field (dl := σ.length) (C := 59) (so_59 _ _ (by kernel_rfl)) (by simp) (by rw [app_get0]; rfl) (by simp [putV, ofS_inj]) ?_
  walk_at "nz"
  repeat walk_at "e"
  refine ⟨rfl, ?_⟩
  have e : putV (Str.ofString "pushback") (.ref (σ.length + 2)) (putV (Str.ofString "whitespace") (.str wsL) (putV (Str.ofString "instream") a (putV (Str.ofString "lineno") (.int 1) []))) = [(Str.ofString "lineno", .int 1), (Str.ofString "instream", a), (Str.ofString "whitespace", .str wsL), (Str.ofString "pushback", .ref (σ.length + 2))] := by simp [putV, ofS_inj]
  rw [← e] at h
  exact h
end

section
local macro_rules | `(tactic| walk_at "nz") => `(tactic| simp only [List.append_assoc, List.cons_append, List.nil_append, List.length_append, List.length_cons, List.length_nil, List.length_set, Nat.reduceAdd, Nat.zero_add, Nat.add_zero, Nat.add_assoc, app_set, app_set0, List.set_cons_succ, List.set_cons_zero])
variable {w : World} {mg mb : Str → Option Value} {LM : Nat → Addr → Obj → Prop} {σ : List AO} {lc : Lc} {d : Nat}
set_option maxHeartbeats 1000000 in
theorem lexer_call {t : Nat} {text : List Nat} {k : AV → List AO → Prop} (ht : σ[t]? = some (.tab t 163 true)) (hz : text.length ≤ 10000)
    (h : ∀ σ' x, LexAt σ' x text 1 [] → (∀ l ao, σ[l]? = some ao → l ≠ t → σ'[l]? = some ao) → σ'[t]? = some (.tab t 163 false) → σ.length ≤ x.dct → σ.length ≤ x.pb → σ.length ≤ x.tape → σ.length ≤ x.cell → k (.ref x.obj) σ') : WCall (G0 w mg mb LM) (d + 4) σ lc (.top (.ref 168)) [.str text] k := by
  have hzz : sizeLine = 2 ^ 24 := rfl
  have htl := lt_of_get ht
  refine call1L (n2 := Str.ofString "tape") (fn_lexer _) (bd_lexer _) (by decide +kernel) (fun N => by kernel_rfl) (by decide +kernel) (by decide +kernel) (by decide +kernel) ?_
  refine wss_cons ?_
  repeat walk_at "e"
  refine ⟨kp_type, call_list_s (by omega) ?_⟩
  refine we_slc ?_
  repeat walk_at "e"
  refine we_neg ?_
  repeat walk_at "e"
  refine ⟨1, rfl, none, none, some (-1), rfl, rfl, rfl, ?_⟩
  walk_at "nz"
  refine sub_lsl (lo := none) (hi := none) (st := some (-1)) (xs := text.map fun ch => .str [ch]) (ys := tapeL text) (by simp) (by simp) (by decide) (by simp; omega) (fun as vs r => ?_) ?_ (fun _ _ => rfl)
  · have := pick_rev r
    rw [← List.map_reverse] at this
    simpa [strL, Function.comp_def] using this
  walk_at "nz"
  refine wn_cell (l := σ.length) (v₀ := none) (by kernel_rfl) (by walk_at "gc") (by simp) ?_
  walk_at "nz"
  repeat walk_at "e"
  refine ⟨kp_K (mk_59 _).2.2.2, mklex ?_⟩
  walk_at "nz"
  repeat walk_at "e"
  refine we_lambda (t := t) (cl := [(Str.ofString "tape", σ.length)]) rfl (fun _ => rfl) (cells_one (by kernel_rfl) (by walk_at "gc")) (cd := 167) (P := 163) (by kernel_rfl) (get_app ht) ?_
  rw [set_app htl]
  walk_at "nz"
  repeat walk_at "e"
  obtain ⟨σ1, h1, hl⟩ : ∃ σ1, σ1 = σ.set t (.tab t 163 false) ∧ σ1.length = σ.length := ⟨_, rfl, by simp⟩
  rw [← h1, ← hl]
  refine set_field (dl := σ1.length + 4) (C := 59) (so_59 _ _ (by kernel_rfl)) (by rw [app_get]; rfl) (by rw [app_get]; rfl) (by simp) ?_
  walk_at "nz"
  repeat walk_at "e"
  refine ⟨kp_K (mk_59 _).2.2.2, mklex ?_⟩
  walk_at "nz"
  repeat walk_at "e"
  refine h _ ⟨σ1.length + 10, σ1.length + 9, σ1.length + 11, σ1.length + 5, σ1.length + 4, σ1.length + 8, σ1.length + 7, σ1.length, σ1.length + 3⟩ ⟨?_, ?_, ?_, ?_, ⟨σ1.length + 6, ?_⟩, ?_, ?_, ?_, ?_, ?_, ?_, hz⟩ (fun l ao e hne => get_app (by rw [h1, List.getElem?_set_ne (Ne.symm hne)]; exact e)) (get_app (by rw [h1]; exact set_self ht)) (by rw [hl]; exact Nat.le_add_right ..) (by rw [hl]; exact Nat.le_add_right ..) (by rw [hl]; exact Nat.le_add_right ..) (Nat.le_of_eq hl.symm)
  · rw [app_get]; rfl
  · rw [app_get]; rfl
  · rw [app_get]; rfl
  · rw [app_get]; rfl
  · rw [app_get]
    have e : putV (Str.ofString "read") (.ref (σ1.length + 8)) [(Str.ofString "lineno", .int 1), (Str.ofString "instream", .none), (Str.ofString "whitespace", .str wsL), (Str.ofString "pushback", .ref (σ1.length + 6))] = sdctL (σ1.length + 6) (σ1.length + 8) := by simp [putV, ofS_inj]
    rw [← e]
    rfl
  · rw [app_get]; rfl
  · rw [app_get]; rfl
  · rw [app_get0]; rfl
  · rw [app_get]; rfl
  · show σ1.length + 11 ≠ σ1.length + 3
    omega
  · show σ1.length + 4 ≠ σ1.length + 9
    omega
end

section
local macro_rules | `(tactic| walk_at "nz") => `(tactic| simp only [List.append_assoc, List.cons_append, List.nil_append, List.length_append, List.length_cons, List.length_nil, List.length_set, Nat.reduceAdd, Nat.zero_add, Nat.add_zero, Nat.add_assoc, app_set, app_set0, List.set_cons_succ, List.set_cons_zero])
variable {w : World} {mg mb : Str → Option Value} {LM : Nat → Addr → Obj → Prop} {σ : List AO} {lc : Lc} {d : Nat}
structure WsV where
  count : List Nat
  b : Nat
  n : Nat
  nt : Nat
noncomputable def bump (count : List Nat) (b : Nat) : List Nat :=
  let c := if count.length ≤ b then count ++ List.replicate (b - count.length + 1) 0 else count
  c.set b (c.getD b 0 + 1)
noncomputable def wsF : List Nat → WsV → WsV
  | [], v => v
  | c :: r, v => if c = 32 then wsF r ⟨v.count, v.b + 1, v.n + 1, v.nt⟩ else if c = 9 then wsF r ⟨bump v.count v.b, 0, v.n + 1, v.nt + 1⟩ else v
noncomputable def ws0 : WsV := ⟨[], 0, 0, 0⟩
noncomputable def natL (ns : List Nat) : List AV := ns.map fun n : Nat => .int (n : Int)
noncomputable def ExtL (σ σ' : List AO) : Prop := ∀ (l : Nat) (ao : AO), σ[l]? = some ao → σ'[l]? = some ao
theorem new_get {σ : List AO} {a : AO} : (σ ++ [a])[σ.length]? = some a := by simp
theorem ExtL.refl {σ : List AO} : ExtL σ σ := fun _ _ e => e
theorem ExtL.trans {σ σ' σ'' : List AO} (h : ExtL σ σ') (h' : ExtL σ' σ'') : ExtL σ σ'' := fun l ao e => h' l ao (h l ao e)
theorem ExtL.app {σ τ : List AO} : ExtL σ (σ ++ τ) := fun _ _ e => get_app e
structure WsAt (σ : List AO) (o : Nat) (v : WsV) : Prop where
  at_ : ∃ (dl nl cl : Nat) (raw : List Nat), σ[o]? = some (.inst 157 dl) ∧ σ[dl]? = some (.dict [(Str.ofString "raw", .str raw), (Str.ofString "n", .int v.n), (Str.ofString "nt", .int v.nt), (Str.ofString "norm", .ref nl), (Str.ofString "is_simple", .bool (decide (v.count.length ≤ 1)))]) ∧
    σ[nl]? = some (.tuple [.ref cl, .int v.b]) ∧ σ[cl]? = some (.tuple (natL v.count))
theorem WsAt.ext {σ σ' : List AO} {o : Nat} {v : WsV} (h : WsAt σ o v) (k : ExtL σ σ') : WsAt σ' o v :=
  let ⟨dl, nl, cl, raw, a, b, c, e⟩ := h.at_
  ⟨dl, nl, cl, raw, k _ _ a, k _ _ b, k _ _ c, k _ _ e⟩
noncomputable abbrev wlc (o : Nat) (ws : List Nat) (cl b n nt : Nat) (t : Lc) : Lc := (Str.ofString "self", .ref o) :: (Str.ofString "ws", .str ws) :: (Str.ofString "T", .str [9]) :: (Str.ofString "S", .str [32]) :: (Str.ofString "count", .ref cl) :: (Str.ofString "b", .int b) :: (Str.ofString "n", .int n) :: (Str.ofString "nt", .int nt) :: t
theorem swapped_env (ts : List Expr) (e : Expr) {env env' : Env} (h : env.scope = env'.scope) : swappedStores ts e env = swappedStores ts e env' := by
  unfold swappedStores Env.blockKind Env.kindOf
  rw [h]
noncomputable def envS (sc : Scope) : Env := newEnv sc 0 0 [] (Str.ofString "") none .none none 0
theorem natL_get {c : List Nat} {b : Nat} (h : b < c.length) : (natL c)[b]? = some (.int ((c.getD b 0 : Nat) : Int)) := by
  simp [natL, h]
theorem natL_set (c : List Nat) (b x : Nat) : (natL c).set b (.int (x : Int)) = natL (c.set b x) := by
  simp [natL, List.map_set]
theorem natL_zeros (c : List Nat) (m : Nat) : natL c ++ (List.replicate m [AV.int 0]).flatten = natL (c ++ List.replicate m 0) := by
  have : ∀ m, (List.replicate m [AV.int 0]).flatten = List.replicate m (AV.int 0) := by
    intro m
    induction m with
    | zero => rfl
    | succ m ih => rw [List.replicate_succ, List.flatten_cons, ih]; rfl
  simp [natL, this]
structure WInv (σ σ' : List AO) (word : List Nat) (cl : Nat) (v : WsV) : Prop where
  ext : ExtL σ σ'
  dct : σ'[σ.length]? = some (.dict [(Str.ofString "raw", .str word)])
  obj : σ'[σ.length + 1]? = some (.inst 157 σ.length)
  cnt : σ'[cl]? = some (.list (natL v.count))
  hi : σ.length + 2 ≤ cl
theorem WInv.app {σ' τ : List AO} {word : List Nat} {cl : Nat} {v : WsV} (h : WInv σ σ' word cl v) : WInv σ (σ' ++ τ) word cl v :=
  ⟨h.ext.trans .app, get_app h.dct, get_app h.obj, get_app h.cnt, h.hi⟩
theorem WInv.set {σ' : List AO} {word : List Nat} {cl : Nat} {v v' : WsV} (h : WInv σ σ' word cl v) : WInv σ (σ'.set cl (.list (natL v'.count))) word cl v' :=
  have hi := h.hi
  ⟨fun l ao e => by
      have := lt_of_get e
      exact set_other (by omega) (h.ext l ao e), set_other (by omega) h.dct, set_other (by omega) h.obj, set_self h.cnt, h.hi⟩
theorem winit_tail {word : List Nat} {k : AV → List AO → Prop} {σ' : List AO} {cl : Nat} {v : WsV} {t : Lc} (hv : v.count.length ≤ 2000) (hI : WInv σ σ' word cl v) (h : ∀ σ' o, WsAt σ' o v → ExtL σ σ' → k (.ref o) σ') :
    WSs (G0 w mg mb LM) ⟨d, scopeOf (meAt 8 1), [], none⟩ σ' (wlc (σ.length + 1) word cl v.b v.n v.nt t) ((bodyOf (meAt 8 1)).drop 5) (endOf fun u σ' => u = .none ∧ k (.ref (σ.length + 1)) σ') := by
  have hzz : sizeLine = 2 ^ 24 := rfl
  have hi := hI.hi
  refine wss_cons ?_
  repeat walk_at "e"
  refine set_field (so_157 _ _ (by kernel_rfl)) hI.obj hI.dct (by simp) ?_
  have o1 : (σ'.set σ.length (.dict (putV (Str.ofString "n") (.int v.n) [(Str.ofString "raw", .str word)])))[σ.length + 1]? = some (.inst 157 σ.length) := set_other (by omega) hI.obj
  have d1 := set_self (a := .dict (putV (Str.ofString "n") (.int v.n) [(Str.ofString "raw", .str word)])) hI.dct
  have c1 : (σ'.set σ.length (.dict (putV (Str.ofString "n") (.int v.n) [(Str.ofString "raw", .str word)])))[cl]? = some (.list (natL v.count)) := set_other (by omega) hI.cnt
  have x1 : ExtL σ (σ'.set σ.length (.dict (putV (Str.ofString "n") (.int v.n) [(Str.ofString "raw", .str word)]))) := fun l ao e => set_other (by have := lt_of_get e; omega) (hI.ext l ao e)
  generalize σ'.set σ.length (.dict (putV (Str.ofString "n") (.int v.n) [(Str.ofString "raw", .str word)])) = σ1 at *
  repeat walk_at "e"
  refine set_field (so_157 _ _ (by kernel_rfl)) o1 d1 (by simp [putV, ofS_inj]) ?_
  have o2 := set_other (a := .dict (putV (Str.ofString "nt") (.int v.nt) (putV (Str.ofString "n") (.int v.n) [(Str.ofString "raw", .str word)]))) (show σ.length ≠ σ.length + 1 by omega) o1
  have d2 := set_self (a := .dict (putV (Str.ofString "nt") (.int v.nt) (putV (Str.ofString "n") (.int v.n) [(Str.ofString "raw", .str word)]))) d1
  have c2 := set_other (a := .dict (putV (Str.ofString "nt") (.int v.nt) (putV (Str.ofString "n") (.int v.n) [(Str.ofString "raw", .str word)]))) (show σ.length ≠ cl by omega) c1
  have x2 : ExtL σ (σ1.set σ.length (.dict (putV (Str.ofString "nt") (.int v.nt) (putV (Str.ofString "n") (.int v.n) [(Str.ofString "raw", .str word)])))) := fun l ao e => set_other (by have := lt_of_get e; omega) (x1 l ao e)
  generalize σ1.set σ.length (.dict (putV (Str.ofString "nt") (.int v.nt) (putV (Str.ofString "n") (.int v.n) [(Str.ofString "raw", .str word)]))) = σ2 at *
  repeat walk_at "e"
  refine ⟨kp_type, call_tuple c2 (by simp [natL]; omega) ?_⟩
  repeat walk_at "e"
  refine ⟨by simp [sizeLine], ?_⟩
  repeat walk_at "e"
  have o3 := get_app (τ := [AO.tuple (natL v.count), AO.tuple [.ref σ2.length, .int v.b]]) o2
  have d3 := get_app (τ := [AO.tuple (natL v.count), AO.tuple [.ref σ2.length, .int v.b]]) d2
  have c3 := get_app (τ := [AO.tuple (natL v.count), AO.tuple [.ref σ2.length, .int v.b]]) c2
  have x3 : ExtL σ (σ2 ++ [AO.tuple (natL v.count), AO.tuple [.ref σ2.length, .int v.b]]) := x2.trans .app
  have t3 : (σ2 ++ [AO.tuple (natL v.count), AO.tuple [.ref σ2.length, .int v.b]])[σ2.length]? = some (.tuple (natL v.count)) := by rw [app_get0]; rfl
  have u3 : (σ2 ++ [AO.tuple (natL v.count), AO.tuple [.ref σ2.length, .int v.b]])[σ2.length + 1]? = some (.tuple [.ref σ2.length, .int v.b]) := by rw [app_get]; rfl
  have g2 : σ.length + 1 < σ2.length := lt_of_get o2
  walk_at "nz"
  generalize σ2 ++ [AO.tuple (natL v.count), AO.tuple [.ref σ2.length, .int v.b]] = σ3 at *
  refine set_field (so_157 _ _ (by kernel_rfl)) o3 d3 (by simp [putV, ofS_inj]) ?_
  have e3 : putV (Str.ofString "norm") (.ref (σ2.length + 1)) (putV (Str.ofString "nt") (.int v.nt) (putV (Str.ofString "n") (.int v.n) [(Str.ofString "raw", .str word)])) = [(Str.ofString "raw", .str word), (Str.ofString "n", .int v.n), (Str.ofString "nt", .int v.nt), (Str.ofString "norm", .ref (σ2.length + 1))] := by simp [putV, ofS_inj]
  rw [e3]
  generalize hD : AO.dict [(Str.ofString "raw", .str word), (Str.ofString "n", .int v.n), (Str.ofString "nt", .int v.nt), (Str.ofString "norm", .ref (σ2.length + 1))] = D
  have o4 := set_other (a := D) (show σ.length ≠ σ.length + 1 by omega) o3
  have d4 := set_self (a := D) d3
  have c4 := set_other (a := D) (show σ.length ≠ cl by omega) c3
  have t4 := set_other (a := D) (show σ.length ≠ σ2.length by omega) t3
  have u4 := set_other (a := D) (show σ.length ≠ σ2.length + 1 by omega) u3
  have x4 : ExtL σ (σ3.set σ.length D) := fun l ao e => set_other (by have := lt_of_get e; omega) (x3 l ao e)
  generalize σ3.set σ.length D = σ4 at *
  repeat walk_at "e"
  refine ⟨kp_builtin, call_len_list c4 (by simp [natL]; omega) ?_⟩
  repeat walk_at "e"
  rw [← hD] at d4
  refine set_field (so_157 _ _ (by kernel_rfl)) o4 d4 (by simp) ?_
  repeat walk_at "e"
  refine ⟨rfl, h _ _ ⟨⟨σ.length, σ2.length + 1, σ2.length, word, set_other (by omega) o4, ?_, set_other (by omega) u4, set_other (by omega) t4⟩⟩ fun l ao e => set_other (by have := lt_of_get e; omega) (x4 l ao e)⟩
  rw [set_self d4]
  have : decide (((natL v.count).length : Int) ≤ 1) = decide (v.count.length ≤ 1) := by
    simp only [natL, List.length_map]
    by_cases q : v.count.length ≤ 1
    · rw [decide_eq_true q, decide_eq_true (by omega)]
    · rw [decide_eq_false q, decide_eq_false (by omega)]
  rw [this]
  simp [putV, ofS_inj]
set_option maxHeartbeats 4000000 in
theorem winit {word : List Nat} {k : AV → List AO → Prop} (hz : word.length ≤ 1000) (h : ∀ σ' o, WsAt σ' o (wsF word ws0) → ExtL σ σ' → k (.ref o) σ') :
    WCall (G0 w mg mb LM) (d + 2) σ lc (.top (.ref 157)) [.str word] k := by
  have hzz : sizeLine = 2 ^ 24 := rfl
  refine make2 (mk_157 _).1 (mk_157 _).2.1 (mk_157 _).2.2.1 (fn_winit _) (bd_winit _) (by decide +kernel) (by decide +kernel) (by decide +kernel) (by decide +kernel) (by decide +kernel) (by decide +kernel) (by decide +kernel) ?_
  refine wss_cons ?_
  repeat walk_at "e"
  refine set_field (fs := []) (dl := σ.length) (C := 157) (so_157 _ _ (by kernel_rfl)) (by simp) (by simp) (by simp) ?_
  walk_at "nz"
  repeat walk_at "e"
  refine ws_swap2 (fun _ => rfl) (fun as L env Re => ?_) ?_
  · rw [swapped_env _ _ (env' := envS (scopeOf (meAt 8 1))) Re.scope]
    kernel_rfl
  repeat walk_at "e"
  obtain ⟨tS, hS⟩ := ca_S w.params
  obtain ⟨tT, hT⟩ := ca_T w.params
  refine get_cls (ca_reads _) hS rfl (x := .str [32]) (fun as => ⟨tS, by rw [cs8]⟩) ?_
  repeat walk_at "e"
  refine get_cls (ca_reads _) hT rfl (x := .str [9]) (fun as => ⟨tT, by rw [cs9]⟩) ?_
  repeat walk_at "e"
  refine ⟨by simp [sizeLine], ?_⟩
  refine ⟨_, _, _, rfl, new_get, ?_⟩
  refine wns_cons ?_
  repeat walk_at "e"
  refine wns_cons ?_
  repeat walk_at "e"
  refine wns_nil ?_
  walk_at "nz"
  repeat walk_at "e"
  refine ⟨by simp [sizeLine], ?_⟩
  repeat walk_at "e"
  walk_at "nz"
  refine ws_assign3 ?_
  repeat walk_at "e"
  have hraw : putV (Str.ofString "raw") (.str word) [] = [(Str.ofString "raw", .str word)] := rfl
  rw [hraw]
  have hI0 : WInv σ (σ ++ [AO.dict [(Str.ofString "raw", .str word)], AO.inst 157 σ.length, AO.tuple [AV.str [32], AV.str [9]], AO.list []]) word (σ.length + 3) ws0 :=
    ⟨.app, by rw [app_get0]; rfl, by rw [app_get]; rfl, by rw [app_get]; rfl, by omega⟩
  generalize σ ++ [AO.dict [(Str.ofString "raw", .str word)], AO.inst 157 σ.length, AO.tuple [AV.str [32], AV.str [9]], AO.list []] = σ1 at *
  have ch_put : ∀ (cl b n nt : Nat) (t : Lc) (v : AV), (t = [] ∨ ∃ u, t = [(Str.ofString "ch", u)]) → putV (Str.ofString "ch") v (wlc (σ.length + 1) word cl b n nt t) = wlc (σ.length + 1) word cl b n nt [(Str.ofString "ch", v)] := by
    intro cl b n nt t v ht
    rcases ht with rfl | ⟨u, rfl⟩ <;> simp [putV, ofS_inj]
  have b_put : ∀ (cl b n nt b' : Nat) (t : Lc), putV (Str.ofString "b") (.int b') (wlc (σ.length + 1) word cl b n nt t) = wlc (σ.length + 1) word cl b' n nt t := by intros; simp [putV, ofS_inj]
  have n_put : ∀ (cl b n nt n' : Nat) (t : Lc), putV (Str.ofString "n") (.int n') (wlc (σ.length + 1) word cl b n nt t) = wlc (σ.length + 1) word cl b n' nt t := by intros; simp [putV, ofS_inj]
  have nt_put : ∀ (cl b n nt nt' : Nat) (t : Lc), putV (Str.ofString "nt") (.int nt') (wlc (σ.length + 1) word cl b n nt t) = wlc (σ.length + 1) word cl b n nt' t := by intros; simp [putV, ofS_inj]
  have c_put : ∀ (cl b n nt cl' : Nat) (t : Lc), putV (Str.ofString "count") (.ref cl') (wlc (σ.length + 1) word cl b n nt t) = wlc (σ.length + 1) word cl' b n nt t := by intros; simp [putV, ofS_inj]
  refine ws_for (fun _ _ => rfl) ?_
  repeat walk_at "e"
  refine get_field (fo_raw _) hI0.obj hI0.dct (by walk_at "gv") rfl ?_
  refine ⟨word.map fun ch => .str [ch], fun _ => True, fun i σ' lc' => ∃ (cl : Nat) (v : WsV) (t : Lc), (t = [] ∨ ∃ u, t = [(Str.ofString "ch", u)]) ∧ lc' = wlc (σ.length + 1) word cl v.b v.n v.nt t ∧ WInv σ σ' word cl v ∧ wsF (word.drop i) v = wsF word ws0 ∧ v.b ≤ i ∧ v.count.length ≤ i, it_str, ⟨σ.length + 3, ws0, [], .inl rfl, rfl, hI0, rfl, Nat.le_refl _, Nat.le_refl _⟩, fun _ _ _ _ => trivial, ?turn, ?fin⟩
  case fin =>
    rintro σ' lc' ⟨cl, v, t, ht, rfl, hI, hw, hb, hc⟩
    rw [List.length_map, List.drop_length] at hw
    rw [List.length_map] at hc
    rw [← hw] at h
    exact winit_tail (by omega) hI h
  case turn =>
    rintro i y σ' lc' hy ⟨cl, v, t, ht, rfl, hI, hw, hb, hc⟩
    have hi : i < word.length := by
      rcases Nat.lt_or_ge i word.length with q | q
      · exact q
      · rw [List.getElem?_eq_none (by simpa using q)] at hy; cases hy
    rw [List.drop_eq_getElem_cons hi] at hw
    rw [List.getElem?_map, List.getElem?_eq_getElem hi] at hy
    cases hy
    generalize word[i] = ch at *
    refine wn_loc' (by kernel_rfl) (ch_put _ _ _ _ _ _ ht) ?_
    refine wss_cons ?_
    repeat walk_at "e"
    have hw' : wsF (ch :: word.drop (i + 1)) v = if ch = 32 then wsF (word.drop (i + 1)) ⟨v.count, v.b + 1, v.n + 1, v.nt⟩ else if ch = 9 then wsF (word.drop (i + 1)) ⟨bump v.count v.b, 0, v.n + 1, v.nt + 1⟩ else v := rfl
    rw [hw'] at hw
    by_cases h1 : ch = 32
    · subst h1
      rw [if_pos rfl] at hw
      refine ite_yes ?_
      repeat walk_at "e"
      exact ⟨cl, ⟨v.count, v.b + 1, v.n + 1, v.nt⟩, [(Str.ofString "ch", .str [32])], .inr ⟨_, rfl⟩, by simp, ⟨hI.ext, hI.dct, hI.obj, hI.cnt, hI.hi⟩, hw, by show v.b + 1 ≤ i + 1; omega, by show v.count.length ≤ i + 1; omega⟩
    · have hb1 : ([ch] == [32]) = false := by simpa using h1
      rw [if_neg h1] at hw
      rw [hb1]
      refine ite_no ?_
      repeat walk_at "e"
      by_cases h2 : ch = 9
      · subst h2
        rw [if_pos rfl] at hw
        refine ite_yes ?_
        repeat walk_at "e"
        refine ⟨kp_builtin, call_len_list hI.cnt (by simp [natL]; omega) ?_⟩
        repeat walk_at "e"
        have hlen : (natL v.count).length = v.count.length := by simp [natL]
        rw [hlen]
        by_cases hbl : v.count.length ≤ v.b
        · have hde : decide ((v.b : Int) ≥ (v.count.length : Int)) = true := decide_eq_true (by omega)
          rw [hde]
          refine ite_yes ?_
          repeat walk_at "e"
          refine ⟨by simp [sizeLine], ?_⟩
          repeat walk_at "e"
          have hIa : WInv σ (σ' ++ [AO.list [AV.int 0]]) word cl v := hI.app
          refine ⟨kp_builtin, call_len_list hIa.cnt (by simp [natL]; omega) ?_⟩
          repeat walk_at "e"
          rw [hlen]
          have htn : ((v.b : Int) - (v.count.length : Int) + 1).toNat = v.b - v.count.length + 1 := by omega
          refine bin_mul_list (xs := [AV.int 0]) new_get (by omega) (by omega) (by rw [htn]; simp; omega) ?_
          rw [htn]
          refine bin_add_list (get_app hIa.cnt) new_get (by simp [natL]; omega) ?_
          rw [natL_zeros]
          have hcn : v.count.length ≤ i := hc
          generalize hc1 : v.count ++ List.replicate (v.b - v.count.length + 1) 0 = c1
          have hl1 : c1.length = v.b + 1 := by rw [← hc1]; simp; omega
          have hbump : bump v.count v.b = c1.set v.b (c1.getD v.b 0 + 1) := by unfold bump; rw [if_pos hbl, hc1]
          have hIb : WInv σ (σ' ++ [AO.list [AV.int 0]] ++ [AO.list (List.replicate (v.b - v.count.length + 1) [AV.int 0]).flatten]) word cl v := hIa.app
          have hgl : σ.length + 2 ≤ (σ' ++ [AO.list [AV.int 0]] ++ [AO.list (List.replicate (v.b - v.count.length + 1) [AV.int 0]).flatten]).length := by
            have := lt_of_get hI.cnt
            have := hI.hi
            simp; omega
          generalize σ' ++ [AO.list [AV.int 0]] ++ [AO.list (List.replicate (v.b - v.count.length + 1) [AV.int 0]).flatten] = σ2 at *
          have hcc : (σ2 ++ [AO.list (natL c1)])[σ2.length]? = some (.list (natL c1)) := new_get
          have hIc : WInv σ (σ2 ++ [AO.list (natL c1)]) word σ2.length ⟨c1, v.b, v.n, v.nt⟩ := ⟨hIb.ext.trans .app, get_app hIb.dct, get_app hIb.obj, new_get, hgl⟩
          repeat walk_at "e"
          refine ws_setitem (fun _ => rfl) ?_
          repeat walk_at "e"
          refine sub_list hcc (by omega) (by omega) (by rw [Int.toNat_natCast]; exact natL_get (by omega)) ?_ (fun _ _ => rfl)
          repeat walk_at "e"
          refine ⟨_, _, _, rfl, rfl, hcc, by omega, by simp [natL]; omega, by simp [natL]; omega, ?_⟩
          rw [Int.toNat_natCast, show ((c1.getD v.b 0 : Nat) : Int) + 1 = ((c1.getD v.b 0 + 1 : Nat) : Int) from rfl, natL_set, ← hbump]
          repeat walk_at "e"
          exact ⟨σ2.length, ⟨bump v.count v.b, 0, v.n + 1, v.nt + 1⟩, [(Str.ofString "ch", .str [9])], .inr ⟨_, rfl⟩, by simp, hIc.set (v' := ⟨bump v.count v.b, 0, v.n + 1, v.nt + 1⟩), hw, Nat.zero_le _, by show (bump v.count v.b).length ≤ i + 1; rw [hbump]; simp; omega⟩
        · have hde : decide ((v.b : Int) ≥ (v.count.length : Int)) = false := decide_eq_false (by omega)
          rw [hde]
          refine ite_no ?_
          have hbump : bump v.count v.b = v.count.set v.b (v.count.getD v.b 0 + 1) := by unfold bump; rw [if_neg hbl]
          repeat walk_at "e"
          refine ws_setitem (fun _ => rfl) ?_
          repeat walk_at "e"
          refine sub_list hI.cnt (by omega) (by omega) (by rw [Int.toNat_natCast]; exact natL_get (by omega)) ?_ (fun _ _ => rfl)
          repeat walk_at "e"
          refine ⟨_, _, _, rfl, rfl, hI.cnt, by omega, by simp [natL]; omega, by simp [natL]; omega, ?_⟩
          rw [Int.toNat_natCast, show ((v.count.getD v.b 0 : Nat) : Int) + 1 = ((v.count.getD v.b 0 + 1 : Nat) : Int) from rfl, natL_set, ← hbump]
          repeat walk_at "e"
          exact ⟨cl, ⟨bump v.count v.b, 0, v.n + 1, v.nt + 1⟩, [(Str.ofString "ch", .str [9])], .inr ⟨_, rfl⟩, by simp, hI.set (v' := ⟨bump v.count v.b, 0, v.n + 1, v.nt + 1⟩), hw, Nat.zero_le _, by show (bump v.count v.b).length ≤ i + 1; rw [hbump]; simp; omega⟩
      · have hb2 : ([ch] == [9]) = false := by simpa using h2
        rw [if_neg h2] at hw
        rw [hb2]
        refine ite_no ?_
        refine wss_cons ?_
        refine ws_break ?_
        repeat (first | refine seq_brk ?_ | refine for_brk ?_)
        rw [← hw] at h
        exact seq_next (winit_tail (by omega) hI h)
end

section
variable {w : World} {mg mb : Str → Option Value} {LM : Nat → Addr → Obj → Prop} {σ : List AO} {lc : Lc} {d : Nat}
theorem small_bits {a : Nat} (h : a < 2 ^ 63) : Builtin.Int.intBits (a : Int) ≤ 64 := by
  unfold Builtin.Int.intBits
  split
  · omega
  · rename_i hne
    have h0 : a ≠ 0 := fun z => by subst z; simp at hne
    have : a.log2 < 63 := (Nat.log2_lt h0).mpr h
    simp only [Int.natAbs_natCast]
    omega
noncomputable def longF (v : WsV) : Int := max ((v.count.length : Int) - 1) (v.b : Int)
theorem long_call {o : Nat} {v : WsV} {k : AV → List AO → Prop} (hz : v.count.length ≤ 2000) (hW : WsAt σ o v) (h : k (.int (longF v)) σ) : WCall (G0 w mg mb LM) (d + 1) σ lc (.top (.ref 119)) [.ref o] k := by
  have hzz : sizeLine = 2 ^ 24 := rfl
  obtain ⟨dl, nl, cl, raw, h1, h2, h3, h4⟩ := hW.at_
  refine call1 (fn_wlong _) (bd_wlong _) (by decide +kernel) (by decide +kernel) (by decide +kernel) (by decide +kernel) (by decide +kernel) ?_
  refine wss_cons ?_
  refine ws_unpack2 (fun _ => rfl) (fun _ => rfl) ?_
  repeat walk_at "e"
  refine get_field (fo_norm _) h1 h2 (by walk_at "gv") rfl ?_
  refine ⟨_, _, _, rfl, h3, ?_⟩
  refine wns_cons ?_
  repeat walk_at "e"
  refine wns_cons ?_
  repeat walk_at "e"
  refine wns_nil ?_
  repeat walk_at "e"
  refine ⟨kp_builtin, call_len_tuple h4 (by simp [natL]; omega) ?_⟩
  repeat walk_at "e"
  refine ⟨kp_builtin, call_max2 ?_⟩
  repeat walk_at "e"
  have : (natL v.count).length = v.count.length := by simp [natL]
  rw [this]
  exact h
noncomputable def ilF (ts : Nat) (count : List Nat) : Nat → Nat
  | 0 => 0
  | j + 1 => ilF ts count j + (ts + j) / ts * count.getD (ts + j) 0
noncomputable def indF (v : WsV) (ts : Nat) : Nat := v.b + ts * (ilF ts v.count (v.count.length - ts) + v.nt)
noncomputable abbrev ilc (o cl ts b il : Nat) (t : Lc) : Lc := (Str.ofString "self", .ref o) :: (Str.ofString "tabsize", .int ts) :: (Str.ofString "count", .ref cl) :: (Str.ofString "trailing", .int b) :: (Str.ofString "il", .int il) :: t
theorem indent_call {o : Nat} {v : WsV} {ts : Nat} {k : AV → List AO → Prop} (hz : v.count.length ≤ 2000) (hts : 0 < ts) (hts' : ts ≤ 2000) (hW : WsAt σ o v) (h : k (.int (indF v ts : Nat)) σ) : WCall (G0 w mg mb LM) (d + 1) σ lc (.top (.ref 126)) [.ref o, .int ts] k := by
  have hzz : sizeLine = 2 ^ 24 := rfl
  obtain ⟨dl, nl, cl, raw, h1, h2, h3, h4⟩ := hW.at_
  refine call2 (fn_windent _) (bd_windent _) (by decide +kernel) (by decide +kernel) (by decide +kernel) (by decide +kernel) (by decide +kernel) (by decide +kernel) (by decide +kernel) ?_
  refine wss_cons ?_
  refine ws_unpack2 (fun _ => rfl) (fun _ => rfl) ?_
  repeat walk_at "e"
  refine get_field (fo_norm _) h1 h2 (by walk_at "gv") rfl ?_
  refine ⟨_, _, _, rfl, h3, ?_⟩
  refine wns_cons ?_
  repeat walk_at "e"
  refine wns_cons ?_
  repeat walk_at "e"
  refine wns_nil ?_
  repeat walk_at "e"
  refine ws_forE (fun _ _ => rfl) ?_
  refine wite_call (fun _ => rfl) (fun _ => rfl) (fun _ => rfl) ?_
  repeat walk_at "e"
  refine ⟨kp_builtin, call_len_tuple h4 (by simp [natL]; omega) ?_⟩
  repeat walk_at "e"
  have hlen : (natL v.count).length = v.count.length := by simp [natL]
  rw [hlen]
  have hn : ((v.count.length : Int) - (ts : Int)).toNat = v.count.length - ts := by omega
  refine ⟨_, rfl, callit_range2 (by kernel_rfl) (by omega) (by omega) (by omega) (by omega) ?_⟩
  rw [hn]
  have hrl : (rangeL (ts : Int) (v.count.length - ts)).length = v.count.length - ts := by simp [rangeL]
  rw [hrl]
  refine ⟨fun i σ' lc' => σ' = σ ∧ ∃ t : Lc, (t = [] ∨ ∃ u, t = [(Str.ofString "i", u)]) ∧ lc' = ilc o cl ts v.b (ilF ts v.count i) t, ⟨rfl, [], .inl rfl, rfl⟩, fun _ _ _ _ => trivial, ?turn, ?fin⟩
  case fin =>
    rintro _ _ ⟨rfl, t, ht, rfl⟩
    repeat walk_at "e"
    refine get_field (fo_nt _) h1 h2 (by walk_at "gv") rfl ?_
    repeat walk_at "e"
    refine bin_mul_int (.of_left (small_bits (by omega))) ?_
    repeat walk_at "e"
    have e : (v.b : Int) + (ts : Int) * ((ilF ts v.count (v.count.length - ts) : Nat) + (v.nt : Int)) = ((indF v ts : Nat) : Int) := by simp [indF]
    rw [e]
    exact h
  case turn =>
    rintro i _ _ hi ⟨rfl, t, ht, rfl⟩
    have hg : (rangeL (ts : Int) (v.count.length - ts)).getD i .none = .int ((ts + i : Nat) : Int) := by
      simp [rangeL, hi]
    have ep : putV (Str.ofString "i") (.int ((ts + i : Nat) : Int)) (ilc o cl ts v.b (ilF ts v.count i) t) = ilc o cl ts v.b (ilF ts v.count i) [(Str.ofString "i", .int ((ts + i : Nat) : Int))] := by
      rcases ht with rfl | ⟨u, rfl⟩ <;> simp [putV, ofS_inj]
    show WSs _ _ _ (putV (Str.ofString "i") ((rangeL (ts : Int) (v.count.length - ts)).getD i .none) (ilc o cl ts v.b (ilF ts v.count i) t)) _ _
    rw [hg, ep]
    refine wss_cons ?_
    repeat walk_at "e"
    refine bin_div_int (by omega) (by omega) ?_
    repeat walk_at "e"
    refine sub_tuple h4 (by omega) (by omega) (by rw [Int.toNat_natCast]; exact natL_get (by omega)) ?_ (fun _ _ => rfl)
    have hdiv : ((ts + i : Nat) : Int) / (ts : Int) = (((ts + i) / ts : Nat) : Int) := by simp
    rw [hdiv]
    refine bin_mul_int (.of_left (small_bits (Nat.lt_of_le_of_lt (Nat.div_le_self _ _) (by omega)))) ?_
    repeat walk_at "e"
    refine ⟨rfl, [(Str.ofString "i", .int ((ts + i : Nat) : Int))], .inr ⟨_, rfl⟩, ?_⟩
    simp [ilF]
end

section
variable {w : World} {mg mb : Str → Option Value} {LM : Nat → Addr → Obj → Prop} {σ : List AO} {lc : Lc} {d : Nat}
noncomputable def simpleF (v : WsV) : Bool := decide (v.count.length ≤ 1)
noncomputable def runsF (v u : WsV) : Nat := (max (longF v) (longF u) + 1 + 1 - 2).toNat
noncomputable def lessF (v u : WsV) : Bool := if u.n ≤ v.n then false else if simpleF v && simpleF u then decide (v.nt ≤ u.nt) else (List.range (runsF v u)).all fun i => decide (indF v (2 + i) < indF u (2 + i))
set_option maxHeartbeats 1000000 in
theorem less_call {o p : Nat} {v u : WsV} {k : AV → List AO → Prop} (hz : v.count.length ≤ 1000) (hz' : u.count.length ≤ 1000) (hb : v.b ≤ 1000) (hb' : u.b ≤ 1000) (hV : WsAt σ o v) (hU : WsAt σ p u) (h : k (.bool (lessF v u)) σ) : WCall (G0 w mg mb LM) (d + 2) σ lc (.top (.ref 147)) [.ref o, .ref p] k := by
  have hzz : sizeLine = 2 ^ 24 := rfl
  obtain ⟨dl, nl, cl, raw, h1, h2, h3, h4⟩ := hV.at_
  obtain ⟨dl', nl', cl', raw', g1, g2, g3, g4⟩ := hU.at_
  refine call2 (fn_wless _) (bd_wless _) (by decide +kernel) (by decide +kernel) (by decide +kernel) (by decide +kernel) (by decide +kernel) (by decide +kernel) (by decide +kernel) ?_
  refine wss_cons ?_
  repeat walk_at "e"
  refine get_field (fo_n _) h1 h2 (by walk_at "gv") rfl ?_
  repeat walk_at "e"
  refine get_field (fo_n _) g1 g2 (by walk_at "gv") rfl ?_
  repeat walk_at "e"
  unfold lessF at h
  by_cases hn : u.n ≤ v.n
  · rw [if_pos hn] at h
    rw [show decide ((v.n : Int) ≥ (u.n : Int)) = true from decide_eq_true (by omega)]
    refine ite_yes ?_
    repeat walk_at "e"
    exact h
  rw [if_neg hn] at h
  rw [show decide ((v.n : Int) ≥ (u.n : Int)) = false from decide_eq_false (by omega)]
  refine ite_no ?_
  repeat walk_at "e"
  refine wb_val (fun _ _ => rfl) ?_
  repeat walk_at "e"
  refine get_field (fo_simple _) h1 h2 (by walk_at "gv") rfl ?_
  repeat walk_at "e"
  have mid : ∀ k' : AF → List AO → Lc → Prop, (k' = fun f σ lc => endOf k f σ lc) → (simpleF v && simpleF u) = false →
      WSs (G0 w mg mb LM) ⟨d + 1, scopeOf (meAt 8 6), [], none⟩ σ [(Str.ofString "self", .ref o), (Str.ofString "other", .ref p)] ((bodyOf (meAt 8 6)).drop 2) k' := by
    intro k' hk' hs
    subst hk'
    rw [if_neg (by rw [hs]; simp)] at h
    refine wss_cons ?_
    repeat walk_at "e"
    refine meth_inst (mo_long _) h1 h2 (by walk_at "gv") ?_
    repeat walk_at "e"
    refine ⟨kp_K (fn_wlong _).keep, long_call (by omega) hV ?_⟩
    repeat walk_at "e"
    refine meth_inst (mo_long _) g1 g2 (by walk_at "gv") ?_
    repeat walk_at "e"
    refine ⟨kp_K (fn_wlong _).keep, long_call (by omega) hU ?_⟩
    repeat walk_at "e"
    refine ⟨kp_builtin, call_max2 ?_⟩
    repeat walk_at "e"
    refine ws_forE (fun _ _ => rfl) ?_
    refine wite_call (fun _ => rfl) (fun _ => rfl) (fun _ => rfl) ?_
    repeat walk_at "e"
    have l1 : longF v ≤ 1000 := by unfold longF; omega
    have l2 : longF u ≤ 1000 := by unfold longF; omega
    have l3 : -1 ≤ longF v := by unfold longF; omega
    refine ⟨_, rfl, callit_range2 (by kernel_rfl) (by omega) (by omega) (by omega) (by omega) ?_⟩
    have hm : (max (longF v) (longF u) + 1 + 1 - 2).toNat = runsF v u := rfl
    have hm' : runsF v u ≤ 1000 := by unfold runsF; omega
    rw [hm]
    have hrl : (rangeL 2 (runsF v u)).length = runsF v u := by simp [rangeL]
    rw [hrl]
    refine ⟨fun i σ' lc' => σ' = σ ∧ (∃ t : Lc, (t = [] ∨ ∃ u, t = [(Str.ofString "ts", u)]) ∧ lc' = (Str.ofString "self", .ref o) :: (Str.ofString "other", .ref p) :: (Str.ofString "n", .int (max (longF v) (longF u) + 1)) :: t) ∧ ∀ j, j < i → indF v (2 + j) < indF u (2 + j), ⟨rfl, ⟨[], .inl rfl, rfl⟩, fun j hj => by omega⟩, fun _ _ _ _ => trivial, ?turn, ?fin⟩
    case fin =>
      rintro _ _ ⟨rfl, ⟨t, ht, rfl⟩, hall⟩
      repeat walk_at "e"
      have : (List.range (runsF v u)).all (fun i => decide (indF v (2 + i) < indF u (2 + i))) = true := by
        rw [List.all_eq_true]
        intro j hj
        exact decide_eq_true (hall j (List.mem_range.mp hj))
      rw [this] at h
      exact h
    case turn =>
      rintro i _ _ hi ⟨rfl, ⟨t, ht, rfl⟩, hall⟩
      have hg : (rangeL 2 (runsF v u)).getD i .none = .int ((2 + i : Nat) : Int) := by simp [rangeL, hi]
      have ep : putV (Str.ofString "ts") (.int ((2 + i : Nat) : Int)) ((Str.ofString "self", .ref o) :: (Str.ofString "other", .ref p) :: (Str.ofString "n", .int (max (longF v) (longF u) + 1)) :: t) = [(Str.ofString "self", .ref o), (Str.ofString "other", .ref p), (Str.ofString "n", .int (max (longF v) (longF u) + 1)), (Str.ofString "ts", .int ((2 + i : Nat) : Int))] := by
        rcases ht with rfl | ⟨u, rfl⟩ <;> simp [putV, ofS_inj]
      show WSs _ _ _ (putV (Str.ofString "ts") ((rangeL 2 (runsF v u)).getD i .none) ((Str.ofString "self", .ref o) :: (Str.ofString "other", .ref p) :: (Str.ofString "n", .int (max (longF v) (longF u) + 1)) :: t)) _ _
      rw [hg, ep]
      refine wss_cons ?_
      repeat walk_at "e"
      refine meth_inst (mo_indent _) h1 h2 (by walk_at "gv") ?_
      repeat walk_at "e"
      refine ⟨kp_K (fn_windent _).keep, indent_call (by omega) (by omega) (by omega) hV ?_⟩
      repeat walk_at "e"
      refine meth_inst (mo_indent _) g1 g2 (by walk_at "gv") ?_
      repeat walk_at "e"
      refine ⟨kp_K (fn_windent _).keep, indent_call (by omega) (by omega) (by omega) hU ?_⟩
      repeat walk_at "e"
      by_cases hq : indF v (2 + i) < indF u (2 + i)
      · rw [show decide (((indF v (2 + i) : Nat) : Int) ≥ ((indF u (2 + i) : Nat) : Int)) = false from decide_eq_false (by omega)]
        refine ite_no ?_
        repeat walk_at "e"
        refine ⟨rfl, ⟨[(Str.ofString "ts", .int ((2 + i : Nat) : Int))], .inr ⟨_, rfl⟩, rfl⟩, fun j hj => ?_⟩
        rcases Nat.lt_or_ge j i with z | z
        · exact hall j z
        · have : j = i := by omega
          rw [this]; exact hq
      · rw [show decide (((indF v (2 + i) : Nat) : Int) ≥ ((indF u (2 + i) : Nat) : Int)) = true from decide_eq_true (by omega)]
        refine ite_yes ?_
        repeat walk_at "e"
        have : (List.range (runsF v u)).all (fun i => decide (indF v (2 + i) < indF u (2 + i))) = false := by
          rw [List.all_eq_false]
          exact ⟨i, List.mem_range.mpr hi, by simp [hq]⟩
        rw [this] at h
        exact h
  cases hs : simpleF v with
  | false =>
    rw [show decide (v.count.length ≤ 1) = false from hs]
    refine ite_no ?_
    refine ite_no ?_
    refine wss_nil ?_
    exact seq_next (mid _ rfl (by rw [hs]; rfl))
  | true =>
    rw [show decide (v.count.length ≤ 1) = true from hs]
    refine ite_yes ?_
    refine wb_val (fun _ _ => rfl) ?_
    repeat walk_at "e"
    refine get_field (fo_simple _) g1 g2 (by walk_at "gv") rfl ?_
    repeat walk_at "e"
    cases hs' : simpleF u with
    | false =>
      rw [show decide (u.count.length ≤ 1) = false from hs']
      refine ite_no ?_
      refine wss_nil ?_
      exact seq_next (mid _ rfl (by rw [hs, hs']; rfl))
    | true =>
      rw [show decide (u.count.length ≤ 1) = true from hs']
      refine ite_yes ?_
      repeat walk_at "e"
      refine get_field (fo_nt _) h1 h2 (by walk_at "gv") rfl ?_
      repeat walk_at "e"
      refine get_field (fo_nt _) g1 g2 (by walk_at "gv") rfl ?_
      repeat walk_at "e"
      rw [if_pos (by rw [hs, hs']; rfl)] at h
      have : decide ((v.nt : Int) ≤ (u.nt : Int)) = decide (v.nt ≤ u.nt) := by
        by_cases q : v.nt ≤ u.nt
        · rw [decide_eq_true q, decide_eq_true (by omega)]
        · rw [decide_eq_false q, decide_eq_false (by omega)]
      rw [this]
      exact h
end

section
variable {w : World} {mg mb : Str → Option Value} {LM : Nat → Addr → Obj → Prop} {σ : List AO} {lc : Lc} {d : Nat}
noncomputable def colS (size c s : Nat) : Nat := if s = 32 then c + 1 else (c / size + 1) * size
noncomputable def colF (lead : List Nat) (size : Nat) : Nat := lead.foldl (colS size) 0
noncomputable def colsF (lead : List Nat) (m : Nat) : List Nat := (List.range m).map fun i => colF lead (1 + i)
set_option maxHeartbeats 1000000 in
theorem columns_call {lead : List Nat} {k : AV → List AO → Prop} (h : k (.ref σ.length) (σ ++ [.list (natL (colsF lead 5))])) : WCall (G0 w mg mb LM) (d + 1) σ lc (.top (.ref 180)) [.str lead] k := by
  have hzz : sizeLine = 2 ^ 24 := rfl
  refine call1 (fn_columns _) (bd_columns _) (by decide +kernel) (by decide +kernel) (by decide +kernel) (by decide +kernel) (by decide +kernel) ?_
  refine wss_cons ?_
  repeat walk_at "e"
  refine ⟨by simp [sizeLine], ?_⟩
  repeat walk_at "e"
  refine ws_forE (fun _ _ => rfl) ?_
  refine wite_call (fun _ => rfl) (fun _ => rfl) (fun _ => rfl) ?_
  repeat walk_at "e"
  refine ⟨_, rfl, callit_range2 (by kernel_rfl) (by omega) (by omega) (by omega) (by omega) ?_⟩
  have hrl : (rangeL 1 (6 - 1 : Int).toNat).length = 5 := by simp [rangeL]
  rw [hrl]
  refine ⟨fun i σ' lc' => σ' = σ ++ [.list (natL (colsF lead i))] ∧ ∃ t : Lc, (t = [] ∨ ∃ a b u, t = (Str.ofString "size", a) :: (Str.ofString "column", b) :: u ∧ (u = [] ∨ ∃ s, u = [(Str.ofString "sign", s)])) ∧ lc' = (Str.ofString "lead", .str lead) :: (Str.ofString "columns", .ref σ.length) :: t, ⟨rfl, [], .inl rfl, rfl⟩, fun _ _ _ _ => trivial, ?turn, ?fin⟩
  case fin =>
    rintro _ _ ⟨rfl, t, ht, rfl⟩
    repeat walk_at "e"
    exact h
  case turn =>
    rintro i _ _ hi ⟨rfl, t, ht, rfl⟩
    have hg : (rangeL 1 (6 - 1 : Int).toNat).getD i .none = .int ((1 + i : Nat) : Int) := by
      have : (6 - 1 : Int).toNat = 5 := rfl
      rw [this]; simp [rangeL, hi]
    have hs : ∃ t2 : Lc, (t2 = [] ∨ ∃ b u, t2 = (Str.ofString "column", b) :: u ∧ (u = [] ∨ ∃ s, u = [(Str.ofString "sign", s)])) ∧ putV (Str.ofString "size") (.int ((1 + i : Nat) : Int)) ((Str.ofString "lead", .str lead) :: (Str.ofString "columns", .ref σ.length) :: t) = (Str.ofString "lead", .str lead) :: (Str.ofString "columns", .ref σ.length) :: (Str.ofString "size", .int ((1 + i : Nat) : Int)) :: t2 := by
      rcases ht with rfl | ⟨a, b, u, rfl, hu⟩
      · exact ⟨[], .inl rfl, by simp [putV, ofS_inj]⟩
      · exact ⟨_, .inr ⟨b, u, rfl, hu⟩, by simp [putV, ofS_inj]⟩
    obtain ⟨t2, ht2, ep⟩ := hs
    show WSs _ _ _ (putV (Str.ofString "size") ((rangeL 1 (6 - 1 : Int).toNat).getD i .none) ((Str.ofString "lead", .str lead) :: (Str.ofString "columns", .ref σ.length) :: t)) _ _
    rw [hg, ep]
    have hs : ∃ u : Lc, (u = [] ∨ ∃ s, u = [(Str.ofString "sign", s)]) ∧ putV (Str.ofString "column") (.int 0) ((Str.ofString "lead", .str lead) :: (Str.ofString "columns", .ref σ.length) :: (Str.ofString "size", .int ((1 + i : Nat) : Int)) :: t2) = (Str.ofString "lead", .str lead) :: (Str.ofString "columns", .ref σ.length) :: (Str.ofString "size", .int ((1 + i : Nat) : Int)) :: (Str.ofString "column", .int 0) :: u := by
      rcases ht2 with rfl | ⟨b, u, rfl, hu⟩
      · exact ⟨[], .inl rfl, by simp [putV, ofS_inj]⟩
      · exact ⟨u, hu, by simp [putV, ofS_inj]⟩
    obtain ⟨u, hu, ep2⟩ := hs
    refine wss_cons ?_
    refine ws_assign (fun _ => rfl) ?_
    refine we_int ?_
    refine wn_loc' (by kernel_rfl) ep2 ?_
    refine seq_next ?_
    refine wss_cons ?_
    refine ws_for (fun _ _ => rfl) ?_
    repeat walk_at "e"
    refine ⟨lead.map fun ch => .str [ch], fun _ => True, fun j σ' lc' => σ' = σ ++ [.list (natL (colsF lead i))] ∧ ∃ u : Lc, (u = [] ∨ ∃ s, u = [(Str.ofString "sign", s)]) ∧ lc' = (Str.ofString "lead", .str lead) :: (Str.ofString "columns", .ref σ.length) :: (Str.ofString "size", .int ((1 + i : Nat) : Int)) :: (Str.ofString "column", .int (((lead.take j).foldl (colS (1 + i)) 0 : Nat) : Int)) :: u, it_str, ⟨rfl, u, hu, rfl⟩, fun _ _ _ _ => trivial, ?turn2, ?fin2⟩
    case fin2 =>
      rintro _ _ ⟨rfl, u, hu, rfl⟩
      rw [List.length_map, List.take_length]
      repeat walk_at "e"
      refine meth_list PySem.F.slot_list_append PySem.F.type_list_append new_get ?_
      repeat walk_at "e"
      refine ⟨kp_builtin, call_append new_get (by simp [natL, colsF]; omega) ?_⟩
      repeat walk_at "e"
      refine ⟨?_, _, .inr ⟨_, _, u, rfl, hu⟩, rfl⟩
      have : natL (colsF lead i) ++ [AV.int ((lead.foldl (colS (1 + i)) 0 : Nat) : Int)] = natL (colsF lead (i + 1)) := by
        simp [natL, colsF, List.range_succ, colF]
      rw [this, app_set0]
      rfl
    case turn2 =>
      rintro j y _ _ hy ⟨rfl, u, hu, rfl⟩
      have hj : j < lead.length := by
        rcases Nat.lt_or_ge j lead.length with q | q
        · exact q
        · rw [List.getElem?_eq_none (by simpa using q)] at hy; cases hy
      rw [List.getElem?_map, List.getElem?_eq_getElem hj] at hy
      cases hy
      have ht : lead.take (j + 1) = lead.take j ++ [lead[j]] := by rw [List.take_add_one, List.getElem?_eq_getElem hj]; rfl
      generalize lead[j] = ch at *
      have ep3 : putV (Str.ofString "sign") (.str [ch]) ((Str.ofString "lead", .str lead) :: (Str.ofString "columns", .ref σ.length) :: (Str.ofString "size", .int ((1 + i : Nat) : Int)) :: (Str.ofString "column", .int (((lead.take j).foldl (colS (1 + i)) 0 : Nat) : Int)) :: u) = (Str.ofString "lead", .str lead) :: (Str.ofString "columns", .ref σ.length) :: (Str.ofString "size", .int ((1 + i : Nat) : Int)) :: (Str.ofString "column", .int (((lead.take j).foldl (colS (1 + i)) 0 : Nat) : Int)) :: [(Str.ofString "sign", .str [ch])] := by
        rcases hu with rfl | ⟨s, rfl⟩ <;> simp [putV, ofS_inj]
      refine wn_loc' (by kernel_rfl) ep3 ?_
      refine wss_cons ?_
      repeat walk_at "e"
      generalize hc : (lead.take j).foldl (colS (1 + i)) 0 = c
      have hc1 : (lead.take (j + 1)).foldl (colS (1 + i)) 0 = colS (1 + i) c ch := by rw [ht, List.foldl_append, hc]; rfl
      by_cases h1 : ch = 32
      · subst h1
        refine ite_yes ?_
        repeat walk_at "e"
        refine ⟨rfl, [(Str.ofString "sign", .str [32])], .inr ⟨_, rfl⟩, ?_⟩
        rw [hc1]
        simp [colS]
      · rw [show ([ch] == [32]) = false by simpa using h1]
        refine ite_no ?_
        repeat walk_at "e"
        refine bin_div_int (by omega) (by omega) ?_
        repeat walk_at "e"
        refine bin_mul_int (.of_right (small_bits (by omega))) ?_
        repeat walk_at "e"
        refine ⟨rfl, [(Str.ofString "sign", .str [ch])], .inr ⟨_, rfl⟩, ?_⟩
        rw [hc1]
        simp [colS, h1]
end

section
theorem getV_same {x : Str} {v : AV} {l : Lc} : getV x (putV x v l) = some v := by rw [getV_putV, if_pos rfl]
section
variable {g : G} {c c' : Cx} {σ : List AO} {lc : Lc} {d : Nat}
theorem comp_pure1 {x : Str} {xs : List AV} {F : Nat → AV} {elt : Expr} {σ₁ : List AO} {k : AV → List AO → Prop} {Gd : List AO → Prop} (hGd : ∀ ys, Gd (σ₁ ++ [.list ys])) (hz : xs.length ≤ sizeLine)
    (hel : ∀ i, i < xs.length → ∀ ys, WE g c' (σ₁ ++ [.list ys]) [(x, xs.getD i .none)] elt fun y σ' => y = F i ∧ σ' = σ₁ ++ [.list ys]) (h : k (.ref σ₁.length) (σ₁ ++ [.list ((List.range xs.length).map F)])) :
    CompOk g c' [] elt k σ₁ xs.length (fun i lc => putV x (xs.getD i .none) lc) Gd := by
  refine ⟨fun i σ' lc' => σ' = σ₁ ++ [.list ((List.range i).map F)] ∧ (lc' = [] ∨ ∃ u, lc' = [(x, u)]), ⟨rfl, .inl rfl⟩, ?_, ?_, ?_⟩
  · rintro i _ lc' ⟨rfl, _⟩
    exact hGd _
  · rintro i _ lc' hi ⟨rfl, hl⟩
    have ep : putV x (xs.getD i .none) lc' = [(x, xs.getD i .none)] := by
      rcases hl with rfl | ⟨u, rfl⟩ <;> simp [putV]
    show WE _ _ _ (putV x (xs.getD i .none) lc') _ _
    rw [ep]
    intro A env base L as s Rm Re T S Q E q
    refine hel i hi _ A env base L as s Rm Re T S Q E fun h' tk bs y y' σ' hk => q h' tk bs y y' σ' ?_
    obtain ⟨rfl, rfl⟩ := hk
    refine ⟨(List.range i).map F, new_get, by simp; omega, ?_, .inr ⟨_, ep⟩⟩
    rw [app_set0, List.range_succ, List.map_append]
    rfl
  · rintro _ lc' ⟨rfl, _⟩
    exact h
end
variable {w : World} {mg mb : Str → Option Value} {LM : Nat → Addr → Obj → Prop} {σ : List AO} {lc : Lc} {d : Nat}
noncomputable def sp1 (word : List Nat) : List Nat := [34] ++ (word.map fun c => [92, c]).flatten ++ [34]
noncomputable def sp2 (word : List Nat) : List Nat := [92] ++ [word.headD 0] ++ (word.tail.map fun c => if c ∈ [97, 98, 99, 100, 101, 34] then [c] else [92, c]).flatten
noncomputable def sp0 (word : List Nat) : List Nat := [34] ++ (word.map fun c => if c ∈ [34, 92] then [92, c] else [c]).flatten ++ [34]
noncomputable def spF (form : Nat) (word : List Nat) : List Nat := if form = 1 then sp1 word else if form = 2 then sp2 word else sp0 word
theorem map_range_map {α β : Type} (f : α → β) (xs : List α) (dflt : α) : (List.range xs.length).map (fun i => f (xs.getD i dflt)) = xs.map f := by
  apply List.ext_getElem?
  intro i
  rw [List.getElem?_map, List.getElem?_map]
  by_cases hi : i < xs.length
  · simp [hi]
  · rw [List.getElem?_eq_none (by simp; omega), List.getElem?_eq_none (by omega)]; rfl
theorem flat_len {f : Nat → List Nat} (hf : ∀ c, (f c).length ≤ 2) : ∀ xs : List Nat, (xs.map f).flatten.length ≤ 2 * xs.length
  | [] => by simp
  | c :: r => by
    have := flat_len hf r
    have := hf c
    simp at *
    omega
theorem str_join_meth {x : List Nat} {g : G} (t : Tok) (pl : Sem Bool) (A : Around) (E : Value → Shared → Prop) (s : Shared) (Q : Value × List Value → Shared → Prop) (h : Q (.builtin "str.join", [.str ⟨x.toArray⟩ t]) s) : wpAny (MM g) A (getMethod (.str ⟨x.toArray⟩ t) (Str.ofString "join") pl) Q E s := by
  exact getMethod_builtin (typeIs_str s _ t) PySem.F.plainAttrs_str PySem.F.slot_str_join PySem.F.type_str_join (fun a e => nomatch e) h
theorem str_count_meth {x : List Nat} {g : G} (t : Tok) (pl : Sem Bool) (A : Around) (E : Value → Shared → Prop) (s : Shared) (Q : Value × List Value → Shared → Prop) (h : Q (.builtin "str.count", [.str ⟨x.toArray⟩ t]) s) : wpAny (MM g) A (getMethod (.str ⟨x.toArray⟩ t) (Str.ofString "count") pl) Q E s := by
  exact getMethod_builtin (typeIs_str s _ t) PySem.F.plainAttrs_str PySem.F.slot_str_count PySem.F.type_str_count (fun a e => nomatch e) h
theorem str_items {word : List Nat} {i : Nat} (h : i < word.length) : (word.map fun c => AV.str [c]).getD i .none = .str [word.getD i 0] := by simp [h]
set_option maxHeartbeats 1000000 in
theorem spelled_call {word : List Nat} {form : Nat} {k : AV → List AO → Prop} (hz : word.length ≤ 1000) (hw : word ≠ []) (h : ∀ σ', ExtL σ σ' → k (.str (spF form word)) σ') : WCall (G0 w mg mb LM) (d + 1) σ lc (.top (.ref 173)) [.str word, .int form] k := by
  have hzz : sizeLine = 2 ^ 24 := rfl
  refine call2 (fn_spelled _) (bd_spelled _) (by decide +kernel) (by decide +kernel) (by decide +kernel) (by decide +kernel) (by decide +kernel) (by decide +kernel) (by decide +kernel) ?_
  refine wss_cons ?_
  repeat walk_at "e"
  by_cases hf1 : form = 1
  · subst hf1
    refine ite_yes ?_
    repeat walk_at "e"
    refine meth_str (fun t pl A E s Q h => str_join_meth t pl A E s Q h) ?_
    refine wes_cons (fun _ => rfl) ?_
    refine we_comp (cells_none (by decide +kernel)) (by decide +kernel) (by decide +kernel) (by decide +kernel) (fun _ _ => rfl) ?_
    refine wite_val rfl (by kernel_rfl) ?_
    repeat walk_at "e"
    refine ⟨_, _, it_str, ?_⟩
    refine comp_pure1 (F := fun i => .str [92, word.getD i 0]) (fun _ => trivial) (by simp; omega) (fun i hi ys => ?_) ?_
    · rw [List.length_map] at hi
      rw [str_items hi]
      repeat walk_at "e"
      exact bin_add_str (by simp; omega) ⟨rfl, rfl⟩
    rw [List.length_map]
    have em : (List.range word.length).map (fun i => AV.str [92, word.getD i 0]) = strL (word.map fun c => [92, c]) := by
      rw [map_range_map (fun c => AV.str [92, c])]; simp only [strL, List.map_map]; rfl
    rw [em]
    have hfl := flat_len (f := fun c => [92, c]) (fun c => by simp) word
    repeat walk_at "e"
    refine ⟨kp_builtin, call_join new_get (by omega) ?_⟩
    refine bin_add_str (by simp only [List.length_append, List.length_cons, List.length_nil]; omega) ?_
    repeat walk_at "e"
    refine bin_add_str (by simp only [List.length_append, List.length_cons, List.length_nil]; omega) ?_
    repeat walk_at "e"
    exact h _ .app
  have hb1 : ((form : Int) == 1) = false := by
    have : ¬ (form : Int) = 1 := by omega
    simpa using this
  rw [hb1]
  refine ite_no ?_
  repeat walk_at "e"
  by_cases hf2 : form = 2
  · subst hf2
    refine ite_yes ?_
    repeat walk_at "e"
    refine sub_str (ch := word.headD 0) (by omega) (by omega) (by cases word with | nil => exact absurd rfl hw | cons c r => rfl) ?_ (fun _ _ => rfl)
    refine bin_add_str (by simp [sizeLine]) ?_
    repeat walk_at "e"
    refine meth_str (fun t pl A E s Q h => str_join_meth t pl A E s Q h) ?_
    refine wes_cons (fun _ => rfl) ?_
    refine we_comp (cells_none (by decide +kernel)) (by decide +kernel) (by decide +kernel) (by decide +kernel) (fun _ _ => rfl) ?_
    refine wite_val rfl (by kernel_rfl) ?_
    repeat walk_at "e"
    refine ⟨_, some 1, none, rfl, rfl, rfl, ?_, by simp, by omega, ?_⟩
    · cases word with
      | nil => exact absurd rfl hw
      | cons c r => simp
    have esl : sl word (some 1) none = word.tail := by
      cases word with
      | nil => exact absurd rfl hw
      | cons c r => simp [sl]
    rw [esl]
    have htl : word.tail.length ≤ 1000 := by simp; omega
    refine ⟨_, _, it_str, ?_⟩
    refine comp_pure1 (F := fun i => .str (if word.tail.getD i 0 ∈ [97, 98, 99, 100, 101, 34] then [word.tail.getD i 0] else [92, word.tail.getD i 0])) (fun _ => trivial) (by simp; omega) (fun i hi ys => ?_) ?_
    · rw [List.length_map] at hi
      rw [str_items hi]
      generalize word.tail.getD i 0 = c
      refine we_if ?_
      repeat walk_at "e"
      by_cases hm : c ∈ [97, 98, 99, 100, 101, 34]
      · rw [decide_eq_true hm, if_pos hm]
        refine ite_yes ?_
        repeat walk_at "e"
        exact ⟨rfl, rfl⟩
      · rw [decide_eq_false hm, if_neg hm]
        refine ite_no ?_
        repeat walk_at "e"
        exact bin_add_str (by simp; omega) ⟨rfl, rfl⟩
    rw [List.length_map]
    have em : (List.range word.tail.length).map (fun i => AV.str (if word.tail.getD i 0 ∈ [97, 98, 99, 100, 101, 34] then [word.tail.getD i 0] else [92, word.tail.getD i 0])) = strL (word.tail.map fun c => if c ∈ [97, 98, 99, 100, 101, 34] then [c] else [92, c]) := by
      rw [map_range_map (fun c => AV.str (if c ∈ [97, 98, 99, 100, 101, 34] then [c] else [92, c]))]; simp only [strL, List.map_map]; rfl
    rw [em]
    have hfl := flat_len (f := fun c => if c ∈ [97, 98, 99, 100, 101, 34] then [c] else [92, c]) (fun c => by split <;> simp) word.tail
    repeat walk_at "e"
    refine ⟨kp_builtin, call_join new_get (by omega) ?_⟩
    refine bin_add_str (by simp only [List.length_append, List.length_cons, List.length_nil]; omega) ?_
    repeat walk_at "e"
    exact h _ .app
  have hb2 : ((form : Int) == 2) = false := by
    have : ¬ (form : Int) = 2 := by omega
    simpa using this
  rw [hb2]
  refine ite_no ?_
  repeat walk_at "e"
  refine meth_str (fun t pl A E s Q h => str_join_meth t pl A E s Q h) ?_
  refine wes_cons (fun _ => rfl) ?_
  refine we_comp (cells_none (by decide +kernel)) (by decide +kernel) (by decide +kernel) (by decide +kernel) (fun _ _ => rfl) ?_
  refine wite_val rfl (by kernel_rfl) ?_
  repeat walk_at "e"
  refine ⟨_, _, it_str, ?_⟩
  refine comp_pure1 (F := fun i => .str (if word.getD i 0 ∈ [34, 92] then [92, word.getD i 0] else [word.getD i 0])) (fun _ => trivial) (by simp; omega) (fun i hi ys => ?_) ?_
  · rw [List.length_map] at hi
    rw [str_items hi]
    generalize word.getD i 0 = c
    refine we_if ?_
    repeat walk_at "e"
    by_cases hm : c ∈ [34, 92]
    · rw [decide_eq_true hm, if_pos hm]
      refine ite_yes ?_
      repeat walk_at "e"
      exact bin_add_str (by simp; omega) ⟨rfl, rfl⟩
    · rw [decide_eq_false hm, if_neg hm]
      refine ite_no ?_
      repeat walk_at "e"
      exact ⟨rfl, rfl⟩
  rw [List.length_map]
  have em : (List.range word.length).map (fun i => AV.str (if word.getD i 0 ∈ [34, 92] then [92, word.getD i 0] else [word.getD i 0])) = strL (word.map fun c => if c ∈ [34, 92] then [92, c] else [c]) := by
    rw [map_range_map (fun c => AV.str (if c ∈ [34, 92] then [92, c] else [c]))]; simp only [strL, List.map_map]; rfl
  rw [em]
  have hfl := flat_len (f := fun c => if c ∈ [34, 92] then [92, c] else [c]) (fun c => by split <;> simp) word
  repeat walk_at "e"
  refine ⟨kp_builtin, call_join new_get (by omega) ?_⟩
  refine bin_add_str (by simp only [List.length_append, List.length_cons, List.length_nil]; omega) ?_
  repeat walk_at "e"
  refine bin_add_str (by simp only [List.length_append, List.length_cons, List.length_nil]; omega) ?_
  repeat walk_at "e"
  have e0 : spF form word = sp0 word := by simp [spF, hf1, hf2]
  rw [e0] at h
  exact h _ .app
end

section
local macro_rules | `(tactic| walk_at "nz") => `(tactic| simp only [List.append_assoc, List.cons_append, List.nil_append, List.length_append, List.length_cons, List.length_nil, List.length_set, Nat.reduceAdd, Nat.zero_add, Nat.add_zero, Nat.add_assoc, app_set, app_set0, List.set_cons_succ, List.set_cons_zero])
variable {w : World} {mg mb : Str → Option Value} {LM : Nat → Addr → Obj → Prop} {σ : List AO} {lc : Lc} {d : Nat}
noncomputable def ListExt (σ σ' : List AO) : Prop := ∀ (l : Nat) (xs : List AV), σ[l]? = some (.list xs) → σ'[l]? = some (.list xs)
noncomputable def KeptT (t : Nat) (σ σ' : List AO) : Prop := ∀ (l : Nat) (ao : AO), σ[l]? = some ao → l ≠ t → σ'[l]? = some ao
theorem KeptT.lists {t P : Nat} {b : Bool} {σ σ' : List AO} (h : KeptT t σ σ') (ht : σ[t]? = some (.tab t P b)) : ListExt σ σ' := fun l xs e => h l _ e (ne_of_ao e ht (by simp))
structure RowsAt (σ : List AO) (rl : Nat) (rows : List (List Nat)) : Prop where
  at_ : ∃ rs : List Nat, rs.length = rows.length ∧ σ[rl]? = some (.list (rs.map .ref)) ∧ ∀ (i l : Nat) (r : List Nat), rs[i]? = some l → rows[i]? = some r → σ[l]? = some (.list (natL r))
theorem RowsAt.ext {σ σ' : List AO} {rl : Nat} {rows : List (List Nat)} (h : RowsAt σ rl rows) (k : ListExt σ σ') : RowsAt σ' rl rows :=
  let ⟨rs, a, b, c⟩ := h.at_
  ⟨rs, a, k _ _ b, fun i l r e1 e2 => k _ _ (c i l r e1 e2)⟩
theorem RowsAt.row {σ : List AO} {rl : Nat} {rows : List (List Nat)} (h : RowsAt σ rl rows) {i : Nat} (hi : i < rows.length) : ∃ (xs : List AV) (l : Nat), σ[rl]? = some (.list xs) ∧ xs.length = rows.length ∧ xs[i]? = some (.ref l) ∧ σ[l]? = some (.list (natL (rows.getD i []))) := by
  obtain ⟨rs, a, b, c⟩ := h.at_
  have hi' : i < rs.length := by omega
  refine ⟨rs.map .ref, rs[i], b, by simp [a], by simp [hi'], c i rs[i] _ (List.getElem?_eq_getElem hi') ?_⟩
  simp [hi]
noncomputable def deepB (r s : List Nat) : Bool := decide (minI ((List.zip r s).map fun p => (p.1 : Int) - (p.2 : Int)) > 0)
noncomputable def lkStep (D : Nat → Nat → Bool) (links : List Nat) (place other : Nat) : List Nat := if D place other then links.set place (max (links.getD place 0) (links.getD other 0 + 1)) else links
noncomputable def lkPlace (D : Nat → Nat → Bool) (n : Nat) (links : List Nat) (place : Nat) : List Nat := (List.range n).foldl (fun l o => lkStep D l place o) links
noncomputable def lkF (D : Nat → Nat → Bool) (n : Nat) (os : List Nat) : List Nat := os.foldl (lkPlace D n) (List.replicate n 1)
theorem lkStep_len (D : Nat → Nat → Bool) (links : List Nat) (p o : Nat) : (lkStep D links p o).length = links.length := by unfold lkStep; split <;> simp
theorem foldl_len {α : Type} (f : List Nat → α → List Nat) (hf : ∀ l a, (f l a).length = l.length) : ∀ (xs : List α) (l : List Nat), (xs.foldl f l).length = l.length
  | [], _ => rfl
  | a :: r, l => by rw [List.foldl_cons, foldl_len f hf r, hf]
theorem lkPlace_len (D : Nat → Nat → Bool) (n : Nat) (links : List Nat) (p : Nat) : (lkPlace D n links p).length = links.length := foldl_len _ (fun l a => lkStep_len D l p a) _ _
noncomputable def rowD (rows : List (List Nat)) (p o : Nat) : Bool := deepB (rows.getD p []) (rows.getD o [])
noncomputable def rowKey (rows : List (List Nat)) (i : Nat) : Int := ((rows.getD i []).getD 0 0 : Nat)
theorem comp_pure2 {g : G} {c' : Cx} {x y : Str} {xs ys : List AV} {n : Nat} {F : Nat → AV} {elt : Expr} {σ₁ : List AO} {k : AV → List AO → Prop} {Gd : List AO → Prop} (hxy : x ≠ y) (hGd : ∀ zs, Gd (σ₁ ++ [.list zs])) (hz : n ≤ sizeLine)
    (hel : ∀ i, i < n → ∀ zs, WE g c' (σ₁ ++ [.list zs]) [(x, xs.getD i .none), (y, ys.getD i .none)] elt fun u σ' => u = F i ∧ σ' = σ₁ ++ [.list zs]) (h : k (.ref σ₁.length) (σ₁ ++ [.list ((List.range n).map F)])) :
    CompOk g c' [] elt k σ₁ n (fun i lc => putV y (ys.getD i .none) (putV x (xs.getD i .none) lc)) Gd := by
  refine ⟨fun i σ' lc' => σ' = σ₁ ++ [.list ((List.range i).map F)] ∧ (lc' = [] ∨ ∃ u v, lc' = [(x, u), (y, v)]), ⟨rfl, .inl rfl⟩, ?_, ?_, ?_⟩
  · rintro i _ lc' ⟨rfl, _⟩
    exact hGd _
  · rintro i _ lc' hi ⟨rfl, hl⟩
    have ep : putV y (ys.getD i .none) (putV x (xs.getD i .none) lc') = [(x, xs.getD i .none), (y, ys.getD i .none)] := by
      rcases hl with rfl | ⟨u, v, rfl⟩ <;> simp [putV, hxy]
    show WE _ _ _ (putV y (ys.getD i .none) (putV x (xs.getD i .none) lc')) _ _
    rw [ep]
    intro A env base L as s Rm Re T S Q E q
    refine hel i hi _ A env base L as s Rm Re T S Q E fun h' tk bs u u' σ' hk => q h' tk bs u u' σ' ?_
    obtain ⟨rfl, rfl⟩ := hk
    refine ⟨(List.range i).map F, new_get, by simp; omega, ?_, .inr ⟨_, _, ep⟩⟩
    rw [app_set0, List.range_succ, List.map_append]
    rfl
  · rintro _ lc' ⟨rfl, _⟩
    exact h
theorem diffs_eq (r s : List Nat) : (List.range (min (natL r).length (natL s).length)).map (fun i => AV.int (((r.getD i 0 : Nat) : Int) - ((s.getD i 0 : Nat) : Int))) = intL ((List.zip r s).map fun p => (p.1 : Int) - (p.2 : Int)) := by
  apply List.ext_getElem?
  intro i
  simp only [intL, natL, List.length_map, List.getElem?_map]
  by_cases hi : i < min r.length s.length
  · have h1 : i < r.length := by omega
    have h2 : i < s.length := by omega
    rw [List.getElem?_range hi, List.getElem?_eq_getElem (by simp; omega)]
    simp [h1, h2]
  · rw [List.getElem?_eq_none (by simp; omega), List.getElem?_eq_none (by simp; omega)]
    rfl
set_option maxHeartbeats 4000000 in
theorem links_call {t rl : Nat} {rows : List (List Nat)} {k : AV → List AO → Prop} (ht : σ[t]? = some (.tab t 182 true)) (hr : RowsAt σ rl rows) (hn : rows.length < 64) (h5 : ∀ r ∈ rows, r.length = 5)
    (h : ∀ (σ' : List AO) (os : List Nat) (lk : Nat), os.Perm (List.range rows.length) → os.Pairwise (fun i j => rowKey rows i ≤ rowKey rows j) → KeptT t σ σ' → σ'[t]? = some (.tab t 182 false) → σ'[lk]? = some (AO.list (natL (lkF (rowD rows) rows.length os))) → k (.ref lk) σ') :
    WCall (G0 w mg mb LM) (d + 4) σ lc (.top (.ref 185)) [.ref rl] k := by
  have hzz : sizeLine = 2 ^ 24 := rfl
  have htl := lt_of_get ht
  obtain ⟨xs, hxl, hxs⟩ : ∃ xs : List AV, xs.length = rows.length ∧ σ[rl]? = some (.list xs) := by
    obtain ⟨rs, a, b, c⟩ := hr.at_
    exact ⟨_, by simp [a], b⟩
  refine call1C (n1 := Str.ofString "rows") [] (fn_links _) (bd_links _) (by decide +kernel) (by simp) (fun N i p e => ?_) (by decide +kernel) (by decide +kernel) (by decide +kernel) ?_
  · match i, e with
    | 0, e => cases e; kernel_rfl
    | i + 1, e => simp at e
  have ecc : cellsAt σ.length ((Str.ofString "rows", some (AV.ref rl)) :: ([] : List Str).map fun n => (n, none)) = [(Str.ofString "rows", σ.length)] := rfl
  have eco : cellObjs ((Str.ofString "rows", some (AV.ref rl)) :: ([] : List Str).map fun n => (n, none)) = [AO.cell (some (.ref rl))] := rfl
  rw [ecc, eco]
  refine wss_cons ?_
  repeat walk_at "e"
  refine ⟨by simp [sizeLine], ?_⟩
  repeat walk_at "e"
  refine we_cell (l := σ.length) (v := .ref rl) (by kernel_rfl) (by walk_at "gc") (by simp) ?_ (by decide +kernel)
  repeat walk_at "e"
  refine ⟨kp_builtin, call_len_list (get_app (get_app hxs)) (by omega) ?_⟩
  rw [hxl]
  refine bin_mul_list (xs := [AV.int 1]) new_get (by omega) (by omega) (by simp; omega) ?_
  repeat walk_at "e"
  walk_at "nz"
  rw [Int.toNat_natCast]
  have em : (List.replicate rows.length [AV.int 1]).flatten = natL (List.replicate rows.length 1) := by
    have := natL_zeros
    have : ∀ m, (List.replicate m [AV.int 1]).flatten = List.replicate m (AV.int 1) := by
      intro m
      induction m with
      | zero => rfl
      | succ m ih => rw [List.replicate_succ, List.flatten_cons, ih]; rfl
    simp [natL, this]
  rw [em]
  refine ws_for (fun _ _ => rfl) ?_
  refine we_sorted (d := d + 2) (fun _ => rfl) (fun _ => rfl) rfl ?_
  repeat walk_at "e"
  refine ⟨rfl, ?_⟩
  repeat walk_at "e"
  refine we_cell (l := σ.length) (v := .ref rl) (by kernel_rfl) (by walk_at "gc") (by rw [app_get0]; rfl) ?_ (by decide +kernel)
  repeat walk_at "e"
  refine ⟨kp_builtin, call_len_list (get_app hxs) (by omega) ?_⟩
  rw [hxl]
  repeat walk_at "e"
  refine ⟨kp_type, call_range_v ?_⟩
  walk_at "nz"
  refine we_lambda (t := t) (cl := [(Str.ofString "rows", σ.length)]) rfl (fun _ => rfl) (cells_one (by kernel_rfl) (by walk_at "gc")) (cd := 184) (P := 182) (by kernel_rfl) (get_app ht) ?_
  rw [set_app htl]
  obtain ⟨σ1, h1, hl⟩ : ∃ σ1, σ1 = σ.set t (.tab t 182 false) ∧ σ1.length = σ.length := ⟨_, rfl, by simp⟩
  have hK1 : KeptT t σ σ1 := fun l ao e hne => by rw [h1, List.getElem?_set_ne (Ne.symm hne)]; exact e
  walk_at "nz"
  rw [← h1, ← hl]
  refine ⟨σ1.length + 3, rows.length, rowKey rows, rfl, by rw [app_get]; rfl, ⟨_, rfl⟩, hn, ?turnK, ?rest⟩
  case turnK =>
    intro i hi
    refine call_lam (lc₀ := [(Str.ofString "at", .int i)]) (fun vals => match vals with | [v] => [(Str.ofString "at", v)] | _ => []) (by rw [app_get]; rfl) (by rw [app_get]; rfl) (fun clos pm ca ctv vals e => ?_) (fun vals e y hy => ?_) (fun as vals rv => ?_) (by decide +kernel) (by decide +kernel) (by decide +kernel) (by decide +kernel) ?_
    · match vals, e with
      | [v], _ => rfl
    · match vals, e with
      | [v], _ => have : y = (Str.ofString "at", v) := by simpa using hy
                  subst this; kernel_rfl
    · cases rv with
      | @cons _ v _ vs r1 rv =>
        cases rv
        intro y u e
        simp only [getV] at e
        by_cases q : Str.ofString "at" = y
        · rw [if_pos q] at e; cases e; exact ⟨v, by simp [q], r1⟩
        · rw [if_neg q] at e; cases e
    have hcell : ∀ τ, (σ1 ++ AO.cell (some (.ref rl)) :: τ)[σ1.length]? = some (.cell (some (.ref rl))) := fun τ => by rw [app_get0]; rfl
    have hr1 : ∀ τ, RowsAt (σ1 ++ τ) rl rows := fun τ => (hr.ext (hK1.lists ht)).ext fun l xs e => get_app e
    refine we_sub ?_
    refine we_sub ?_
    refine we_free (by kernel_rfl) (by walk_at "gc") (hcell _) ?_ (by decide +kernel) (by decide +kernel)
    repeat walk_at "e"
    obtain ⟨ys, l, y1, y2, y3, y4⟩ := (hr1 _).row hi
    refine sub_list y1 (by omega) (by omega) (by rw [Int.toNat_natCast]; exact y3) ?_ (fun _ _ => rfl)
    repeat walk_at "e"
    refine sub_list y4 (by omega) (by omega) (natL_get (b := 0) ?_) ⟨rfl, rfl⟩ (fun _ _ => rfl)
    rw [h5 _ (by rw [List.getD_eq_getElem?_getD, List.getElem?_eq_getElem hi]; exact List.getElem_mem hi)]
    omega
  case rest =>
    intro os hos hpw
    walk_at "nz"
    have hos' : ∀ p ∈ os, p < rows.length := fun p hp => List.mem_range.mp (hos.mem_iff.mp hp)
    have hol : os.length = rows.length := by rw [hos.length_eq]; simp
    have hrow : ∀ σ', KeptT t σ σ' → RowsAt σ' rl rows := fun σ' hk => hr.ext (hk.lists ht)
    have cellsz : ∀ {σ' : List AO} {lk : Nat} {zs : List AV} {b : AO}, σ'[σ1.length]? = some (.cell (some (.ref rl))) → σ'[lk]? = some (.list zs) → (σ'.set lk b)[σ1.length]? = some (.cell (some (.ref rl))) := fun e1 e2 => set_other (ne_of_ao e2 e1 (by simp)) e1
    generalize hD : rowD rows = D at *
    refine ⟨intL (os.map Int.ofNat), fun σ' => σ'[σ1.length + 6]? = some (.list (intL (os.map Int.ofNat))), fun i σ' lc' => KeptT t σ σ' ∧ (σ'[σ1.length]? = some (.cell (some (.ref rl))) ∧ σ'[t]? = some (.tab t 182 false)) ∧ σ'[σ1.length + 2]? = some (.list (natL ((os.take i).foldl (lkPlace D rows.length) (List.replicate rows.length 1)))) ∧ σ'[σ1.length + 6]? = some (.list (intL (os.map Int.ofNat))) ∧
      ∃ t' : Lc, (t' = [] ∨ ∃ a u, t' = (Str.ofString "place", a) :: u ∧ (u = [] ∨ ∃ b, u = [(Str.ofString "other", b)])) ∧ lc' = (Str.ofString "links", .ref (σ1.length + 2)) :: t',
      it_list (by rw [app_get]; rfl), ⟨fun l ao e hne => get_app (hK1 l ao e hne), ⟨by rw [app_get0]; rfl, get_app (by rw [h1]; exact set_self ht)⟩, by rw [app_get]; rfl, by rw [app_get]; rfl, [], .inl rfl, rfl⟩, fun i σ' lc' hJ => hJ.2.2.2.1, ?turn, ?fin⟩
    case fin =>
      rintro σ' lc' ⟨hk, ⟨_, htb⟩, hlk, _, t', ht', rfl⟩
      have e1 : (intL (os.map Int.ofNat)).length = os.length := by simp [intL]
      rw [e1, List.take_length] at hlk
      repeat walk_at "e"
      exact h σ' os _ hos hpw hk htb hlk
    case turn =>
      rintro i y σ' lc' hy ⟨hk, ⟨hc, htb⟩, hlk, hol', t', ht', rfl⟩
      have hi : i < os.length := by
        rcases Nat.lt_or_ge i os.length with q | q
        · exact q
        · rw [List.getElem?_eq_none (by simp [intL]; omega)] at hy; cases hy
      have hy' : y = .int ((os[i] : Nat) : Int) := by
        have : (intL (os.map Int.ofNat))[i]? = some (.int ((os[i] : Nat) : Int)) := by simp [intL, hi]
        rw [this] at hy
        exact (Option.some.inj hy).symm
      subst hy'
      have hp := hos' os[i] (List.getElem_mem hi)
      have htk : (os.take (i + 1)).foldl (lkPlace D rows.length) (List.replicate rows.length 1) = lkPlace D rows.length ((os.take i).foldl (lkPlace D rows.length) (List.replicate rows.length 1)) os[i] := by
        rw [List.take_add_one, List.getElem?_eq_getElem hi, List.foldl_append]; rfl
      have hL0 : ((os.take i).foldl (lkPlace D rows.length) (List.replicate rows.length 1)).length = rows.length := by rw [foldl_len _ (fun l a => lkPlace_len D _ l a)]; simp
      generalize (os.take i).foldl (lkPlace D rows.length) (List.replicate rows.length 1) = L0 at *
      generalize os[i] = p at *
      have hs : ∃ u : Lc, (u = [] ∨ ∃ b, u = [(Str.ofString "other", b)]) ∧ putV (Str.ofString "place") (.int (p : Int)) ((Str.ofString "links", .ref (σ1.length + 2)) :: t') = (Str.ofString "links", .ref (σ1.length + 2)) :: (Str.ofString "place", .int (p : Int)) :: u := by
        rcases ht' with rfl | ⟨a, u, rfl, hu⟩
        · exact ⟨[], .inl rfl, by simp [putV, ofS_inj]⟩
        · exact ⟨u, hu, by simp [putV, ofS_inj]⟩
      obtain ⟨u, hu, ep⟩ := hs
      refine wn_loc' (by kernel_rfl) ep ?_
      refine wss_cons ?_
      refine ws_forE (fun _ _ => rfl) ?_
      refine wite_call (fun _ => rfl) (fun _ => rfl) (fun _ => rfl) ?_
      repeat walk_at "e"
      refine we_cell (l := σ1.length) (by kernel_rfl) (by walk_at "gc") hc ?_ (by decide +kernel)
      repeat walk_at "e"
      obtain ⟨ys, l, y1, y2, y3, y4⟩ := (hrow σ' hk).row hp
      refine ⟨kp_builtin, call_len_list y1 (by omega) ?_⟩
      rw [y2]
      repeat walk_at "e"
      refine ⟨_, rfl, callit_range1 (by kernel_rfl) (by omega) (by omega) ?_⟩
      rw [Int.toNat_natCast]
      have hrl : (rangeL 0 rows.length).length = rows.length := by simp [rangeL]
      rw [hrl]
      refine ⟨fun j σ' lc' => KeptT t σ σ' ∧ (σ'[σ1.length]? = some (.cell (some (.ref rl))) ∧ σ'[t]? = some (.tab t 182 false)) ∧ σ'[σ1.length + 2]? = some (.list (natL ((List.range j).foldl (fun l o => lkStep D l p o) L0))) ∧ σ'[σ1.length + 6]? = some (.list (intL (os.map Int.ofNat))) ∧
        ∃ u : Lc, (u = [] ∨ ∃ b, u = [(Str.ofString "other", b)]) ∧ lc' = (Str.ofString "links", .ref (σ1.length + 2)) :: (Str.ofString "place", .int (p : Int)) :: u,
        ⟨hk, ⟨hc, htb⟩, hlk, hol', u, hu, rfl⟩, fun _ _ _ _ => trivial, ?turn2, ?fin2⟩
      case fin2 =>
        rintro σ3 lc3 ⟨hk3, ⟨hc3, htb3⟩, hlk3, hol3, u, hu, rfl⟩
        repeat walk_at "e"
        exact ⟨hk3, ⟨hc3, htb3⟩, by rw [htk]; exact hlk3, hol3, _, .inr ⟨_, u, rfl, hu⟩, rfl⟩
      case turn2 =>
        rintro q σ3 lc3 hq ⟨hk3, ⟨hc3, htb3⟩, hlk3, hol3, u, hu, rfl⟩
        have hg : (rangeL 0 rows.length).getD q .none = .int (q : Int) := by simp [rangeL, hq]
        have ep2 : putV (Str.ofString "other") (.int (q : Int)) ((Str.ofString "links", .ref (σ1.length + 2)) :: (Str.ofString "place", .int (p : Int)) :: u) = [(Str.ofString "links", .ref (σ1.length + 2)), (Str.ofString "place", .int (p : Int)), (Str.ofString "other", .int (q : Int))] := by
          rcases hu with rfl | ⟨b, rfl⟩ <;> simp [putV, ofS_inj]
        show WSs _ _ _ (putV (Str.ofString "other") ((rangeL 0 rows.length).getD q .none) ((Str.ofString "links", .ref (σ1.length + 2)) :: (Str.ofString "place", .int (p : Int)) :: u)) _ _
        rw [hg, ep2]
        have hL1 : (List.range (q + 1)).foldl (fun l o => lkStep D l p o) L0 = lkStep D ((List.range q).foldl (fun l o => lkStep D l p o) L0) p q := by rw [List.range_succ, List.foldl_append]; rfl
        have hl1 : ((List.range q).foldl (fun l o => lkStep D l p o) L0).length = rows.length := by rw [foldl_len _ (fun l a => lkStep_len D l p a)]; exact hL0
        generalize (List.range q).foldl (fun l o => lkStep D l p o) L0 = L1 at *
        obtain ⟨ys, l, y1, y2, y3, y4⟩ := (hrow σ3 hk3).row hp
        obtain ⟨zs, m, z1, z2, z3, z4⟩ := (hrow σ3 hk3).row hq
        refine wss_cons ?_
        refine ws_if ?_
        refine wb_cmp rfl ?_
        refine we_call (fun _ => rfl) (fun _ => rfl) (fun _ => rfl) ?_
        repeat walk_at "e"
        refine we_comp (cells_none (by decide +kernel)) (by decide +kernel) (by decide +kernel) (by decide +kernel) (fun _ _ => rfl) ?_
        refine wite_call (fun _ => rfl) (fun _ => rfl) (fun _ => rfl) ?_
        repeat walk_at "e"
        refine we_cell (l := σ1.length) (by kernel_rfl) (by walk_at "gc") hc3 ?_ (by decide +kernel)
        repeat walk_at "e"
        refine sub_list y1 (by omega) (by omega) (by rw [Int.toNat_natCast]; exact y3) ?_ (fun _ _ => rfl)
        repeat walk_at "e"
        refine we_cell (l := σ1.length) (by kernel_rfl) (by walk_at "gc") hc3 ?_ (by decide +kernel)
        repeat walk_at "e"
        refine sub_list z1 (by omega) (by omega) (by rw [Int.toNat_natCast]; exact z3) ?_ (fun _ _ => rfl)
        repeat walk_at "e"
        have r5 : (rows.getD p []).length = 5 := h5 _ (by rw [List.getD_eq_getElem?_getD, List.getElem?_eq_getElem hp]; exact List.getElem_mem hp)
        have s5 : (rows.getD q []).length = 5 := h5 _ (by rw [List.getD_eq_getElem?_getD, List.getElem?_eq_getElem hq]; exact List.getElem_mem hq)
        have hDD : D p q = deepB (rows.getD p []) (rows.getD q []) := by rw [← hD]; rfl
        generalize rows.getD p [] = R at *
        generalize rows.getD q [] = S5 at *
        refine ⟨_, rfl, callit_zip rfl (by kernel_rfl) (by kernel_rfl) y4 z4 ?_⟩
        have hn5 : min (natL R).length (natL S5).length = 5 := by simp [natL, r5, s5]
        refine comp_pure2 (F := fun i => AV.int (((R.getD i 0 : Nat) : Int) - ((S5.getD i 0 : Nat) : Int))) (by simp [ofS_inj]) (fun ws => ⟨get_app y4, get_app z4⟩) (by omega) (fun i hi ws => ?_) ?_
        · have a1 : (natL R).getD i .none = .int ((R.getD i 0 : Nat) : Int) := by rw [List.getD_eq_getElem?_getD, natL_get (by omega)]; rfl
          have a2 : (natL S5).getD i .none = .int ((S5.getD i 0 : Nat) : Int) := by rw [List.getD_eq_getElem?_getD, natL_get (by omega)]; rfl
          rw [a1, a2]
          repeat walk_at "e"
          exact ⟨rfl, rfl⟩
        rw [diffs_eq]
        repeat walk_at "e"
        refine ⟨kp_builtin, call_min new_get (fun z => ?_) ?_⟩
        · have := congrArg List.length z
          simp [r5, s5] at this
        repeat walk_at "e"
        have hlk4 := get_app (τ := [AO.list (intL ((List.zip R S5).map fun p => (p.1 : Int) - (p.2 : Int)))]) hlk3
        have hc4 := get_app (τ := [AO.list (intL ((List.zip R S5).map fun p => (p.1 : Int) - (p.2 : Int)))]) hc3
        have hol4 := get_app (τ := [AO.list (intL ((List.zip R S5).map fun p => (p.1 : Int) - (p.2 : Int)))]) hol3
        have htb4 := get_app (τ := [AO.list (intL ((List.zip R S5).map fun p => (p.1 : Int) - (p.2 : Int)))]) htb3
        have hk4 : KeptT t σ (σ3 ++ [AO.list (intL ((List.zip R S5).map fun p => (p.1 : Int) - (p.2 : Int)))]) := fun l ao e hne => get_app (hk3 l ao e hne)
        generalize σ3 ++ [AO.list (intL ((List.zip R S5).map fun p => (p.1 : Int) - (p.2 : Int)))] = σ4 at *
        have hdd : decide (minI ((List.zip R S5).map fun p => (p.1 : Int) - (p.2 : Int)) > 0) = D p q := hDD.symm
        rw [hdd]
        cases hdq : D p q with
        | false =>
          refine ite_no ?_
          repeat walk_at "e"
          exact ⟨hk4, ⟨hc4, htb4⟩, by rw [hL1]; simpa [lkStep, hdq] using hlk4, hol4, _, .inr ⟨_, rfl⟩, rfl⟩
        | true =>
          refine ite_yes ?_
          refine wss_cons ?_
          refine ws_setitem (fun _ => rfl) ?_
          repeat walk_at "e"
          refine sub_list hlk4 (by omega) (by omega) (by rw [Int.toNat_natCast]; exact natL_get (by omega)) ?_ (fun _ _ => rfl)
          repeat walk_at "e"
          refine sub_list hlk4 (by omega) (by omega) (by rw [Int.toNat_natCast]; exact natL_get (by omega)) ?_ (fun _ _ => rfl)
          repeat walk_at "e"
          refine ⟨kp_builtin, call_max2 ?_⟩
          repeat walk_at "e"
          refine ⟨_, _, _, rfl, rfl, hlk4, by omega, by simp [natL]; omega, by simp [natL]; omega, ?_⟩
          have emx : max ((L1.getD p 0 : Nat) : Int) (((L1.getD q 0 : Nat) : Int) + 1) = ((max (L1.getD p 0) (L1.getD q 0 + 1) : Nat) : Int) := by omega
          rw [Int.toNat_natCast, emx, natL_set]
          repeat walk_at "e"
          refine ⟨fun l ao e hne => set_other ?_ (hk4 l ao e hne), ⟨cellsz hc4 hlk4, set_other (by omega) htb4⟩, ?_, set_other (by omega) hol4, _, .inr ⟨_, rfl⟩, rfl⟩
          · have := lt_of_get e
            omega
          · rw [hL1, set_self hlk4]
            simp [lkStep, hdq]
end

section
variable {w : World} {mg mb : Str → Option Value} {LM : Nat → Addr → Obj → Prop} {σ : List AO} {lc : Lc} {d : Nat}

noncomputable def pq : List Nat → List Nat
  | [] => []
  | [ch] => if ch = 34 then [] else [ch]
  | ch :: b :: r => if ch = 34 then (if b = 34 then 34 :: pq r else []) else ch :: pq (b :: r)
noncomputable abbrev plc (x acc : List Nat) (i n : Int) (t : Lc) : Lc := (Str.ofString "resp", .str ([50, 53, 55, 32, 34] ++ x)) :: (Str.ofString "dirname", .str acc) :: (Str.ofString "i", .int i) :: (Str.ofString "n", .int n) :: t
set_option maxHeartbeats 1000000 in
theorem parse_call {x : List Nat} {k : AV → List AO → Prop} (hx : x.length ≤ 1000) (h : k (.str (pq x)) σ) : WCall (G0 w mg mb LM) (d + 1) σ lc (.top (.ref 95)) [.str ([50, 53, 55, 32, 34] ++ x)] k := by
  have hz : sizeLine = 2 ^ 24 := rfl
  refine call1 (fn_parse _) (bd_parse _) (by decide +kernel) (by decide +kernel) (by decide +kernel) (by decide +kernel) (by decide +kernel) ?_
  refine wss_cons ?_
  repeat walk_at "e"
  refine ⟨_, none, some 3, rfl, rfl, rfl, by simp, by simp, by simp; omega, ?_⟩
  repeat walk_at "e"
  rw [if_neg (by simp [sl])]
  repeat walk_at "e"
  refine ⟨_, some 3, some 5, rfl, rfl, rfl, by simp, by simp, by simp; omega, ?_⟩
  repeat walk_at "e"
  rw [if_neg (by simp [sl])]
  repeat walk_at "e"
  refine ⟨kp_builtin, call_len_str (by simp; omega) ?_⟩
  repeat walk_at "e"
  refine ws_while (fun m σ' lc' => σ' = σ ∧ ∃ (pre rest acc : List Nat) (t : Lc), x = pre ++ rest ∧ (t = [] ∨ ∃ cv, t = [(Str.ofString "c", cv)]) ∧ lc' = plc x acc (5 + pre.length) (5 + x.length) t ∧ acc ++ pq rest = pq x ∧ acc.length ≤ pre.length ∧ m = rest.length) ?_ (n := x.length)
    ⟨rfl, [], x, [], [], rfl, .inl rfl, by simp [putV, ofS_inj]; omega, by simp, by simp, by simp⟩
  rintro m _ _ ⟨rfl, pre, rest, acc, t, rfl, ht, rfl, hacc, hlen, rfl⟩
  repeat walk_at "e"
  cases rest with
  | nil =>
    rw [if_neg (by simp)]
    repeat walk_at "e"
    simp [pq] at hacc
    subst hacc
    simpa using h
  | cons ch r =>
    rw [if_pos (by simp; omega)]
    repeat walk_at "e"
    have ep : ∀ v, putV (Str.ofString "c") v (plc (pre ++ ch :: r) acc (5 + pre.length) (5 + (pre ++ ch :: r).length) t) = plc (pre ++ ch :: r) acc (5 + pre.length) (5 + (pre ++ ch :: r).length) [(Str.ofString "c", v)] := by
      intro v
      rcases ht with rfl | ⟨cv, rfl⟩ <;> simp [plc, putV, ofS_inj]
    simp only [List.length_append, List.length_cons] at hx
    refine sub_str (ch := ch) (by omega) (by omega) ?_ ?_ (fun _ _ => rfl)
    · have : (5 + (pre.length : Int)).toNat = 5 + pre.length := by omega
      rw [this, List.getElem?_append_right (by simp), List.getElem?_append_right (by simp)]
      simp
    refine wn_loc' (by kernel_rfl) (ep _) ?_
    repeat walk_at "e"
    by_cases hq : ch = 34
    · subst hq
      rw [if_pos (by simp)]
      repeat walk_at "e"
      cases r with
      | nil =>
        rw [if_pos (by simp; omega)]
        repeat walk_at "e"
        simp [pq] at hacc
        subst hacc
        exact h
      | cons b r =>
        rw [if_neg (by simp; omega)]
        repeat walk_at "e"
        refine sub_str (ch := b) (by omega) (by omega) ?_ ?_ (fun _ _ => rfl)
        · have : (5 + (pre.length : Int) + 1).toNat = 5 + (pre.length + 1) := by omega
          rw [this, List.getElem?_append_right (by simp), List.getElem?_append_right (by simp)]
          simp
        repeat walk_at "e"
        by_cases hb : b = 34
        · subst hb
          rw [if_neg (by simp)]
          repeat walk_at "e"
          refine bin_add_str (by simp; omega) ?_
          repeat walk_at "e"
          refine ⟨r.length, by simp; omega, rfl, pre ++ [34, 34], r, acc ++ [34], [(Str.ofString "c", .str [34])], by simp, .inr ⟨.str [34], rfl⟩, ?_, by rw [← hacc]; simp [pq], by simp; omega, rfl⟩
          simp [plc]; omega
        · rw [if_pos (by simpa using hb)]
          repeat walk_at "e"
          simp [pq, hb] at hacc
          subst hacc
          exact h
    · rw [if_neg (by simpa using hq)]
      repeat walk_at "e"
      refine bin_add_str (by simp; omega) ?_
      repeat walk_at "e"
      refine ⟨r.length, by simp, rfl, pre ++ [ch], r, acc ++ [ch], [(Str.ofString "c", .str [ch])], by simp, .inr ⟨.str [ch], rfl⟩, ?_, ?_, by simp; omega, rfl⟩
      · simp [plc]; omega
      · rw [← hacc]
        cases r <;> simp [pq, hq]
end

section
local macro_rules | `(tactic| walk_at "nz") => `(tactic| simp only [List.append_assoc, List.cons_append, List.nil_append, List.length_append, List.length_cons, List.length_nil, List.length_set, Nat.reduceAdd, Nat.zero_add, Nat.add_zero, Nat.add_assoc, app_set, app_set0, List.set_cons_succ, List.set_cons_zero])
local macro_rules | `(tactic| walk_at "gv") => `(tactic| (first | with_reducible assumption | with_reducible exact getV_same | with_reducible rfl | (simp only [getV, getV_putV, ofS_inj, String.reduceEq, if_false, if_true] <;> first | rfl | with_reducible assumption)))

section
variable {w : World} {mg mb : Str → Option Value} {LM : Nat → Addr → Obj → Prop} {σ : List AO} {lc : Lc} {d : Nat}
theorem swaps_env (e : Expr) (t : Option Expr) (n : Nat) {env env' : Env} (h : env.scope = env'.scope) : swapsWith e t n env = swapsWith e t n env' := by
  unfold swapsWith Env.blockKind Env.kindOf
  rw [h]
noncomputable def scriptO (vs : List Value) (m : Obj) (o : Obj) : Prop := o = m ∧ m.cls = .type "list" ∧ ∃ n, m.data = .seq vs.toArray n
theorem ints_some {as : List Addr} : ∀ {vs : List Value}, (∀ v ∈ vs, ∃ i t, v = .int i t) → ∃ zs : List Int, VRs as (intL zs) vs
  | [], _ => ⟨[], .nil⟩
  | v :: r, h => by
    obtain ⟨i, t, rfl⟩ := h v (by simp)
    obtain ⟨zs, hz⟩ := ints_some (as := as) (vs := r) fun u hu => h u (by simp [hu])
    exact ⟨i :: zs, .cons ⟨t, rfl⟩ hz⟩
theorem sub_script {g : G} {value slice : Expr} {l sl : Nat} {vs : List Value} {m : Obj} {lo hi st : Option Int} {k : AV → List AO → Prop} (ho : σ[l]? = some (.raw (scriptO vs m))) (hs : σ[sl]? = some (.raw (sliceO lo hi st))) (h0 : st ≠ some 0) (hz : vs.length ≤ 63) (hv : ∀ v ∈ vs, ∃ i t, v = .int i t)
    (h : ∀ zs : List Int, zs.length ≤ 63 → k (.ref σ.length) (σ ++ [.list (intL zs)])) (he : ∀ a b, subscripted slice false (.ref a) (.ref b) = operate [.ref a, .ref b] (getItem (.ref a) (.ref b))) :
    WV2 g d σ lc (.ref l) (.ref sl) (subscriptTail value slice) VR k := by
  have hzz : sizeLine = 2 ^ 24 := rfl
  rintro A base L as s _ _ Rm T S ⟨a, ea, rfl⟩ ⟨b, eb, rfl⟩
  obtain ⟨o, hg, rfl, hcl, n0, hn0⟩ := S.at_ ea ho
  obtain ⟨o, hg', vl, vu, vk, pl, pu, pk, rfl⟩ := S.at_ eb hs
  have il : s.heap.IsList a vs.toArray := ⟨_, hg, hcl, n0, hn0⟩
  obtain ⟨zs, hzs⟩ := ints_some (as := as) (vs := (slicePick vs.toArray lo hi st).toList) fun v hv' => by
    unfold slicePick at hv'
    simp only [List.mem_filterMap] at hv'
    obtain ⟨i, _, e⟩ := hv'
    refine hv v ?_
    have : vs[i]? = some v := by simpa using e
    exact List.mem_of_getElem? this
  refine list_grown (us := slicePick vs.toArray lo hi st) (h zs ?_) S hzs fun Q E q => ?_
  · have h1 := hzs.length
    have h2 := slicePick_size_le vs.toArray lo hi st
    simp [intL] at h1 h2
    omega
  · exact tail_any (Heap.IsList.typeIs (s := s) il) slot_list_getitem.lookup (wpAny_getItem_list_slice il ⟨_, hg', rfl, rfl⟩ pl pu pk h0 (q _) (by simp; omega)) (he a b)
noncomputable abbrev lawC (d : Nat) (cd : Option (Value × Str)) : Cx := ⟨d, scopeOf (stAt 14), [(Str.ofString "script", 3), (Str.ofString "heap", 4), (Str.ofString "lexer", 5), (Str.ofString "indent", 6)], cd⟩
structure LBase (σ : List AO) (vs : List Value) (m : Obj) (f1 f2 : Bool) : Prop where
  scr : σ[0]? = some (.raw (scriptO vs m))
  t1 : σ[1]? = some (.tab 1 163 f1)
  t2 : σ[2]? = some (.tab 2 182 f2)
  c3 : σ[3]? = some (.cell (some (.ref 0)))
  c4 : ∃ v, σ[4]? = some (.cell v)
  c5 : ∃ v, σ[5]? = some (.cell v)
  c6 : ∃ v, σ[6]? = some (.cell v)
theorem LBase.ext {σ σ' : List AO} {vs : List Value} {m : Obj} {f1 f2 : Bool} (h : LBase σ vs m f1 f2) (k : ExtL σ σ') : LBase σ' vs m f1 f2 :=
  ⟨k _ _ h.scr, k _ _ h.t1, k _ _ h.t2, k _ _ h.c3, let ⟨v, e⟩ := h.c4; ⟨v, k _ _ e⟩, let ⟨v, e⟩ := h.c5; ⟨v, k _ _ e⟩, let ⟨v, e⟩ := h.c6; ⟨v, k _ _ e⟩⟩
theorem sum_nonneg : ∀ zs : List Int, (∀ z ∈ zs, 0 ≤ z) → 0 ≤ zs.sum
  | [], _ => by simp
  | z :: r, h => by
    have := sum_nonneg r fun y hy => h y (by simp [hy])
    have := h z (by simp)
    simp; omega
set_option maxHeartbeats 4000000 in
theorem law_sums {vs : List Value} {m : Obj} {f1 f2 : Bool} {cd : Option (Value × Str)} {k : AF → List AO → Lc → Prop} (hB : LBase σ vs m f1 f2) (hz : vs.length ≤ 63) (hv : ∀ v ∈ vs, ∃ i t, v = .int i t)
    (h : ∀ σ' su sums lc', LBase σ' vs m f1 f2 → sums.length = 5 → 7 ≤ su → σ'[su]? = some (.list (natL sums)) → getV (Str.ofString "sums") lc' = some (.ref su) → WSs (G0 w mg mb LM) (lawC d cd) σ' lc' ((bodyOf (stAt 14)).drop 1) k) :
    WSs (G0 w mg mb LM) (lawC d cd) σ lc (bodyOf (stAt 14)) k := by
  have hzz : sizeLine = 2 ^ 24 := rfl
  refine wss_cons ?_
  refine ws_comp (cl' := [(Str.ofString "script", 3)]) (fun as L env Re => ?_) (by kernel_rfl) (cells_one (by kernel_rfl) (by walk_at "gc")) (by decide +kernel) (by decide +kernel) (by decide +kernel) (fun _ _ => rfl) ?_
  · rw [swaps_env _ _ _ (env' := envS (scopeOf (stAt 14))) Re.scope]
    kernel_rfl
  refine wite_call (fun _ => rfl) (fun _ => rfl) (fun _ => rfl) ?_
  repeat walk_at "e"
  refine ⟨by simp [sizeLine], ?_⟩
  repeat walk_at "e"
  refine ⟨_, rfl, callit_enum rfl (by kernel_rfl) (by kernel_rfl) new_get ?_⟩
  have hB1 : LBase (σ ++ [.list [.int 412, .int 1121, .int 1606, .int 594, .int 903]]) vs m f1 f2 := hB.ext .app
  have hm1 : (σ ++ [AO.list [.int 412, .int 1121, .int 1606, .int 594, .int 903]])[σ.length]? = some (.list [.int 412, .int 1121, .int 1606, .int 594, .int 903]) := new_get
  generalize σ ++ [AO.list [.int 412, .int 1121, .int 1606, .int 594, .int 903]] = σ1 at *
  have hlen : ([AV.int 412, .int 1121, .int 1606, .int 594, .int 903] : List AV).length = 5 := rfl
  rw [hlen]
  refine ⟨fun i σ' lc' => ExtL σ1 σ' ∧ (∃ sums : List Nat, sums.length = i ∧ σ'[σ1.length]? = some (.list (natL sums))) ∧ (lc' = [] ∨ ∃ a b, lc' = [(Str.ofString "place", a), (Str.ofString "start", b)]), ⟨.app, ⟨[], rfl, new_get⟩, .inl rfl⟩, ?gd, ?turn, ?fin⟩
  case gd =>
    rintro i σ' lc' ⟨hx, _, _⟩
    exact hx _ _ hm1
  case fin =>
    rintro σ' lc' ⟨hx, ⟨sums, hs, hs'⟩, _⟩
    refine seq_next ?_
    exact h σ' _ sums _ (hB1.ext hx) hs (by obtain ⟨v, e⟩ := hB1.c6; have := lt_of_get e; omega) hs' (by walk_at "gv")
  case turn =>
    rintro i σ' lc' hi ⟨hx, ⟨sums, hs, hs'⟩, hl⟩
    obtain ⟨st, hst⟩ : ∃ st : Nat, ([AV.int 412, .int 1121, .int 1606, .int 594, .int 903] : List AV).getD i .none = .int (st : Int) := by
      match i, hi with
      | 0, _ => exact ⟨412, rfl⟩
      | 1, _ => exact ⟨1121, rfl⟩
      | 2, _ => exact ⟨1606, rfl⟩
      | 3, _ => exact ⟨594, rfl⟩
      | 4, _ => exact ⟨903, rfl⟩
    have ep : putV (Str.ofString "start") (.int (st : Int)) (putV (Str.ofString "place") (.int (i : Int)) lc') = [(Str.ofString "place", .int (i : Int)), (Str.ofString "start", .int (st : Int))] := by
      rcases hl with rfl | ⟨a, b, rfl⟩ <;> simp [putV, ofS_inj]
    show WE _ _ _ (putV (Str.ofString "start") (([AV.int 412, .int 1121, .int 1606, .int 594, .int 903] : List AV).getD i .none) (putV (Str.ofString "place") (.int (i : Int)) lc')) _ _
    rw [hst, ep]
    have hB2 := hB1.ext hx
    repeat walk_at "e"
    refine we_comp (cells_none (by decide +kernel)) (by decide +kernel) (by decide +kernel) (by decide +kernel) (fun _ _ => rfl) ?_
    refine wite_val rfl (by kernel_rfl) ?_
    refine we_sub ?_
    refine we_cell (l := 3) (by kernel_rfl) (by walk_at "gc") hB2.c3 ?_ (by decide +kernel)
    refine we_slc ?_
    repeat walk_at "e"
    refine ⟨some i, some 63, some 5, rfl, rfl, rfl, ?_⟩
    refine sub_script (lo := some i) (hi := some 63) (st := some 5) (get_app hB2.scr) new_get (by decide) hz hv (fun zs hzs => ?_) (fun _ _ => rfl)
    have hx3 : ExtL σ1 (σ' ++ [AO.raw (sliceO (some (i : Int)) (some 63) (some 5))]) := hx.trans .app
    have hs3 := get_app (τ := [AO.raw (sliceO (some (i : Int)) (some 63) (some 5))]) hs'
    generalize σ' ++ [AO.raw (sliceO (some (i : Int)) (some 63) (some 5))] = σ3 at *
    refine ⟨_, _, it_list new_get, ?_⟩
    have hzl : (intL zs).length = zs.length := by simp [intL]
    refine comp_pure1 (F := fun j => .int (zs.getD j 0 % 1000000)) (fun ys => get_app new_get) (by omega) (fun j hj ys => ?_) ?_
    · have : (intL zs).getD j .none = .int (zs.getD j 0) := by
        rw [hzl] at hj
        simp [intL, hj]
      rw [this]
      repeat walk_at "e"
      refine bin_pow_int (by omega) (by decide) ?_
      repeat walk_at "e"
      refine bin_mod_int (by decide) ?_
      exact ⟨rfl, rfl⟩
    have em : (List.range (intL zs).length).map (fun j => AV.int (zs.getD j 0 % 1000000)) = intL (zs.map fun z => z % 1000000) := by
      rw [hzl, map_range_map (fun z : Int => AV.int (z % 1000000))]; simp only [intL, List.map_map]; rfl
    rw [em]
    repeat walk_at "e"
    refine ⟨kp_builtin, call_sum new_get ?_⟩
    obtain ⟨q, hq⟩ : ∃ q : Nat, (zs.map fun z => z % 1000000).sum = (q : Int) := by
      have := sum_nonneg (zs.map fun z => z % 1000000) fun z hz => by
        obtain ⟨y, _, rfl⟩ := List.mem_map.mp hz
        exact Int.emod_nonneg _ (by decide)
      exact ⟨_, (Int.toNat_of_nonneg this).symm⟩
    rw [hq]
    repeat walk_at "e"
    have hs4 := get_app (τ := [AO.list (intL (zs.map fun z => z % 1000000))]) (get_app (τ := [AO.list (intL zs)]) hs3)
    have hx4 : ExtL σ1 (σ3 ++ [AO.list (intL zs)] ++ [AO.list (intL (zs.map fun z => z % 1000000))]) := (hx3.trans .app).trans .app
    refine ⟨natL sums, hs4, by simp [natL]; omega, ?_, ⟨sums ++ [st + q], by simp [hs], ?_⟩, .inr ⟨.int (i : Int), .int (st : Int), (congrArg (fun z => putV (Str.ofString "start") z (putV (Str.ofString "place") (.int (i : Int)) lc')) hst).trans ep⟩⟩
    · intro l ao e
      exact set_other (by have := lt_of_get e; omega) (hx4 l ao e)
    · rw [set_self hs4]
      simp [natL]
end

section
variable {w : World} {mg mb : Str → Option Value} {LM : Nat → Addr → Obj → Prop} {σ : List AO} {lc : Lc} {d : Nat}
noncomputable def wordF (l : List Nat) (m j : Nat) : List Nat := l ++ List.replicate m 34 ++ [97 + j]
noncomputable def sepF (j : Nat) : Nat := [10, 32, 13, 9, 10].getD j 0
noncomputable def LeadOk (l : List Nat) : Prop := l.length ≤ 4 ∧ ∀ c ∈ l, c = 9 ∨ c = 32
noncomputable def spL (ls : List (List Nat)) (ms fs : List Nat) : List (List Nat) := (List.range ls.length).map fun j => spF (fs.getD j 0) (wordF (ls.getD j []) (ms.getD j 0) j) ++ [sepF j]
theorem LBase.set {vs : List Value} {m : Obj} {f1 f2 : Bool} (h : LBase σ vs m f1 f2) {i : Nat} {a : AO} (hi : 7 ≤ i) : LBase (σ.set i a) vs m f1 f2 :=
  ⟨set_other (by omega) h.scr, set_other (by omega) h.t1, set_other (by omega) h.t2, set_other (by omega) h.c3, let ⟨v, e⟩ := h.c4; ⟨v, set_other (by omega) e⟩, let ⟨v, e⟩ := h.c5; ⟨v, set_other (by omega) e⟩, let ⟨v, e⟩ := h.c6; ⟨v, set_other (by omega) e⟩⟩
theorem LBase.set4 {vs : List Value} {m : Obj} {f1 f2 : Bool} (h : LBase σ vs m f1 f2) {v : Option AV} : LBase (σ.set 4 (.cell v)) vs m f1 f2 :=
  ⟨set_other (by omega) h.scr, set_other (by omega) h.t1, set_other (by omega) h.t2, set_other (by omega) h.c3, let ⟨u, e⟩ := h.c4; ⟨v, set_self e⟩, let ⟨v, e⟩ := h.c5; ⟨v, set_other (by omega) e⟩, let ⟨v, e⟩ := h.c6; ⟨v, set_other (by omega) e⟩⟩
structure WdSt (σ : List AO) (vs : List Value) (m : Obj) (f1 f2 : Bool) (n0 su : Nat) (sums : List Nat) (ls : List (List Nat)) (ms : List Nat) (sp : List (List Nat)) : Prop where
  hb : LBase σ vs m f1 f2
  hsu : σ[su]? = some (.list (natL sums))
  hlt : su < n0
  hn0 : 7 ≤ n0
  hs7 : 7 ≤ su
  hl : σ[n0]? = some (.list (strL ls))
  hm : σ[n0 + 1]? = some (.list (natL ms))
  hs : σ[n0 + 2]? = some (.list (strL sp))
namespace WdSt
variable {vs : List Value} {m : Obj} {f1 f2 : Bool} {n0 su : Nat} {sums : List Nat} {ls : List (List Nat)} {ms : List Nat} {sp : List (List Nat)} {σ' : List AO}
theorem ext (h : WdSt σ vs m f1 f2 n0 su sums ls ms sp) (k : ExtL σ σ') : WdSt σ' vs m f1 f2 n0 su sums ls ms sp :=
  ⟨h.hb.ext k, k _ _ h.hsu, h.hlt, h.hn0, h.hs7, k _ _ h.hl, k _ _ h.hm, k _ _ h.hs⟩
theorem heap (h : WdSt σ vs m f1 f2 n0 su sums ls ms sp) {v : Option AV} : WdSt (σ.set 4 (.cell v)) vs m f1 f2 n0 su sums ls ms sp :=
  have := h.hn0
  have := h.hs7
  ⟨h.hb.set4, set_other (by omega) h.hsu, h.hlt, h.hn0, h.hs7, set_other (by omega) h.hl, set_other (by omega) h.hm, set_other (by omega) h.hs⟩
theorem setL (h : WdSt σ vs m f1 f2 n0 su sums ls ms sp) {ls' : List (List Nat)} : WdSt (σ.set n0 (.list (strL ls'))) vs m f1 f2 n0 su sums ls' ms sp :=
  have := h.hn0
  have := h.hlt
  ⟨h.hb.set h.hn0, set_other (by omega) h.hsu, h.hlt, h.hn0, h.hs7, set_self h.hl, set_other (by omega) h.hm, set_other (by omega) h.hs⟩
theorem setM (h : WdSt σ vs m f1 f2 n0 su sums ls ms sp) {ms' : List Nat} : WdSt (σ.set (n0 + 1) (.list (natL ms'))) vs m f1 f2 n0 su sums ls ms' sp :=
  have := h.hn0
  have := h.hlt
  ⟨h.hb.set (by omega), set_other (by omega) h.hsu, h.hlt, h.hn0, h.hs7, set_other (by omega) h.hl, set_self h.hm, set_other (by omega) h.hs⟩
theorem setS (h : WdSt σ vs m f1 f2 n0 su sums ls ms sp) {sp' : List (List Nat)} : WdSt (σ.set (n0 + 2) (.list (strL sp'))) vs m f1 f2 n0 su sums ls ms sp' :=
  have := h.hn0
  have := h.hlt
  ⟨h.hb.set (by omega), set_other (by omega) h.hsu, h.hlt, h.hn0, h.hs7, set_other (by omega) h.hl, set_other (by omega) h.hm, set_self h.hs⟩
end WdSt
theorem getD_app {α : Type} (xs : List α) (a dflt : α) (j : Nat) (h : j < xs.length) : (xs ++ [a]).getD j dflt = xs.getD j dflt := by
  simp [List.getElem?_append_left h]
theorem getD_last {α : Type} (xs : List α) (a dflt : α) : (xs ++ [a]).getD xs.length dflt = a := by simp
theorem spL_snoc {ls : List (List Nat)} {ms fs : List Nat} (a : List Nat) (b c : Nat) (h2 : ms.length = ls.length) (h3 : fs.length = ls.length) : spL (ls ++ [a]) (ms ++ [b]) (fs ++ [c]) = spL ls ms fs ++ [spF c (wordF a b ls.length) ++ [sepF ls.length]] := by
  unfold spL
  rw [List.length_append, List.length_singleton, List.range_succ, List.map_append]
  congr 1
  · refine List.map_congr_left fun j hj => ?_
    have hj := List.mem_range.mp hj
    rw [getD_app _ _ _ _ hj, getD_app _ _ _ _ (by omega), getD_app _ _ _ _ (by omega)]
  · rw [List.map_singleton, getD_last]
    rw [← h2, getD_last, h2, ← h3, getD_last]
theorem spF_len (f : Nat) (wd : List Nat) (h : wd ≠ []) : (spF f wd).length ≤ 2 * wd.length + 2 := by
  unfold spF sp1 sp2 sp0
  have h1 := flat_len (f := fun c => [92, c]) (fun c => by simp) wd
  have h2 := flat_len (f := fun c => if c ∈ [97, 98, 99, 100, 101, 34] then [c] else [92, c]) (fun c => by split <;> simp) wd.tail
  have h3 := flat_len (f := fun c => if c ∈ [34, 92] then [92, c] else [c]) (fun c => by split <;> simp) wd
  have h4 : wd.tail.length + 1 = wd.length := by cases wd with | nil => exact absurd rfl h | cons a r => simp
  split
  · simp only [List.length_append, List.length_cons, List.length_nil]; omega
  · split
    · simp only [List.length_append, List.length_cons, List.length_nil]; omega
    · simp only [List.length_append, List.length_cons, List.length_nil]; omega
noncomputable def bitF (hp j : Nat) : Nat := if Builtin.bitAnd ((hp : Int) / 5 / 2 ^ (Int.toNat (j : Int))) 1 != 0 then 9 else 32
theorem bits_em (hp : Nat) (xs : List Nat) : xs.map (fun j => AV.str [bitF hp j]) = strL (xs.map fun j => [bitF hp j]) := by simp only [strL, List.map_map]; rfl
theorem single_flat (f : Nat → Nat) : ∀ xs : List Nat, (xs.map fun j => [f j]).flatten = xs.map f
  | [] => rfl
  | a :: r => by simp [single_flat f r]
theorem rep_flat : ∀ n : Nat, (List.replicate n [34]).flatten = List.replicate n 34
  | 0 => rfl
  | n + 1 => by rw [List.replicate_succ, List.flatten_cons, rep_flat n]; rfl
theorem bits_lead (hp : Nat) : LeadOk ((List.range (hp % 5)).map (bitF hp)) := by
  refine ⟨by simp; omega, fun c hc => ?_⟩
  obtain ⟨j, _, rfl⟩ := List.mem_map.mp hc
  unfold bitF
  split
  · exact .inl rfl
  · exact .inr rfl
set_option maxHeartbeats 8000000 in
theorem law_words {vs : List Value} {m : Obj} {f1 f2 : Bool} {su : Nat} {sums : List Nat} {cd : Option (Value × Str)} {k : AF → List AO → Lc → Prop} (hB : LBase σ vs m f1 f2) (hsl : sums.length = 5) (hsu : σ[su]? = some (.list (natL sums))) (hs7 : 7 ≤ su) (hlc : getV (Str.ofString "sums") lc = some (.ref su))
    (h : ∀ σ' ll ml sl ls ms fs lc', LBase σ' vs m f1 f2 → ls.length = 5 → ms.length = 5 → fs.length = 5 → (∀ l ∈ ls, LeadOk l) → (∀ q ∈ ms, q ≤ 7) → (7 ≤ ll ∧ ml = ll + 1 ∧ sl = ll + 2) → σ'[ll]? = some (.list (strL ls)) → σ'[ml]? = some (.list (natL ms)) → σ'[sl]? = some (.list (strL (spL ls ms fs))) →
      getV (Str.ofString "leads") lc' = some (.ref ll) → getV (Str.ofString "marks") lc' = some (.ref ml) → getV (Str.ofString "spelled") lc' = some (.ref sl) → WSs (G0 w mg mb LM) (lawC (d + 2) cd) σ' lc' ((bodyOf (stAt 14)).drop 3) k) :
    WSs (G0 w mg mb LM) (lawC (d + 2) cd) σ lc ((bodyOf (stAt 14)).drop 1) k := by
  have hzz : sizeLine = 2 ^ 24 := rfl
  refine wss_cons ?_
  refine ws_swap3 (fun _ => rfl) (fun as L env Re => ?_) ?_
  · rw [swapped_env _ _ (env' := envS (scopeOf (stAt 14))) Re.scope]
    kernel_rfl
  refine we_tuple ?_
  refine wes_cons (fun _ => rfl) ?_
  repeat walk_at "e"
  refine ⟨by simp [sizeLine], ?_⟩
  repeat walk_at "e"
  refine ⟨by simp [sizeLine], ?_⟩
  repeat walk_at "e"
  refine ⟨by simp [sizeLine], ?_⟩
  repeat walk_at "e"
  refine ⟨by simp [sizeLine], ?_⟩
  walk_at "nz"
  refine ⟨_, _, _, _, rfl, by rw [app_get]; rfl, ?_⟩
  refine wns_cons ?_
  repeat walk_at "e"
  refine wns_cons ?_
  repeat walk_at "e"
  refine wns_cons ?_
  repeat walk_at "e"
  refine wns_nil ?_
  repeat walk_at "e"
  have hW : WdSt (σ ++ [AO.list [], AO.list [], AO.list [], AO.tuple [.ref σ.length, .ref (σ.length + 1), .ref (σ.length + 2)]]) vs m f1 f2 σ.length su sums [] [] [] :=
    ⟨hB.ext .app, get_app hsu, lt_of_get hsu, by obtain ⟨v, e⟩ := hB.c6; have := lt_of_get e; omega, hs7, by rw [app_get0]; rfl, by rw [app_get]; rfl, by rw [app_get]; rfl⟩
  generalize σ ++ [AO.list [], AO.list [], AO.list [], AO.tuple [.ref σ.length, .ref (σ.length + 1), .ref (σ.length + 2)]] = σ1 at *
  generalize σ.length = n0 at *
  refine ws_forE (fun _ _ => rfl) ?_
  refine wite_call (fun _ => rfl) (fun _ => rfl) (fun _ => rfl) ?_
  repeat walk_at "e"
  refine ⟨_, rfl, callit_range1 (by kernel_rfl) (by omega) (by omega) ?_⟩
  have hrl : (rangeL 0 (5 : Int).toNat).length = 5 := by simp [rangeL]
  rw [hrl]
  refine ⟨fun i σ' lc' => ∃ ls ms fs, WdSt σ' vs m f1 f2 n0 su sums ls ms (spL ls ms fs) ∧ ls.length = i ∧ ms.length = i ∧ fs.length = i ∧ (∀ l ∈ ls, LeadOk l) ∧ (∀ q ∈ ms, q ≤ 7) ∧ getV (Str.ofString "sums") lc' = some (.ref su) ∧ getV (Str.ofString "leads") lc' = some (.ref n0) ∧ getV (Str.ofString "marks") lc' = some (.ref (n0 + 1)) ∧ getV (Str.ofString "spelled") lc' = some (.ref (n0 + 2)),
    ⟨[], [], [], hW, rfl, rfl, rfl, by simp, by simp, by walk_at "gv", by walk_at "gv", by walk_at "gv", by walk_at "gv"⟩, fun _ _ _ _ => trivial, ?turn, ?fin⟩
  case fin =>
    rintro σ' lc' ⟨ls, ms, fs, hW, l1, l2, l3, ok, mk, g1, g2, g3, g4⟩
    refine seq_next ?_
    exact h σ' _ _ _ ls ms fs lc' hW.hb l1 l2 l3 ok mk ⟨hW.hn0, rfl, rfl⟩ hW.hl hW.hm hW.hs g2 g3 g4
  case turn =>
    rintro i σ2 lc2 hi ⟨ls, ms, fs, hW, l1, l2, l3, ok, mk, g1, g2, g3, g4⟩
    have hg : (rangeL 0 (5 : Int).toNat).getD i .none = .int (i : Int) := by
      have : (5 : Int).toNat = 5 := rfl
      rw [this]; simp [rangeL, hi]
    show WSs _ _ _ (putV (Str.ofString "place") ((rangeL 0 (5 : Int).toNat).getD i .none) lc2) _ _
    rw [hg]
    have q1 : getV (Str.ofString "sums") (putV (Str.ofString "place") (.int (i : Int)) lc2) = some (.ref su) := by walk_at "gv"
    have q2 : getV (Str.ofString "leads") (putV (Str.ofString "place") (.int (i : Int)) lc2) = some (.ref n0) := by walk_at "gv"
    have q3 : getV (Str.ofString "marks") (putV (Str.ofString "place") (.int (i : Int)) lc2) = some (.ref (n0 + 1)) := by walk_at "gv"
    have q4 : getV (Str.ofString "spelled") (putV (Str.ofString "place") (.int (i : Int)) lc2) = some (.ref (n0 + 2)) := by walk_at "gv"
    have q5 : getV (Str.ofString "place") (putV (Str.ofString "place") (.int (i : Int)) lc2) = some (.int (i : Int)) := by walk_at "gv"
    generalize putV (Str.ofString "place") (.int (i : Int)) lc2 = lc3 at *
    refine wss_cons ?_
    repeat walk_at "e"
    refine sub_list hW.hsu (by omega) (by omega) (by rw [Int.toNat_natCast]; exact natL_get (by omega)) ?_ (fun _ _ => rfl)
    generalize hhp : sums.getD i 0 = hp
    obtain ⟨v4, e4⟩ := hW.hb.c4
    refine wn_cell (l := 4) (v₀ := v4) (by kernel_rfl) (by walk_at "gc") e4 ?_
    have hW1 := hW.heap (v := some (.int (hp : Int)))
    have c4 := set_self (a := .cell (some (.int (hp : Int)))) e4
    generalize σ2.set 4 (.cell (some (.int (hp : Int)))) = σ3 at *
    repeat walk_at "e"
    refine meth_list PySem.F.slot_list_append PySem.F.type_list_append hW1.hl ?_
    refine wes_cons (fun _ => rfl) ?_
    refine we_meth (fun _ => rfl) (fun _ => rfl) (fun _ => .inr ⟨_, _, rfl⟩) ?_
    repeat walk_at "e"
    refine meth_str (fun t pl A E s Q h => str_join_meth t pl A E s Q h) ?_
    refine wes_cons (fun _ => rfl) ?_
    refine we_comp (cl' := [(Str.ofString "heap", 4)]) (cells_one (by kernel_rfl) (by walk_at "gc")) (by decide +kernel) (by decide +kernel) (by decide +kernel) (fun _ _ => rfl) ?_
    refine wite_call (fun _ => rfl) (fun _ => rfl) (fun _ => rfl) ?_
    repeat walk_at "e"
    refine we_cell (l := 4) (by kernel_rfl) (by walk_at "gc") c4 ?_ (by decide +kernel)
    repeat walk_at "e"
    refine bin_mod_int (by omega) ?_
    repeat walk_at "e"
    refine ⟨_, rfl, callit_range1 (by kernel_rfl) (by omega) (by omega) ?_⟩
    have hm5 : ((hp : Int) % 5).toNat = hp % 5 := by omega
    rw [hm5]
    have hrl5 : (rangeL 0 (hp % 5)).length = hp % 5 := by simp [rangeL]
    refine comp_pure1 (F := fun j => .str [bitF hp j]) (fun _ => trivial) (by omega) (fun j hj ys => ?_) ?_
    · have : (rangeL 0 (hp % 5)).getD j .none = .int (j : Int) := by
        rw [hrl5] at hj
        simp [rangeL, hj]
      rw [this]
      refine we_if ?_
      refine wb_val (fun _ _ => rfl) ?_
      refine we_bin ?_
      refine we_bin ?_
      refine we_bin ?_
      refine we_cell (l := 4) (by kernel_rfl) (by walk_at "gc") (get_app c4) ?_ (by decide +kernel)
      repeat walk_at "e"
      refine bin_div_int (by omega) (by omega) ?_
      repeat walk_at "e"
      refine bin_shr_int (by omega) ?_
      repeat walk_at "e"
      refine bin_and_int ?_
      refine tru_int ?_
      cases hq : Builtin.bitAnd ((hp : Int) / 5 / 2 ^ (Int.toNat (j : Int))) 1 != 0 with
      | true =>
        refine ite_yes ?_
        repeat walk_at "e"
        exact ⟨by unfold bitF; rw [hq]; rfl, rfl⟩
      | false =>
        refine ite_no ?_
        repeat walk_at "e"
        exact ⟨by unfold bitF; rw [hq]; rfl, rfl⟩
    rw [hrl5]
    rw [bits_em]
    have hlead := bits_lead hp
    repeat walk_at "e"
    refine ⟨kp_builtin, call_join new_get (by rw [single_flat]; simp; omega) ?_⟩
    rw [single_flat]
    generalize (List.range (hp % 5)).map (bitF hp) = ld at *
    repeat walk_at "e"
    have hW2 := hW1.ext (ExtL.app (τ := [AO.list (strL ((List.range (hp % 5)).map fun j => [bitF hp j]))]))
    have c42 := get_app (τ := [AO.list (strL ((List.range (hp % 5)).map fun j => [bitF hp j]))]) c4
    generalize σ3 ++ [AO.list (strL ((List.range (hp % 5)).map fun j => [bitF hp j]))] = σ4 at *
    refine ⟨kp_builtin, call_append hW2.hl (by simp [strL]; omega) ?_⟩
    have e1 : strL ls ++ [AV.str ld] = strL (ls ++ [ld]) := by simp [strL]
    rw [e1]
    have hW3 := hW2.setL (ls' := ls ++ [ld])
    have c43 := set_other (a := .list (strL (ls ++ [ld]))) (show n0 ≠ 4 by have := hW2.hn0; omega) c42
    generalize σ4.set n0 (.list (strL (ls ++ [ld]))) = σ5 at *
    repeat walk_at "e"
    refine meth_list PySem.F.slot_list_append PySem.F.type_list_append hW3.hm ?_
    refine wes_cons (fun _ => rfl) ?_
    refine we_bin ?_
    refine we_bin ?_
    refine we_cell (l := 4) (by kernel_rfl) (by walk_at "gc") c43 ?_ (by decide +kernel)
    repeat walk_at "e"
    refine bin_div_int (by omega) (by omega) ?_
    repeat walk_at "e"
    refine bin_mod_int (by omega) ?_
    repeat walk_at "e"
    have e2 : (hp : Int) / 80 % 8 = ((hp / 80 % 8 : Nat) : Int) := by omega
    rw [e2]
    have hmk : hp / 80 % 8 ≤ 7 := by omega
    generalize hp / 80 % 8 = mk1 at *
    refine ⟨kp_builtin, call_append hW3.hm (by simp [natL]; omega) ?_⟩
    have e3 : natL ms ++ [AV.int (mk1 : Int)] = natL (ms ++ [mk1]) := by simp [natL]
    rw [e3]
    have hW4 := hW3.setM (ms' := ms ++ [mk1])
    have c44 := set_other (a := .list (natL (ms ++ [mk1]))) (show n0 + 1 ≠ 4 by have := hW2.hn0; omega) c43
    generalize σ5.set (n0 + 1) (.list (natL (ms ++ [mk1]))) = σ6 at *
    repeat walk_at "e"
    refine sub_list (x := .str ld) hW4.hl (by omega) (by omega) (by rw [Int.toNat_natCast]; simp [strL, ← l1]) ?_ (fun _ _ => rfl)
    repeat walk_at "e"
    refine sub_list (x := .int mk1) hW4.hm (by omega) (by omega) (by rw [Int.toNat_natCast]; simp [natL, ← l2]) ?_ (fun _ _ => rfl)
    refine bin_mul_str (by omega) (by simp) (by omega) ?_
    have e4 : (List.replicate (Int.toNat (mk1 : Int)) [34]).flatten = List.replicate mk1 34 := by
      rw [Int.toNat_natCast, rep_flat]
    rw [e4]
    have hl1 := hlead.1
    refine bin_add_str (by simp; omega) ?_
    repeat walk_at "e"
    refine sub_str (ch := 97 + i) (by omega) (by omega) (by
      rw [Int.toNat_natCast]
      match i, hi with
      | 0, _ => rfl
      | 1, _ => rfl
      | 2, _ => rfl
      | 3, _ => rfl
      | 4, _ => rfl) ?_ (fun _ _ => rfl)
    refine bin_add_str (by simp; omega) ?_
    have e5 : ld ++ List.replicate mk1 34 ++ [97 + i] = wordF ld mk1 i := rfl
    rw [e5]
    have hwl : (wordF ld mk1 i).length ≤ 20 := by simp [wordF]; omega
    have hwn : wordF ld mk1 i ≠ [] := by simp [wordF]
    repeat walk_at "e"
    refine meth_list PySem.F.slot_list_append PySem.F.type_list_append hW4.hs ?_
    refine wes_cons (fun _ => rfl) ?_
    refine we_bin ?_
    refine we_call (fun _ => rfl) (fun _ => rfl) (fun _ => rfl) ?_
    repeat walk_at "e"
    refine we_cell (l := 4) (by kernel_rfl) (by walk_at "gc") c44 ?_ (by decide +kernel)
    repeat walk_at "e"
    refine bin_div_int (by omega) (by omega) ?_
    repeat walk_at "e"
    refine bin_mod_int (by omega) ?_
    repeat walk_at "e"
    have e6 : (hp : Int) / 640 % 3 = ((hp / 640 % 3 : Nat) : Int) := by omega
    rw [e6]
    generalize hp / 640 % 3 = fm at *
    refine ⟨kp_K (fn_spelled _).keep, spelled_call (by omega) hwn fun σ7 hx7 => ?_⟩
    have hW5 := hW4.ext hx7
    repeat walk_at "e"
    refine sub_str (ch := sepF i) (by omega) (by omega) (by
      rw [Int.toNat_natCast]
      match i, hi with
      | 0, _ => rfl
      | 1, _ => rfl
      | 2, _ => rfl
      | 3, _ => rfl
      | 4, _ => rfl) ?_ (fun _ _ => rfl)
    have hsl6 := spF_len fm (wordF ld mk1 i) hwn
    refine bin_add_str (by simp only [List.length_append, List.length_cons, List.length_nil]; omega) ?_
    repeat walk_at "e"
    have hspl : (spL ls ms fs).length = i := by simp [spL, l1]
    refine ⟨kp_builtin, call_append hW5.hs (by simp [strL]; omega) ?_⟩
    have e7 : strL (spL ls ms fs) ++ [AV.str (spF fm (wordF ld mk1 i) ++ [sepF i])] = strL (spL (ls ++ [ld]) (ms ++ [mk1]) (fs ++ [fm])) := by
      rw [spL_snoc _ _ _ (by omega) (by omega), l1]
      simp [strL]
    rw [e7]
    have hW6 := hW5.setS (sp' := spL (ls ++ [ld]) (ms ++ [mk1]) (fs ++ [fm]))
    repeat walk_at "e"
    refine ⟨ls ++ [ld], ms ++ [mk1], fs ++ [fm], hW6, by simp [l1], by simp [l2], by simp [l3], fun l hl => ?_, fun q hq => ?_, by walk_at "gv", by walk_at "gv", by walk_at "gv", by walk_at "gv"⟩
    · rcases List.mem_append.mp hl with z | z
      · exact ok l z
      · have : l = ld := by simpa using z
        rw [this]; exact hlead
    · rcases List.mem_append.mp hq with z | z
      · exact mk q z
      · have : q = mk1 := by simpa using z
        omega
end

section
variable {w : World} {mg mb : Str → Option Value} {LM : Nat → Addr → Obj → Prop} {σ : List AO} {lc : Lc} {d : Nat}
theorem flat_len2 {B : Nat} : ∀ xs : List (List Nat), (∀ x ∈ xs, x.length ≤ B) → xs.flatten.length ≤ B * xs.length
  | [], _ => by simp
  | a :: r, h => by
    have h1 := flat_len2 r fun x hx => h x (by simp [hx])
    have h2 := h a (by simp)
    rw [List.flatten_cons, List.length_append, List.length_cons, Nat.mul_add]
    omega
noncomputable def textF (ls : List (List Nat)) (ms fs : List Nat) : List Nat := (spL ls ms fs).flatten ++ [122]
theorem wordF_len {ls : List (List Nat)} {ms : List Nat} (ok : ∀ l ∈ ls, LeadOk l) (mk : ∀ q ∈ ms, q ≤ 7) (j : Nat) (h : j < ls.length) (h2 : j < ms.length) : (wordF (ls.getD j []) (ms.getD j 0) j).length ≤ 12 := by
  have h3 := (ok (ls.getD j []) (by rw [List.getD_eq_getElem?_getD, List.getElem?_eq_getElem h]; exact List.getElem_mem h)).1
  have h4 := mk (ms.getD j 0) (by rw [List.getD_eq_getElem?_getD, List.getElem?_eq_getElem h2]; exact List.getElem_mem h2)
  simp [wordF] at *
  omega
theorem sp_len {ls : List (List Nat)} {ms fs : List Nat} (ok : ∀ l ∈ ls, LeadOk l) (mk : ∀ q ∈ ms, q ≤ 7) (h2 : ms.length = ls.length) : ∀ x ∈ spL ls ms fs, x.length ≤ 27 := by
  intro x hx
  obtain ⟨j, hj, rfl⟩ := List.mem_map.mp hx
  have hj := List.mem_range.mp hj
  have h1 := spF_len (fs.getD j 0) (wordF (ls.getD j []) (ms.getD j 0) j) (by simp [wordF])
  have h3 := wordF_len ok mk j hj (by omega)
  rw [List.length_append, List.length_singleton]
  omega
theorem text_len {ls : List (List Nat)} {ms fs : List Nat} (ok : ∀ l ∈ ls, LeadOk l) (mk : ∀ q ∈ ms, q ≤ 7) (h1 : ls.length = 5) (h2 : ms.length = 5) : (spL ls ms fs).flatten.length ≤ 135 := by
  have := flat_len2 (spL ls ms fs) (sp_len ok mk (by omega))
  have e : (spL ls ms fs).length = 5 := by simp [spL, h1]
  omega
noncomputable def rowsF (ls : List (List Nat)) : List (List Nat) := ls.map fun l => colsF l 5
set_option maxHeartbeats 4000000 in
theorem law_text {vs : List Value} {m : Obj} {f1 : Bool} {ll ml sl : Nat} {ls : List (List Nat)} {ms fs : List Nat} {cd : Option (Value × Str)} {k : AF → List AO → Lc → Prop} (hB : LBase σ vs m f1 true) (l1 : ls.length = 5) (l2 : ms.length = 5) (ok : ∀ l ∈ ls, LeadOk l) (mk : ∀ q ∈ ms, q ≤ 7)
    (hll : σ[ll]? = some (.list (strL ls))) (hml : σ[ml]? = some (.list (natL ms))) (hsl : σ[sl]? = some (.list (strL (spL ls ms fs)))) (g1 : getV (Str.ofString "leads") lc = some (.ref ll)) (g2 : getV (Str.ofString "marks") lc = some (.ref ml)) (g3 : getV (Str.ofString "spelled") lc = some (.ref sl))
    (h : ∀ σ' lk os lc', os.Perm (List.range 5) → os.Pairwise (fun i j => rowKey (rowsF ls) i ≤ rowKey (rowsF ls) j) → LBase σ' vs m f1 false → σ'[ll]? = some (.list (strL ls)) → σ'[ml]? = some (.list (natL ms)) → σ'[lk]? = some (.list (natL (lkF (rowD (rowsF ls)) 5 os))) →
      getV (Str.ofString "leads") lc' = some (.ref ll) → getV (Str.ofString "marks") lc' = some (.ref ml) → getV (Str.ofString "links") lc' = some (.ref lk) → getV (Str.ofString "text") lc' = some (.str (textF ls ms fs)) → WSs (G0 w mg mb LM) (lawC (d + 4) cd) σ' lc' ((bodyOf (stAt 14)).drop 5) k) :
    WSs (G0 w mg mb LM) (lawC (d + 4) cd) σ lc ((bodyOf (stAt 14)).drop 3) k := by
  have hzz : sizeLine = 2 ^ 24 := rfl
  have htl := text_len (fs := fs) ok mk l1 l2
  refine wss_cons ?_
  repeat walk_at "e"
  refine meth_str (fun t pl A E s Q h => str_join_meth t pl A E s Q h) ?_
  repeat walk_at "e"
  refine ⟨kp_builtin, call_join hsl (by omega) ?_⟩
  repeat walk_at "e"
  refine bin_add_str (by rw [List.length_append, List.length_singleton]; omega) ?_
  repeat walk_at "e"
  refine we_comp (cells_none (by decide +kernel)) (by decide +kernel) (by decide +kernel) (by decide +kernel) (fun _ _ => rfl) ?_
  refine wite_val rfl (by kernel_rfl) ?_
  repeat walk_at "e"
  refine ⟨_, _, it_list hll, ?_⟩
  have hlen : (strL ls).length = 5 := by simp [strL, l1]
  rw [hlen]
  refine ⟨fun i σ' lc' => ExtL σ σ' ∧ (∃ rs : List Nat, rs.length = i ∧ σ'[σ.length]? = some (.list (rs.map .ref)) ∧ ∀ (j l : Nat), rs[j]? = some l → σ'[l]? = some (.list (natL (colsF (ls.getD j []) 5))) ∧ σ.length < l) ∧ (lc' = [] ∨ ∃ a, lc' = [(Str.ofString "lead", a)]), ⟨.app, ⟨[], rfl, new_get, fun j l e => by simp at e⟩, .inl rfl⟩, ?gd, ?turn, ?fin⟩
  case gd =>
    rintro i σ' lc' ⟨hx, _⟩
    exact hx _ _ hll
  case turn =>
    rintro i σ' lc' hi ⟨hx, ⟨rs, hrs, hd, hall⟩, hl⟩
    have hg : (strL ls).getD i .none = .str (ls.getD i []) := by simp [strL, l1, hi]
    have ep : putV (Str.ofString "lead") (.str (ls.getD i [])) lc' = [(Str.ofString "lead", .str (ls.getD i []))] := by
      rcases hl with rfl | ⟨a, rfl⟩ <;> simp [putV]
    show WE _ _ _ (putV (Str.ofString "lead") ((strL ls).getD i .none) lc') _ _
    rw [hg, ep]
    repeat walk_at "e"
    refine ⟨kp_K (fn_columns _).keep, columns_call ?_⟩
    have hd1 := get_app (τ := [AO.list (natL (colsF (ls.getD i []) 5))]) hd
    have hlt := lt_of_get hd
    refine ⟨rs.map .ref, hd1, by simp [hrs]; omega, fun l ao e => set_other (by have := lt_of_get e; omega) (get_app (hx l ao e)), ⟨rs ++ [σ'.length], by simp [hrs], by rw [set_self hd1]; simp, fun j l e => ?_⟩, .inr ⟨_, (congrArg (fun z => putV (Str.ofString "lead") z lc') hg).trans ep⟩⟩
    rcases Nat.lt_or_ge j rs.length with z | z
    · rw [List.getElem?_append_left z] at e
      obtain ⟨e1, e2⟩ := hall j l e
      exact ⟨set_other (by omega) (get_app e1), e2⟩
    · rw [List.getElem?_append_right z] at e
      have hj0 : j - rs.length = 0 := by
        rcases Nat.eq_zero_or_pos (j - rs.length) with q | q
        · exact q
        · rw [List.getElem?_eq_none (by simp; omega)] at e; cases e
      rw [hj0] at e
      simp only [List.getElem?_cons_zero, Option.some.injEq] at e
      subst e
      have : j = i := by omega
      subst this
      exact ⟨set_other (by omega) new_get, by omega⟩
  case fin =>
    rintro σ' lc' ⟨hx, ⟨rs, hrs, hd, hall⟩, _⟩
    have hB1 := hB.ext hx
    repeat walk_at "e"
    have hrl : (rowsF ls).length = 5 := by simp [rowsF, l1]
    refine ⟨kp_K (fn_links _).keep, links_call (t := 2) (rows := rowsF ls) hB1.t2 ⟨rs, by omega, hd, fun i l r e1 e2 => ?_⟩ (by omega) (fun r hr => ?_) fun σ2 os lk hos hpw hk ht2 hlk => ?_⟩
    · obtain ⟨e3, _⟩ := hall i l e1
      have : r = colsF (ls.getD i []) 5 := by
        simp only [rowsF, List.getElem?_map] at e2
        cases q : ls[i]? with
        | none => rw [q] at e2; cases e2
        | some x => rw [q] at e2; cases e2; simp [List.getD_eq_getElem?_getD, q]
      rw [this]; exact e3
    · obtain ⟨x, _, rfl⟩ := List.mem_map.mp hr
      simp [colsF]
    rw [hrl] at hos hlk
    have hB2 : LBase σ2 vs m f1 false := ⟨hk _ _ hB1.scr (by omega), hk _ _ hB1.t1 (by omega), ht2, hk _ _ hB1.c3 (by omega), let ⟨v, e⟩ := hB1.c4; ⟨v, hk _ _ e (by omega)⟩, let ⟨v, e⟩ := hB1.c5; ⟨v, hk _ _ e (by omega)⟩, let ⟨v, e⟩ := hB1.c6; ⟨v, hk _ _ e (by omega)⟩⟩
    have n1 : ll ≠ 2 := ne_of_ao hll hB.t2 (by simp)
    have n2 : ml ≠ 2 := ne_of_ao hml hB.t2 (by simp)
    refine wn_loc' (by kernel_rfl) rfl ?_
    refine seq_next ?_
    exact h σ2 lk os _ hos hpw hB2 (hk _ _ (hx _ _ hll) n1) (hk _ _ (hx _ _ hml) n2) hlk (by walk_at "gv") (by walk_at "gv") (by walk_at "gv") (by walk_at "gv")
end

section
variable {w : World} {mg mb : Str → Option Value} {LM : Nat → Addr → Obj → Prop} {σ : List AO} {lc : Lc} {d : Nat}
noncomputable def wordR (l : List Nat) (m p t : Nat) : List Nat := l ++ List.replicate (m / 2 ^ t) 34 ++ (if m % 2 ^ t = 0 then [97 + p] else [])
noncomputable def outP (ls : List (List Nat)) (ms links : List Nat) (t j : Nat) : List (List Nat) := ((List.range j).map fun p => if links.getD p 0 = t then [wordR (ls.getD p []) (ms.getD p 0) p t] else []).flatten
theorem natL_int (ns : List Nat) : natL ns = intL (ns.map fun n : Nat => (n : Int)) := by simp only [natL, intL, List.map_map]; rfl
theorem maxI_spec : ∀ ns : List Int, ns ≠ [] → maxI ns ∈ ns ∧ ∀ n ∈ ns, n ≤ maxI ns
  | [a], _ => by simp [maxI]
  | a :: b :: r, _ => by
    obtain ⟨h1, h2⟩ := maxI_spec (b :: r) (by simp)
    show max a (maxI (b :: r)) ∈ _ ∧ ∀ n ∈ _, n ≤ max a (maxI (b :: r))
    refine ⟨?_, fun n hn => ?_⟩
    · rcases Int.le_total a (maxI (b :: r)) with z | z
      · rw [Int.max_eq_right z]; exact .tail _ h1
      · rw [Int.max_eq_left z]; exact .head _
    · rcases List.mem_cons.mp hn with rfl | hn
      · omega
      · have := h2 n hn; omega
structure DueSt (σ : List AO) (vs : List Value) (m : Obj) (f1 f2 : Bool) (ll ml lk : Nat) (ls : List (List Nat)) (ms links : List Nat) (dl : Nat) (rs : List Nat) (D : Nat → List (List Nat)) : Prop where
  hb : LBase σ vs m f1 f2
  h1 : σ[ll]? = some (.list (strL ls))
  h2 : σ[ml]? = some (.list (natL ms))
  h3 : σ[lk]? = some (.list (natL links))
  h4 : σ[dl]? = some (.list (rs.map .ref))
  h5 : ∀ (j l : Nat), rs[j]? = some l → dl < l ∧ σ[l]? = some (.list (strL (D j)))
  lt : 7 ≤ dl ∧ ll < dl ∧ ml < dl ∧ lk < dl
namespace DueSt
variable {vs : List Value} {m : Obj} {f1 f2 : Bool} {ll ml lk : Nat} {ls : List (List Nat)} {ms links : List Nat} {dl : Nat} {rs : List Nat} {D : Nat → List (List Nat)} {σ' : List AO}
theorem ext (h : DueSt σ vs m f1 f2 ll ml lk ls ms links dl rs D) (k : ExtL σ σ') : DueSt σ' vs m f1 f2 ll ml lk ls ms links dl rs D :=
  ⟨h.hb.ext k, k _ _ h.h1, k _ _ h.h2, k _ _ h.h3, k _ _ h.h4, fun j l e => ⟨(h.h5 j l e).1, k _ _ (h.h5 j l e).2⟩, h.lt⟩
theorem set (h : DueSt σ vs m f1 f2 ll ml lk ls ms links dl rs D) {q : Nat} {a : AO} (hq : dl < q) (hr : ∀ (j l : Nat), rs[j]? = some l → l ≠ q) : DueSt (σ.set q a) vs m f1 f2 ll ml lk ls ms links dl rs D :=
  have := h.lt
  ⟨h.hb.set (by omega), set_other (by omega) h.h1, set_other (by omega) h.h2, set_other (by omega) h.h3, set_other (by omega) h.h4, fun j l e => ⟨(h.h5 j l e).1, set_other (Ne.symm (hr j l e)) (h.h5 j l e).2⟩, h.lt⟩
theorem push (h : DueSt σ vs m f1 f2 ll ml lk ls ms links dl rs D) {ol : Nat} (ho : σ[ol]? = some (.list (strL (D rs.length)))) (hl : dl < ol) : DueSt (σ.set dl (.list ((rs ++ [ol]).map .ref))) vs m f1 f2 ll ml lk ls ms links dl (rs ++ [ol]) D := by
  have := h.lt
  refine ⟨h.hb.set (by omega), set_other (by omega) h.h1, set_other (by omega) h.h2, set_other (by omega) h.h3, set_self h.h4, fun j l e => ?_, h.lt⟩
  rcases Nat.lt_or_ge j rs.length with z | z
  · rw [List.getElem?_append_left z] at e
    obtain ⟨e1, e2⟩ := h.h5 j l e
    exact ⟨e1, set_other (by omega) e2⟩
  · rw [List.getElem?_append_right z] at e
    have hj0 : j - rs.length = 0 := by
      rcases Nat.eq_zero_or_pos (j - rs.length) with q | q
      · exact q
      · rw [List.getElem?_eq_none (by simp; omega)] at e; cases e
    rw [hj0] at e
    simp only [List.getElem?_cons_zero, Option.some.injEq] at e
    subst e
    have : j = rs.length := by omega
    subst this
    exact ⟨hl, set_other (by omega) ho⟩
end DueSt
theorem outP_succ (ls : List (List Nat)) (ms links : List Nat) (t j : Nat) : outP ls ms links t (j + 1) = outP ls ms links t j ++ (if links.getD j 0 = t then [wordR (ls.getD j []) (ms.getD j 0) j t] else []) := by
  unfold outP
  rw [List.range_succ, List.map_append, List.flatten_append]
  simp only [List.map_singleton, List.flatten_cons, List.flatten_nil, List.append_nil]
theorem outP_len (ls : List (List Nat)) (ms links : List Nat) (t : Nat) : ∀ j, (outP ls ms links t j).length ≤ j
  | 0 => by simp [outP]
  | j + 1 => by
    have := outP_len ls ms links t j
    rw [outP_succ, List.length_append]
    split
    · rw [List.length_singleton]; omega
    · rw [List.length_nil]; omega
theorem rep_flat1 (c : Nat) : ∀ n : Nat, (List.replicate n [c]).flatten = List.replicate n c
  | 0 => rfl
  | n + 1 => by rw [List.replicate_succ, List.flatten_cons, rep_flat1 c n]; rfl
theorem shr_eq (m t : Nat) : (m : Int) / 2 ^ (Int.toNat (t : Int)) = ((m / 2 ^ t : Nat) : Int) := by
  rw [Int.toNat_natCast]
  simp
theorem mod_eq (m t : Nat) : (m : Int) % (2 ^ (Int.toNat (t : Int))) = ((m % 2 ^ t : Nat) : Int) := by
  rw [Int.toNat_natCast]
  simp
set_option maxHeartbeats 8000000 in
theorem law_due {vs : List Value} {m : Obj} {f1 f2 : Bool} {ll ml lk : Nat} {ls : List (List Nat)} {ms links : List Nat} {text : List Nat} {cd : Option (Value × Str)} {k : AF → List AO → Lc → Prop} (hB : LBase σ vs m f1 f2) (l1 : ls.length = 5) (l2 : ms.length = 5) (l3 : links.length = 5) (ok : ∀ l ∈ ls, LeadOk l) (mk : ∀ q ∈ ms, q ≤ 7)
    (hln : ∀ q ∈ links, q ≤ 6)
    (hll : σ[ll]? = some (.list (strL ls))) (hml : σ[ml]? = some (.list (natL ms))) (hlk : σ[lk]? = some (.list (natL links))) (g1 : getV (Str.ofString "leads") lc = some (.ref ll)) (g2 : getV (Str.ofString "marks") lc = some (.ref ml)) (g3 : getV (Str.ofString "links") lc = some (.ref lk)) (g4 : getV (Str.ofString "text") lc = some (.str text))
    (h : ∀ σ' dl rs T lc', (∀ q ∈ links, q ≤ T) → T ∈ links → DueSt σ' vs m f1 f2 ll ml lk ls ms links dl rs (fun i => outP ls ms links (1 + i) 5) → rs.length = T → getV (Str.ofString "due") lc' = some (.ref dl) → getV (Str.ofString "text") lc' = some (.str text) → WSs (G0 w mg mb LM) (lawC (d + 4) cd) σ' lc' ((bodyOf (stAt 14)).drop 7) k) :
    WSs (G0 w mg mb LM) (lawC (d + 4) cd) σ lc ((bodyOf (stAt 14)).drop 5) k := by
  have hzz : sizeLine = 2 ^ 24 := rfl
  refine wss_cons ?_
  repeat walk_at "e"
  refine ⟨by simp [sizeLine], ?_⟩
  repeat walk_at "e"
  have hlt6 : 6 < σ.length := by obtain ⟨v, e⟩ := hB.c6; exact lt_of_get e
  have hD0 : DueSt (σ ++ [AO.list []]) vs m f1 f2 ll ml lk ls ms links σ.length [] (fun i => outP ls ms links (1 + i) 5) :=
    ⟨hB.ext .app, get_app hll, get_app hml, get_app hlk, new_get, fun j l e => by simp at e, by omega, lt_of_get hll, lt_of_get hml, lt_of_get hlk⟩
  generalize σ ++ [AO.list []] = σ1 at *
  generalize σ.length = dl at *
  refine ws_forE (fun _ _ => rfl) ?_
  refine wite_call (fun _ => rfl) (fun _ => rfl) (fun _ => rfl) ?_
  repeat walk_at "e"
  have hne : (links.map fun n : Nat => (n : Int)) ≠ [] := fun z => by
    have := congrArg List.length z
    simp [l3] at this
  refine ⟨kp_builtin, call_max (ns := links.map fun n : Nat => (n : Int)) (by rw [← natL_int]; exact hD0.h3) hne ?_⟩
  obtain ⟨hm1, hm2⟩ := maxI_spec _ hne
  obtain ⟨T, hTm, hT⟩ := List.mem_map.mp hm1
  rw [← hT]
  have hTle : ∀ q ∈ links, q ≤ T := fun q hq => by
    have := hm2 (q : Int) (List.mem_map.mpr ⟨q, hq, rfl⟩)
    rw [← hT] at this
    omega
  have hT5 := hln T hTm
  repeat walk_at "e"
  refine ⟨_, rfl, callit_range2 (by kernel_rfl) (by omega) (by omega) (by omega) (by omega) ?_⟩
  have hTn : ((T : Int) + 1 - 1).toNat = T := by omega
  rw [hTn]
  have hrl : (rangeL 1 T).length = T := by simp [rangeL]
  rw [hrl]
  refine ⟨fun i σ' lc' => (∃ rs, DueSt σ' vs m f1 f2 ll ml lk ls ms links dl rs (fun i => outP ls ms links (1 + i) 5) ∧ rs.length = i) ∧ getV (Str.ofString "leads") lc' = some (.ref ll) ∧ getV (Str.ofString "marks") lc' = some (.ref ml) ∧ getV (Str.ofString "links") lc' = some (.ref lk) ∧ getV (Str.ofString "text") lc' = some (.str text) ∧ getV (Str.ofString "due") lc' = some (.ref dl),
    ⟨⟨[], hD0, rfl⟩, by walk_at "gv", by walk_at "gv", by walk_at "gv", by walk_at "gv", by walk_at "gv"⟩, fun _ _ _ _ => trivial, ?turn, ?fin⟩
  case fin =>
    rintro σ' lc' ⟨⟨rs, hD, hrs⟩, _, _, _, q4, q5⟩
    refine seq_next ?_
    exact h σ' dl rs T lc' hTle hTm hD hrs q5 q4
  case turn =>
    rintro i σ2 lc2 hi ⟨⟨rs, hD, hrs⟩, q1, q2, q3, q4, q5⟩
    have hg : (rangeL 1 T).getD i .none = .int ((1 + i : Nat) : Int) := by simp [rangeL, hi]
    show WSs _ _ _ (putV (Str.ofString "turn") ((rangeL 1 T).getD i .none) lc2) _ _
    rw [hg]
    have r1 : getV (Str.ofString "leads") (putV (Str.ofString "turn") (.int ((1 + i : Nat) : Int)) lc2) = some (.ref ll) := by walk_at "gv"
    have r2 : getV (Str.ofString "marks") (putV (Str.ofString "turn") (.int ((1 + i : Nat) : Int)) lc2) = some (.ref ml) := by walk_at "gv"
    have r3 : getV (Str.ofString "links") (putV (Str.ofString "turn") (.int ((1 + i : Nat) : Int)) lc2) = some (.ref lk) := by walk_at "gv"
    have r4 : getV (Str.ofString "text") (putV (Str.ofString "turn") (.int ((1 + i : Nat) : Int)) lc2) = some (.str text) := by walk_at "gv"
    have r5 : getV (Str.ofString "due") (putV (Str.ofString "turn") (.int ((1 + i : Nat) : Int)) lc2) = some (.ref dl) := by walk_at "gv"
    have r6 : getV (Str.ofString "turn") (putV (Str.ofString "turn") (.int ((1 + i : Nat) : Int)) lc2) = some (.int ((1 + i : Nat) : Int)) := by walk_at "gv"
    generalize putV (Str.ofString "turn") (.int ((1 + i : Nat) : Int)) lc2 = lc3 at *
    refine wss_cons ?_
    repeat walk_at "e"
    refine ⟨by simp [sizeLine], ?_⟩
    have hD3 := hD.ext (ExtL.app (τ := [AO.list []]))
    have ho3 : (σ2 ++ [AO.list []])[σ2.length]? = some (.list (strL (outP ls ms links (1 + i) 0))) := new_get
    have hol : dl < σ2.length := lt_of_get hD.h4
    have hors : ∀ (j l : Nat), rs[j]? = some l → l ≠ σ2.length := fun j l e => Nat.ne_of_lt (lt_of_get (hD.h5 j l e).2)
    generalize σ2 ++ [AO.list []] = σ3 at *
    generalize σ2.length = ol at *
    refine wn_loc' (by kernel_rfl) rfl ?_
    have s1 : getV (Str.ofString "leads") (putV (Str.ofString "out") (.ref ol) lc3) = some (.ref ll) := by walk_at "gv"
    have s2 : getV (Str.ofString "marks") (putV (Str.ofString "out") (.ref ol) lc3) = some (.ref ml) := by walk_at "gv"
    have s3 : getV (Str.ofString "links") (putV (Str.ofString "out") (.ref ol) lc3) = some (.ref lk) := by walk_at "gv"
    have s4 : getV (Str.ofString "text") (putV (Str.ofString "out") (.ref ol) lc3) = some (.str text) := by walk_at "gv"
    have s5 : getV (Str.ofString "due") (putV (Str.ofString "out") (.ref ol) lc3) = some (.ref dl) := by walk_at "gv"
    have s6 : getV (Str.ofString "turn") (putV (Str.ofString "out") (.ref ol) lc3) = some (.int ((1 + i : Nat) : Int)) := by walk_at "gv"
    have s7 : getV (Str.ofString "out") (putV (Str.ofString "out") (.ref ol) lc3) = some (.ref ol) := by walk_at "gv"
    generalize putV (Str.ofString "out") (.ref ol) lc3 = lc4 at *
    refine seq_next ?_
    refine wss_cons ?_
    refine ws_forE (fun _ _ => rfl) ?_
    refine wite_call (fun _ => rfl) (fun _ => rfl) (fun _ => rfl) ?_
    repeat walk_at "e"
    refine ⟨_, rfl, callit_range1 (by kernel_rfl) (by omega) (by omega) ?_⟩
    have hrl5 : (rangeL 0 (5 : Int).toNat).length = 5 := by simp [rangeL]
    rw [hrl5]
    refine ⟨fun j σ' lc' => DueSt σ' vs m f1 f2 ll ml lk ls ms links dl rs (fun i => outP ls ms links (1 + i) 5) ∧ σ'[ol]? = some (.list (strL (outP ls ms links (1 + i) j))) ∧ getV (Str.ofString "leads") lc' = some (.ref ll) ∧ getV (Str.ofString "marks") lc' = some (.ref ml) ∧ getV (Str.ofString "links") lc' = some (.ref lk) ∧ getV (Str.ofString "text") lc' = some (.str text) ∧ getV (Str.ofString "due") lc' = some (.ref dl) ∧ getV (Str.ofString "turn") lc' = some (.int ((1 + i : Nat) : Int)) ∧ getV (Str.ofString "out") lc' = some (.ref ol),
      ⟨hD3, ho3, s1, s2, s3, s4, s5, s6, s7⟩, fun _ _ _ _ => trivial, ?turn2, ?fin2⟩
    case fin2 =>
      rintro σ4 lc5 ⟨hD4, ho4, t1, t2, t3, t4, t5, t6, t7⟩
      refine seq_next ?_
      refine wss_cons ?_
      repeat walk_at "e"
      refine meth_list PySem.F.slot_list_append PySem.F.type_list_append hD4.h4 ?_
      repeat walk_at "e"
      refine ⟨kp_builtin, call_append hD4.h4 (by simp [hrs]; omega) ?_⟩
      have e1 : rs.map AV.ref ++ [AV.ref ol] = (rs ++ [ol]).map AV.ref := by simp
      rw [e1]
      repeat walk_at "e"
      exact ⟨⟨rs ++ [ol], hD4.push (by rw [hrs]; exact ho4) hol, by simp [hrs]⟩, t1, t2, t3, t4, t5⟩
    case turn2 =>
      rintro j σ4 lc5 hj ⟨hD4, ho4, t1, t2, t3, t4, t5, t6, t7⟩
      have hg : (rangeL 0 (5 : Int).toNat).getD j .none = .int (j : Int) := by
        have : (5 : Int).toNat = 5 := rfl
        rw [this]; simp [rangeL, hj]
      show WSs _ _ _ (putV (Str.ofString "place") ((rangeL 0 (5 : Int).toNat).getD j .none) lc5) _ _
      rw [hg]
      have u1 : getV (Str.ofString "leads") (putV (Str.ofString "place") (.int (j : Int)) lc5) = some (.ref ll) := by walk_at "gv"
      have u2 : getV (Str.ofString "marks") (putV (Str.ofString "place") (.int (j : Int)) lc5) = some (.ref ml) := by walk_at "gv"
      have u3 : getV (Str.ofString "links") (putV (Str.ofString "place") (.int (j : Int)) lc5) = some (.ref lk) := by walk_at "gv"
      have u4 : getV (Str.ofString "text") (putV (Str.ofString "place") (.int (j : Int)) lc5) = some (.str text) := by walk_at "gv"
      have u5 : getV (Str.ofString "due") (putV (Str.ofString "place") (.int (j : Int)) lc5) = some (.ref dl) := by walk_at "gv"
      have u6 : getV (Str.ofString "turn") (putV (Str.ofString "place") (.int (j : Int)) lc5) = some (.int ((1 + i : Nat) : Int)) := by walk_at "gv"
      have u7 : getV (Str.ofString "out") (putV (Str.ofString "place") (.int (j : Int)) lc5) = some (.ref ol) := by walk_at "gv"
      have u8 : getV (Str.ofString "place") (putV (Str.ofString "place") (.int (j : Int)) lc5) = some (.int (j : Int)) := by walk_at "gv"
      generalize putV (Str.ofString "place") (.int (j : Int)) lc5 = lc6 at *
      refine wss_cons ?_
      refine ws_if ?_
      refine wb_cmp rfl ?_
      repeat walk_at "e"
      refine sub_list hD4.h3 (by omega) (by omega) (by rw [Int.toNat_natCast]; exact natL_get (by omega)) ?_ (fun _ _ => rfl)
      repeat walk_at "e"
      have hos := outP_succ ls ms links (1 + i) j
      by_cases hq : links.getD j 0 = 1 + i
      · rw [if_pos hq] at hos
        rw [show (((links.getD j 0 : Nat) : Int) == ((1 + i : Nat) : Int)) = true by rw [hq]; simp]
        refine ite_yes ?_
        refine wss_cons ?_
        repeat walk_at "e"
        refine meth_list PySem.F.slot_list_append PySem.F.type_list_append ho4 ?_
        refine wes_cons (fun _ => rfl) ?_
        refine we_bin ?_
        refine we_bin ?_
        repeat walk_at "e"
        refine sub_list (x := .str (ls.getD j [])) hD4.h1 (by omega) (by omega) (by rw [Int.toNat_natCast]; simp [strL, l1, hj]) ?_ (fun _ _ => rfl)
        repeat walk_at "e"
        refine sub_list hD4.h2 (by omega) (by omega) (by rw [Int.toNat_natCast]; exact natL_get (by omega)) ?_ (fun _ _ => rfl)
        repeat walk_at "e"
        refine bin_shr_int (by omega) ?_
        rw [shr_eq]
        have hle := (ok (ls.getD j []) (by rw [List.getD_eq_getElem?_getD, List.getElem?_eq_getElem (show j < ls.length by omega)]; exact List.getElem_mem _)).1
        have hme := mk (ms.getD j 0) (by rw [List.getD_eq_getElem?_getD, List.getElem?_eq_getElem (show j < ms.length by omega)]; exact List.getElem_mem _)
        have hmd : ms.getD j 0 / 2 ^ (1 + i) ≤ 7 := Nat.le_trans (Nat.div_le_self _ _) hme
        refine bin_mul_str (Int.natCast_nonneg _) (by simp) (Int.ofNat_le.mpr (Nat.le_trans hmd (by decide))) ?_
        rw [Int.toNat_natCast, rep_flat]
        refine bin_add_str (by rw [List.length_append, List.length_replicate]; omega) ?_
        repeat walk_at "e"
        refine sub_str (ch := 97 + j) (by omega) (by omega) (by
          rw [Int.toNat_natCast]
          match j, hj with
          | 0, _ => rfl
          | 1, _ => rfl
          | 2, _ => rfl
          | 3, _ => rfl
          | 4, _ => rfl) ?_ (fun _ _ => rfl)
        repeat walk_at "e"
        refine sub_list hD4.h2 (by omega) (by omega) (by rw [Int.toNat_natCast]; exact natL_get (by omega)) ?_ (fun _ _ => rfl)
        repeat walk_at "e"
        refine bin_pow_int (by omega) (by rw [show Builtin.Int.intBits 2 = 2 from by decide]; omega) ?_
        refine bin_mod_int (Int.pow_pos (by decide)) ?_
        rw [mod_eq]
        repeat walk_at "e"
        refine bin_mul_strb ?_
        have ef : ∀ r : Nat, (if ((r : Int) == 0) = true then [97 + j] else []) = (if r = 0 then [97 + j] else []) := fun r => by
          by_cases q : r = 0
          · rw [if_pos q, q]; rfl
          · rw [if_neg q, if_neg (by simpa using q)]
        rw [ef]
        refine bin_add_str (by
          rw [List.length_append, List.length_append, List.length_replicate]
          split
          · rw [List.length_singleton]; omega
          · rw [List.length_nil]; omega) ?_
        have ew : ls.getD j [] ++ List.replicate (ms.getD j 0 / 2 ^ (1 + i)) 34 ++ (if ms.getD j 0 % 2 ^ (1 + i) = 0 then [97 + j] else []) = wordR (ls.getD j []) (ms.getD j 0) j (1 + i) := rfl
        rw [ew]
        repeat walk_at "e"
        have holn := outP_len ls ms links (1 + i) j
        refine ⟨kp_builtin, call_append ho4 (by simp [strL]; omega) ?_⟩
        have es : strL (outP ls ms links (1 + i) j) ++ [AV.str (wordR (ls.getD j []) (ms.getD j 0) j (1 + i))] = strL (outP ls ms links (1 + i) (j + 1)) := by rw [hos]; simp [strL]
        rw [es]
        repeat walk_at "e"
        exact ⟨hD4.set hol hors, set_self ho4, u1, u2, u3, u4, u5, u6, u7⟩
      · rw [if_neg hq, List.append_nil] at hos
        rw [show (((links.getD j 0 : Nat) : Int) == ((1 + i : Nat) : Int)) = false from beq_eq_false_iff_ne.mpr fun z => hq (Int.ofNat_inj.mp z)]
        refine ite_no ?_
        repeat walk_at "e"
        exact ⟨hD4, by rw [hos]; exact ho4, u1, u2, u3, u4, u5, u6, u7⟩
end

section
theorem lexQ_esc (r : List Nat) : ∀ (w acc : List Nat), lexQ acc ((w.map fun c => [92, c]).flatten ++ 34 :: r) = (acc ++ w, r)
  | [], acc => by simp [lexQ_cons]
  | c :: w, acc => by
    have := lexQ_esc r w (acc ++ [c])
    simp only [List.map_cons, List.flatten_cons, List.cons_append, List.nil_append]
    rw [lexQ_cons, if_neg (by decide), if_pos rfl]
    simp only [headS, List.tail_cons]
    rw [this]
    simp
theorem lexQ_raw (r : List Nat) : ∀ (w acc : List Nat), lexQ acc ((w.map fun c => if c ∈ [34, 92] then [92, c] else [c]).flatten ++ 34 :: r) = (acc ++ w, r)
  | [], acc => by simp [lexQ_cons]
  | c :: w, acc => by
    have := lexQ_raw r w (acc ++ [c])
    simp only [List.map_cons, List.flatten_cons]
    by_cases h : c ∈ [34, 92]
    · rw [if_pos h]
      simp only [List.cons_append, List.nil_append]
      rw [lexQ_cons, if_neg (by decide), if_pos rfl]
      simp only [headS, List.tail_cons]
      rw [this]
      simp
    · rw [if_neg h]
      simp only [List.cons_append, List.nil_append]
      have h1 : c ≠ 34 := fun z => h (by simp [z])
      have h2 : c ≠ 92 := fun z => h (by simp [z])
      rw [lexQ_cons, if_neg h1, if_neg h2, this]
      simp
theorem lexU_raw (r : List Nat) (s : Nat) (hs : s ∈ wsL) : ∀ (w acc : List Nat), lexU acc ((w.map fun c => if c ∈ [97, 98, 99, 100, 101, 34] then [c] else [92, c]).flatten ++ s :: r) = (acc ++ w, r)
  | [], acc => by simp only [List.map_nil, List.flatten_nil, List.nil_append, List.append_nil]; rw [lexU_cons, if_pos hs]
  | c :: w, acc => by
    have := lexU_raw r s hs w (acc ++ [c])
    simp only [List.map_cons, List.flatten_cons]
    by_cases h : c ∈ [97, 98, 99, 100, 101, 34]
    · rw [if_pos h]
      simp only [List.cons_append, List.nil_append]
      have h1 : c ∉ wsL := fun z => by
        simp at z h
        omega
      have h2 : c ≠ 92 := fun z => by
        subst z
        simp at h
      rw [lexU_cons, if_neg h1, if_neg h2, this]
      simp
    · rw [if_neg h]
      simp only [List.cons_append, List.nil_append]
      rw [lexU_cons, if_neg (by decide), if_pos rfl]
      simp only [headS, List.tail_cons]
      rw [this]
      simp
theorem lex0_sep {s : Nat} (hs : s ∈ wsL) (r : List Nat) : lex0 (s :: r) = lex0 r := by
  show (if s ∈ wsL then lex0 r else _) = _
  rw [if_pos hs]
theorem lex0_word (f : Nat) (w : List Nat) (hw : w ≠ []) {s : Nat} (hs : s ∈ wsL) (r : List Nat) : ∃ r', lex0 (spF f w ++ s :: r) = (w, r') ∧ lex0 r' = lex0 r := by
  have q : ∀ x : List Nat, lex0 (34 :: x) = lexQ [] x := fun x => by
    show (if 34 ∈ wsL then _ else if 34 = 34 then _ else _) = _
    rw [if_neg (by decide), if_pos rfl]
  unfold spF
  split
  · refine ⟨s :: r, ?_, lex0_sep hs r⟩
    unfold sp1
    simp only [List.cons_append, List.nil_append, List.append_assoc]
    rw [q, lexQ_esc]
    simp
  · split
    · refine ⟨r, ?_, rfl⟩
      cases w with
      | nil => exact absurd rfl hw
      | cons c w =>
        unfold sp2
        simp only [List.cons_append, List.nil_append, List.append_assoc, List.headD_cons, List.tail_cons]
        show (if 92 ∈ wsL then _ else if 92 = 34 then _ else if 92 = 92 then lexU _ _ else _) = _
        rw [if_neg (by decide), if_neg (by decide), if_pos rfl]
        simp only [headS, List.tail_cons]
        rw [lexU_raw r s hs]
        rfl
    · refine ⟨s :: r, ?_, lex0_sep hs r⟩
      unfold sp0
      simp only [List.cons_append, List.nil_append, List.append_assoc]
      rw [q, lexQ_raw]
      simp
variable {w : World} {mg mb : Str → Option Value} {LM : Nat → Addr → Obj → Prop} {σ : List AO} {lc : Lc} {d : Nat}
noncomputable def tailF (ls : List (List Nat)) (ms fs : List Nat) (i : Nat) : List Nat := ((spL ls ms fs).drop i).flatten ++ [122]
theorem tail_step (ls : List (List Nat)) (ms fs : List Nat) (l1 : ls.length = 5) (i : Nat) (h : i < 5) : ∃ r', lex0 (tailF ls ms fs i) = (wordF (ls.getD i []) (ms.getD i 0) i, r') ∧ lex0 r' = lex0 (tailF ls ms fs (i + 1)) := by
  have hl : i < (spL ls ms fs).length := by simp [spL, l1]; exact h
  have e : tailF ls ms fs i = spF (fs.getD i 0) (wordF (ls.getD i []) (ms.getD i 0) i) ++ sepF i :: tailF ls ms fs (i + 1) := by
    unfold tailF
    rw [List.drop_eq_getElem_cons hl, List.flatten_cons]
    have : (spL ls ms fs)[i] = spF (fs.getD i 0) (wordF (ls.getD i []) (ms.getD i 0) i) ++ [sepF i] := by simp [spL]
    rw [this]
    simp
  rw [e]
  refine lex0_word _ _ (by simp [wordF]) ?_ _
  match i, h with
  | 0, _ => decide
  | 1, _ => decide
  | 2, _ => decide
  | 3, _ => decide
  | 4, _ => decide
structure Rest (σ : List AO) (vs : List Value) (m : Obj) (ox dl : Nat) (rs : List Nat) (D : Nat → List (List Nat)) (N : Nat) : Prop where
  scr : σ[0]? = some (.raw (scriptO vs m))
  t1 : σ[1]? = some (.tab 1 163 false)
  t2 : σ[2]? = some (.tab 2 182 false)
  c5 : σ[5]? = some (.cell (some (.ref ox)))
  c6 : ∃ v, σ[6]? = some (.cell v)
  due : σ[dl]? = some (.list (rs.map .ref))
  at_ : ∀ (j l : Nat), rs[j]? = some l → σ[l]? = some (.list (strL (D j)))
  lo : 7 ≤ dl ∧ dl < N
  los : ∀ (j l : Nat), rs[j]? = some l → 7 ≤ l ∧ l < N
theorem Rest.mono {vs : List Value} {m : Obj} {ox dl : Nat} {rs : List Nat} {D : Nat → List (List Nat)} {N : Nat} {σ' : List AO} (h : Rest σ vs m ox dl rs D N) (k : ∀ (l : Nat) (ao : AO), l < N → l ≠ 6 → σ[l]? = some ao → σ'[l]? = some ao) (k6 : ∃ v, σ'[6]? = some (.cell v)) : Rest σ' vs m ox dl rs D N :=
  have := h.lo
  ⟨k _ _ (by omega) (by omega) h.scr, k _ _ (by omega) (by omega) h.t1, k _ _ (by omega) (by omega) h.t2, k _ _ (by omega) (by omega) h.c5, k6, k _ _ (by omega) (by omega) h.due, fun j l e => k _ _ (h.los j l e).2 (by have := (h.los j l e).1; omega) (h.at_ j l e), h.lo, h.los⟩
theorem Rest.keptL {vs : List Value} {m : Obj} {ox dl : Nat} {rs : List Nat} {D : Nat → List (List Nat)} {N : Nat} {σ' : List AO} {x : Lx} (h : Rest σ vs m ox dl rs D N) (hx : N ≤ x.dct ∧ N ≤ x.pb ∧ N ≤ x.tape) (k : KeptL x σ σ') : Rest σ' vs m ox dl rs D N :=
  h.mono (fun l ao hl _ e => k l ao e (by omega) (by omega) (by omega)) (let ⟨v, e⟩ := h.c6; ⟨v, k _ _ e (by have := h.lo; omega) (by have := h.lo; omega) (by have := h.lo; omega)⟩)
theorem LexT.setList {x : Lx} {rest : List Nat} {tot q : Nat} {pb : List (List Nat)} {xs : List AV} {a : AO} (h : LexT σ x rest tot pb) (hq : σ[q]? = some (.list xs)) (n1 : q ≠ x.pb) (n2 : q ≠ x.tape) : LexT (σ.set q a) x rest tot pb := by
  have k : ∀ {l : Nat} {ao : AO}, σ[l]? = some ao → AO.list xs ≠ ao → (σ.set q a)[l]? = some ao := fun {l ao} e hne => set_other (ne_of_ao hq e hne) e
  exact ⟨k h.obj (by simp), k h.dct (by simp), set_other n1 h.pbk, k h.src (by simp), let ⟨p, e⟩ := h.sdct; ⟨p, k e (by simp)⟩, k h.lam (by simp), k h.code (by simp), k h.cell (by simp), set_other n2 h.tape, h.ne, h.nd, h.len⟩
noncomputable def lineF (ls : List (List Nat)) (ms : List Nat) (i : Nat) : List (List Nat) := (List.range i).map fun j => wordF (ls.getD j []) (ms.getD j 0) j
set_option maxHeartbeats 8000000 in
theorem law_lex {vs : List Value} {m : Obj} {f2 : Bool} {ll ml lk : Nat} {ls : List (List Nat)} {ms fs links : List Nat} {dl : Nat} {rs : List Nat} {D : Nat → List (List Nat)} {cd : Option (Value × Str)} {k : AF → List AO → Lc → Prop} (l1 : ls.length = 5) (l2 : ms.length = 5) (ok : ∀ l ∈ ls, LeadOk l) (mk : ∀ q ∈ ms, q ≤ 7)
    (hD : DueSt σ vs m true false ll ml lk ls ms links dl rs D) (g1 : getV (Str.ofString "due") lc = some (.ref dl)) (g2 : getV (Str.ofString "text") lc = some (.str (textF ls ms fs)))
    (h : ∀ σ' x rest N li lc', LexT σ' x rest (1 + (textF ls ms fs).count 10) [] → lex0 rest = lex0 [122] → N ≤ x.dct ∧ N ≤ x.pb ∧ N ≤ x.tape → N ≤ x.cell → Rest σ' vs m x.obj dl rs D N → N ≤ li → σ'[li]? = some (.list (strL (lineF ls ms 5))) → getV (Str.ofString "due") lc' = some (.ref dl) → getV (Str.ofString "text") lc' = some (.str (textF ls ms fs)) → getV (Str.ofString "line") lc' = some (.ref li) → WSs (G0 w mg mb LM) (lawC (d + 4) cd) σ' lc' ((bodyOf (stAt 14)).drop 9) k) :
    WSs (G0 w mg mb LM) (lawC (d + 4) cd) σ lc ((bodyOf (stAt 14)).drop 7) k := by
  have hzz : sizeLine = 2 ^ 24 := rfl
  have htl := text_len (fs := fs) ok mk l1 l2
  have htl' : (textF ls ms fs).length ≤ 10000 := by unfold textF; rw [List.length_append, List.length_singleton]; omega
  have hb := hD.hb
  refine wss_cons ?_
  refine ws_assign (fun _ => rfl) ?_
  refine we_call (fun _ => rfl) (fun _ => rfl) (fun _ => rfl) ?_
  repeat walk_at "e"
  refine ⟨kp_K (fn_lexer _).keep, lexer_call hb.t1 htl' fun σ1 x hL hk ht1 x1 x2 x3 x4 => ?_⟩
  obtain ⟨v5, e5⟩ := hb.c5
  obtain ⟨v6, e6⟩ := hb.c6
  have n6 := lt_of_get e6
  have d5 := hk _ _ e5 (by omega)
  refine wn_cell (l := 5) (v₀ := v5) (by kernel_rfl) (by walk_at "gc") d5 ?_
  have hset : ∀ (l : Nat) (ao : AO), σ1[l]? = some ao → l ≠ 5 → (σ1.set 5 (.cell (some (.ref x.obj))))[l]? = some ao := fun l ao e hne => set_other (Ne.symm hne) e
  have hL2 : LexT (σ1.set 5 (.cell (some (.ref x.obj)))) x (textF ls ms fs) (1 + (textF ls ms fs).count 10) [] := by
    have e1 : ((1 + (textF ls ms fs).count 10 : Nat) : Int) - ((textF ls ms fs).count 10 : Nat) = 1 := by omega
    unfold LexT
    rw [e1]
    have h5 : ∀ {l : Nat} {ao : AO}, σ1[l]? = some ao → ao ≠ .cell v5 → (σ1.set 5 (.cell (some (.ref x.obj))))[l]? = some ao := fun {l ao} e hne => set_other (ne_of_ao d5 e (Ne.symm hne)) e
    exact ⟨h5 hL.obj (by simp), h5 hL.dct (by simp), h5 hL.pbk (by simp), h5 hL.src (by simp), let ⟨p, e⟩ := hL.sdct; ⟨p, h5 e (by simp)⟩, h5 hL.lam (by simp), h5 hL.code (by simp), hset _ _ hL.cell (by omega), h5 hL.tape (by simp), hL.ne, hL.nd, hL.len⟩
  have hlt := hD.lt
  have hR2 : Rest (σ1.set 5 (.cell (some (.ref x.obj)))) vs m x.obj dl rs D σ.length :=
    ⟨hset _ _ (hk _ _ hb.scr (by omega)) (by omega), hset _ _ ht1 (by omega), hset _ _ (hk _ _ hb.t2 (by omega)) (by omega), set_self d5, ⟨v6, hset _ _ (hk _ _ e6 (by omega)) (by omega)⟩, hset _ _ (hk _ _ hD.h4 (by omega)) (by omega),
      fun j l e => hset _ _ (hk _ _ (hD.h5 j l e).2 (by have := (hD.h5 j l e).1; omega)) (by have := (hD.h5 j l e).1; omega), ⟨hlt.1, lt_of_get hD.h4⟩, fun j l e => ⟨by have := (hD.h5 j l e).1; omega, lt_of_get (hD.h5 j l e).2⟩⟩
  have hN : σ.length ≤ x.dct ∧ σ.length ≤ x.pb ∧ σ.length ≤ x.tape := ⟨x1, x2, x3⟩
  generalize σ1.set 5 (.cell (some (.ref x.obj))) = σ2 at *
  have hNl : σ.length ≤ σ2.length := by
    have := lt_of_get hL2.dct
    omega
  generalize σ.length = N at *
  refine seq_next ?_
  refine wss_cons ?_
  refine ws_comp (cl' := [(Str.ofString "lexer", 5)]) (fun as L env Re => ?_) (by kernel_rfl) (cells_one (by kernel_rfl) (by walk_at "gc")) (by decide +kernel) (by decide +kernel) (by decide +kernel) (fun _ _ => rfl) ?_
  · rw [swaps_env _ _ _ (env' := envS (scopeOf (stAt 14))) Re.scope]
    kernel_rfl
  refine wite_call (fun _ => rfl) (fun _ => rfl) (fun _ => rfl) ?_
  repeat walk_at "e"
  refine ⟨_, rfl, callit_range1 (by kernel_rfl) (by omega) (by omega) ?_⟩
  have hrl5 : (rangeL 0 (5 : Int).toNat).length = 5 := by simp [rangeL]
  rw [hrl5]
  have hlx0 : lex0 (textF ls ms fs) = lex0 (tailF ls ms fs 0) := by unfold textF tailF; rw [List.drop_zero]
  refine ⟨fun i σ' lc' => (∃ rest, LexT σ' x rest (1 + (textF ls ms fs).count 10) [] ∧ lex0 rest = lex0 (tailF ls ms fs i)) ∧ Rest σ' vs m x.obj dl rs D N ∧ σ'[σ2.length]? = some (.list (strL (lineF ls ms i))) ∧ (lc' = [] ∨ ∃ a, lc' = [(Str.ofString "_", a)]),
    ⟨⟨_, hL2.app, hlx0⟩, hR2.mono (fun l ao _ _ e => get_app e) (let ⟨v, e⟩ := hR2.c6; ⟨v, get_app e⟩), new_get, .inl rfl⟩, fun _ _ _ _ => trivial, ?turn, ?fin⟩
  case fin =>
    rintro σ' lc' ⟨⟨rest, hL, hlx⟩, hR, hl, _⟩
    have e5 : tailF ls ms fs 5 = [122] := by
      unfold tailF
      rw [List.drop_of_length_le (by simp [spL, l1])]
      rfl
    rw [e5] at hlx
    refine seq_next ?_
    exact h σ' x rest N _ _ hL hlx hN x4 hR hNl hl (by walk_at "gv") (by walk_at "gv") (by walk_at "gv")
  case turn =>
    rintro i σ' lc' hi ⟨⟨rest, hL, hlx⟩, hR, hl, hlc⟩
    have ep : ∀ v, putV (Str.ofString "_") v lc' = [(Str.ofString "_", v)] := by
      intro v
      rcases hlc with rfl | ⟨a, rfl⟩ <;> simp [putV]
    show WE _ _ _ (putV (Str.ofString "_") _ lc') _ _
    rw [ep]
    refine we_meth (fun _ => rfl) (fun _ => rfl) (fun _ => .inl rfl) ?_
    refine we_cell (l := 5) (by kernel_rfl) (by walk_at "gc") hR.c5 ?_ (by decide +kernel)
    refine meth_inst (mo_get _) hL.obj hL.dct (by walk_at "gv") ?_
    repeat walk_at "e"
    refine ⟨kp_K (fn_get _).keep, get_empty hL fun σ3 hL3 hk3 => ?_⟩
    obtain ⟨r', hr1, hr2⟩ := tail_step ls ms fs l1 i hi
    rw [hlx, hr1] at hL3 ⊢
    have hl3 := hk3 _ _ hl (by have := hN.1; have := lt_of_get hL2.dct; omega) (by have := lt_of_get hL2.pbk; omega) (by have := lt_of_get hL2.tape; omega)
    have hll : (lineF ls ms i).length = i := by simp [lineF]
    refine ⟨strL (lineF ls ms i), hl3, by simp [strL]; omega, ⟨r', ?_, hr2⟩, ?_, ?_, .inr ⟨_, ep _⟩⟩
    · exact hL3.setList hl3 (by have := lt_of_get hL2.pbk; omega) (by have := lt_of_get hL2.tape; omega)
    · exact (hR.keptL hN hk3).mono (fun l ao hl' _ e => set_other (by omega) e) (let ⟨v, e⟩ := (hR.keptL hN hk3).c6; ⟨v, set_other (by have := hR.lo; omega) e⟩)
    · rw [set_self hl3]
      simp [lineF, List.range_succ, strL]
end

end

section
noncomputable def leadsN : Nat → List (List Nat)
  | 0 => [[]]
  | n + 1 => ((leadsN n).map fun l => 9 :: l) ++ ((leadsN n).map fun l => 32 :: l)
noncomputable def allLeads : List (List Nat) := leadsN 0 ++ leadsN 1 ++ leadsN 2 ++ leadsN 3 ++ leadsN 4
theorem mem_leadsN : ∀ (n : Nat) (l : List Nat), l.length = n → (∀ c ∈ l, c = 9 ∨ c = 32) → l ∈ leadsN n
  | 0, l, h, _ => by rw [List.length_eq_zero_iff.mp h]; simp [leadsN]
  | n + 1, c :: l, h, hc => by
    have := mem_leadsN n l (by simpa using h) fun x hx => hc x (by simp [hx])
    rcases hc c (by simp) with rfl | rfl
    · exact List.mem_append_left _ (List.mem_map.mpr ⟨l, this, rfl⟩)
    · exact List.mem_append_right _ (List.mem_map.mpr ⟨l, this, rfl⟩)
theorem mem_allLeads {l : List Nat} (h : LeadOk l) : l ∈ allLeads := by
  have h1 := mem_leadsN l.length l rfl h.2
  have h2 := h.1
  unfold allLeads
  have : l.length = 0 ∨ l.length = 1 ∨ l.length = 2 ∨ l.length = 3 ∨ l.length = 4 := by omega
  rcases this with e | e | e | e | e <;> rw [e] at h1 <;> simp only [List.mem_append] <;> simp [h1]
theorem less_all : (allLeads.all fun a => allLeads.all fun b => lessF (wsF a ws0) (wsF b ws0) == deepB (colsF b 5) (colsF a 5)) = true := by decide +kernel
theorem less_deep {a b : List Nat} (ha : LeadOk a) (hb : LeadOk b) : lessF (wsF a ws0) (wsF b ws0) = deepB (colsF b 5) (colsF a 5) := by
  have := less_all
  rw [List.all_eq_true] at this
  have := this a (mem_allLeads ha)
  rw [List.all_eq_true] at this
  exact beq_iff_eq.mp (this b (mem_allLeads hb))
theorem ws_small_all : (allLeads.all fun a => decide ((wsF a ws0).count.length ≤ 1000) && decide ((wsF a ws0).b ≤ 1000)) = true := by decide +kernel
theorem ws_small {a : List Nat} (ha : LeadOk a) : (wsF a ws0).count.length ≤ 1000 ∧ (wsF a ws0).b ≤ 1000 := by
  have := ws_small_all
  rw [List.all_eq_true] at this
  have := this a (mem_allLeads ha)
  simpa using this
theorem wsF_app {rest : List Nat} (hr : rest = [] ∨ ∃ c r, rest = c :: r ∧ c ≠ 9 ∧ c ≠ 32) : ∀ (l : List Nat) (v : WsV), (∀ c ∈ l, c = 9 ∨ c = 32) → wsF (l ++ rest) v = wsF l v
  | [], v, _ => by
    rcases hr with rfl | ⟨c, r, rfl, h1, h2⟩
    · rfl
    · show (if c = 32 then _ else if c = 9 then _ else v) = v
      rw [if_neg h2, if_neg h1]
  | c :: l, v, h => by
    have ih := fun v => wsF_app hr l v fun x hx => h x (by simp [hx])
    show (if c = 32 then wsF (l ++ rest) _ else if c = 9 then wsF (l ++ rest) _ else v) = (if c = 32 then wsF l _ else if c = 9 then wsF l _ else v)
    rw [ih, ih]
theorem wsF_word {l : List Nat} (h : LeadOk l) (m p t : Nat) : wsF (wordR l m p t) ws0 = wsF l ws0 := by
  unfold wordR
  rw [List.append_assoc]
  refine wsF_app ?_ l ws0 h.2
  cases hk : m / 2 ^ t with
  | zero =>
    split
    · exact .inr ⟨97 + p, [], rfl, by omega, by omega⟩
    · exact .inl rfl
  | succ k => exact .inr ⟨34, _, rfl, by decide, by decide⟩
theorem pq_ne {c : Nat} (h : c ≠ 34) (r : List Nat) : pq (c :: r) = c :: pq r := by
  cases r <;> simp [pq, h]
theorem pq_lead (r : List Nat) : ∀ l : List Nat, (∀ c ∈ l, c ≠ 34) → pq (l ++ r) = l ++ pq r
  | [], _ => rfl
  | c :: l, h => by rw [List.cons_append, pq_ne (h c (by simp)), pq_lead r l fun x hx => h x (by simp [hx])]; rfl
theorem pq_marks {tail : List Nat} (ht : tail = [] ∨ ∃ c, tail = [c] ∧ c ≠ 34) : ∀ k : Nat, pq (List.replicate k 34 ++ tail) = List.replicate (k / 2) 34 ++ (if k % 2 = 0 then tail else [])
  | 0 => by
    rcases ht with rfl | ⟨c, rfl, h⟩
    · rfl
    · simp [pq, h]
  | 1 => by
    rcases ht with rfl | ⟨c, rfl, h⟩
    · rfl
    · simp [pq, h]
  | k + 2 => by
    have ih := pq_marks ht k
    have e1 : (k + 2) / 2 = k / 2 + 1 := by omega
    have e2 : (k + 2) % 2 = k % 2 := by omega
    rw [e1, e2, List.replicate_succ, List.replicate_succ, List.replicate_succ, List.cons_append, List.cons_append, List.cons_append, ← ih]
    simp [pq]
theorem pq_word {l : List Nat} (h : LeadOk l) (m p t : Nat) : pq (wordR l m p t) = wordR l m p (t + 1) := by
  unfold wordR
  have ht : (if m % 2 ^ t = 0 then [97 + p] else []) = ([] : List Nat) ∨ ∃ c, (if m % 2 ^ t = 0 then [97 + p] else []) = [c] ∧ c ≠ 34 := by
    split
    · exact .inr ⟨_, rfl, by omega⟩
    · exact .inl rfl
  rw [List.append_assoc, pq_lead _ _ fun c hc => by rcases h.2 c hc with rfl | rfl <;> decide, pq_marks ht, List.append_assoc, Nat.div_div_eq_div_mul, ← Nat.pow_succ]
  congr 2
  have e := Nat.mod_pow_succ (b := 2) (k := t) (x := m)
  have hp : 0 < 2 ^ t := Nat.pow_pos (by decide)
  rw [e]
  rcases Nat.mod_two_eq_zero_or_one (m / 2 ^ t) with z | z
  · rw [if_pos z, z, Nat.mul_zero, Nat.add_zero]
  · rw [if_neg (by omega), z, Nat.mul_one, if_neg (by omega)]
theorem word_zero (l : List Nat) (m p : Nat) : wordR l m p 0 = wordF l m p := by
  unfold wordR wordF
  rw [Nat.pow_zero, Nat.div_one, if_pos (Nat.mod_one m)]
theorem getD_set_ne {L : List Nat} {p q x : Nat} (h : q ≠ p) : (L.set p x).getD q 0 = L.getD q 0 := by
  rw [List.getD_eq_getElem?_getD, List.getD_eq_getElem?_getD, List.getElem?_set_ne (Ne.symm h)]
theorem getD_set_self {L : List Nat} {p x : Nat} (h : p < L.length) : (L.set p x).getD p 0 = x := by
  rw [List.getD_eq_getElem?_getD, List.getElem?_set_self h]; rfl
section
variable {D : Nat → Nat → Bool} {n : Nat}
theorem place_spec {L : List Nat} {p : Nat} (hp : p < L.length) (hirr : D p p = false) : ∀ j : Nat,
    (∀ q, q ≠ p → ((List.range j).foldl (fun l o => lkStep D l p o) L).getD q 0 = L.getD q 0) ∧ L.getD p 0 ≤ ((List.range j).foldl (fun l o => lkStep D l p o) L).getD p 0 ∧
    (∀ q, q < j → D p q = true → L.getD q 0 + 1 ≤ ((List.range j).foldl (fun l o => lkStep D l p o) L).getD p 0) ∧
    (((List.range j).foldl (fun l o => lkStep D l p o) L).getD p 0 = L.getD p 0 ∨ ∃ q, q < j ∧ D p q = true ∧ ((List.range j).foldl (fun l o => lkStep D l p o) L).getD p 0 = L.getD q 0 + 1)
  | 0 => ⟨fun _ _ => rfl, Nat.le_refl _, fun q h => absurd h (Nat.not_lt_zero q), .inl rfl⟩
  | j + 1 => by
    obtain ⟨h1, h2, h3, h4⟩ := place_spec hp hirr j
    have hlen : ((List.range j).foldl (fun l o => lkStep D l p o) L).length = L.length := foldl_len _ (fun l a => lkStep_len D l p a) _ _
    rw [List.range_succ, List.foldl_append]
    generalize (List.range j).foldl (fun l o => lkStep D l p o) L = M at *
    show (∀ q, q ≠ p → (lkStep D M p j).getD q 0 = L.getD q 0) ∧ L.getD p 0 ≤ (lkStep D M p j).getD p 0 ∧ (∀ q, q < j + 1 → D p q = true → L.getD q 0 + 1 ≤ (lkStep D M p j).getD p 0) ∧ ((lkStep D M p j).getD p 0 = L.getD p 0 ∨ ∃ q, q < j + 1 ∧ D p q = true ∧ (lkStep D M p j).getD p 0 = L.getD q 0 + 1)
    unfold lkStep
    cases hd : D p j with
    | false =>
      simp only [Bool.false_eq_true, if_false]
      refine ⟨h1, h2, fun q hq hpq => ?_, ?_⟩
      · rcases Nat.lt_or_ge q j with z | z
        · exact h3 q z hpq
        · have : q = j := by omega
          subst this
          rw [hd] at hpq; cases hpq
      · rcases h4 with z | ⟨q, a, b, e⟩
        · exact .inl z
        · exact .inr ⟨q, by omega, b, e⟩
    | true =>
      simp only [if_true]
      have hjp : j ≠ p := fun z => by rw [z, hirr] at hd; cases hd
      have hMj := h1 j hjp
      have hs : (M.set p (max (M.getD p 0) (M.getD j 0 + 1))).getD p 0 = max (M.getD p 0) (L.getD j 0 + 1) := by rw [getD_set_self (by omega), hMj]
      refine ⟨fun q hq => by rw [getD_set_ne hq]; exact h1 q hq, by rw [hs]; omega, fun q hq hpq => ?_, ?_⟩
      · rw [hs]
        rcases Nat.lt_or_ge q j with z | z
        · have := h3 q z hpq; omega
        · have : q = j := by omega
          subst this
          omega
      · rw [hs]
        rcases Nat.le_total (L.getD j 0 + 1) (M.getD p 0) with z | z
        · rw [Nat.max_eq_left z]
          rcases h4 with y | ⟨q, a, b, e⟩
          · exact .inl y
          · exact .inr ⟨q, by omega, b, e⟩
        · rw [Nat.max_eq_right z]
          exact .inr ⟨j, by omega, hd, rfl⟩
structure Lk (D : Nat → Nat → Bool) (n : Nat) (pre : List Nat) (L : List Nat) : Prop where
  len : L.length = n
  one : ∀ p, p < n → 1 ≤ L.getD p 0
  raw : ∀ p, p < n → p ∉ pre → L.getD p 0 = 1
  up : ∀ p, p ∈ pre → ∀ q, q < n → D p q = true → q ∈ pre ∧ L.getD q 0 + 1 ≤ L.getD p 0
  down : ∀ p, p ∈ pre → L.getD p 0 = 1 ∨ ∃ q, q < n ∧ D p q = true ∧ L.getD p 0 = L.getD q 0 + 1
  top : ∀ p, p < n → L.getD p 0 ≤ pre.length + 1
theorem lk_spec {key : Nat → Int} (hkey : ∀ p q, p < n → q < n → D p q = true → key q < key p) : ∀ (suf pre L : List Nat), (pre ++ suf).Perm (List.range n) → (pre ++ suf).Pairwise (fun i j => key i ≤ key j) → Lk D n pre L → Lk D n (pre ++ suf) (suf.foldl (lkPlace D n) L)
  | [], pre, L, _, _, h => by rw [List.append_nil]; exact h
  | a :: suf, pre, L, hperm, hsort, h => by
    have e : pre ++ a :: suf = (pre ++ [a]) ++ suf := by simp
    rw [e] at hperm hsort ⊢
    refine lk_spec hkey suf (pre ++ [a]) (lkPlace D n L a) hperm hsort ?_
    have hnd : ((pre ++ [a]) ++ suf).Nodup := hperm.nodup_iff.mpr List.nodup_range
    have han : a < n := List.mem_range.mp (hperm.mem_iff.mp (by simp))
    have hapre : a ∉ pre := fun z => by
      have h1 := (List.nodup_append.mp hnd).1
      exact (List.nodup_append.mp h1).2.2 a z a (by simp) rfl
    have hin : ∀ q, q < n → D a q = true → q ∈ pre := fun q hq hd => by
      have hk := hkey a q han hq hd
      have hm : q ∈ (pre ++ [a]) ++ suf := hperm.mem_iff.mpr (List.mem_range.mpr hq)
      rcases List.mem_append.mp hm with z | z
      · rcases List.mem_append.mp z with y | y
        · exact y
        · have : q = a := by simpa using y
          subst this
          omega
      · have := (List.pairwise_append.mp hsort).2.2 a (by simp) q z
        omega
    have hirr : D a a = false := by
      cases hd : D a a with
      | false => rfl
      | true => have := hkey a a han han hd; omega
    obtain ⟨h1, h2, h3, h4⟩ := place_spec (D := D) (L := L) (p := a) (by rw [h.len]; exact han) hirr n
    have hpl : lkPlace D n L a = (List.range n).foldl (fun l o => lkStep D l a o) L := rfl
    have hlen : (lkPlace D n L a).length = n := by rw [lkPlace_len, h.len]
    rw [← hpl] at h1 h2 h3 h4
    generalize lkPlace D n L a = M at *
    refine ⟨hlen, fun p hp => ?_, fun p hp hnm => ?_, fun p hp q hq hd => ?_, fun p hp => ?_, fun p hp => ?_⟩
    · by_cases hpa : p = a
      · subst hpa; exact Nat.le_trans (h.one p hp) h2
      · rw [h1 p hpa]; exact h.one p hp
    · have hpa : p ≠ a := fun z => hnm (by simp [z])
      rw [h1 p hpa]
      exact h.raw p hp fun z => hnm (by simp [z])
    · rcases List.mem_append.mp hp with z | z
      · have hpa : p ≠ a := fun y => hapre (y ▸ z)
        obtain ⟨u1, u2⟩ := h.up p z q hq hd
        have hqa : q ≠ a := fun y => hapre (y ▸ u1)
        rw [h1 p hpa, h1 q hqa]
        exact ⟨by simp [u1], u2⟩
      · have : p = a := by simpa using z
        subst this
        have u1 := hin q hq hd
        have hqa : q ≠ p := fun y => hapre (y ▸ u1)
        rw [h1 q hqa]
        exact ⟨by simp [u1], h3 q hq hd⟩
    · rcases List.mem_append.mp hp with z | z
      · have hpa : p ≠ a := fun y => hapre (y ▸ z)
        rw [h1 p hpa]
        rcases h.down p z with y | ⟨q, u1, u2, u3⟩
        · exact .inl y
        · have hqa : q ≠ a := fun y => hapre (y ▸ (h.up p z q u1 u2).1)
          exact .inr ⟨q, u1, u2, by rw [h1 q hqa]; exact u3⟩
      · have : p = a := by simpa using z
        subst this
        rcases h4 with y | ⟨q, u1, u2, u3⟩
        · exact .inl (by rw [y]; exact h.raw p han hapre)
        · have hqa : q ≠ p := fun y => hapre (y ▸ hin q u1 u2)
          exact .inr ⟨q, u1, u2, by rw [h1 q hqa]; exact u3⟩
    · rw [List.length_append, List.length_singleton]
      by_cases hpa : p = a
      · subst hpa
        rcases h4 with y | ⟨q, u1, u2, u3⟩
        · rw [y]; have := h.top p hp; omega
        · rw [u3]; have := h.top q u1; omega
      · rw [h1 p hpa]; have := h.top p hp; omega
theorem lk_all {key : Nat → Int} (hkey : ∀ p q, p < n → q < n → D p q = true → key q < key p) {os : List Nat} (hperm : os.Perm (List.range n)) (hsort : os.Pairwise (fun i j => key i ≤ key j)) : Lk D n os (lkF D n os) := by
  refine lk_spec hkey os [] (List.replicate n 1) (by simpa using hperm) (by simpa using hsort) ⟨by simp, fun p hp => ?_, fun p hp _ => ?_, fun p hp => by simp at hp, fun p hp => by simp at hp, fun p hp => ?_⟩
  · simp [hp]
  · simp [hp]
  · simp [hp]
end
theorem minI_le : ∀ (ns : List Int) (x : Int), x ∈ ns → minI ns ≤ x
  | [a], x, h => by have : x = a := by simpa using h
                    rw [this]; exact Int.le_refl _
  | a :: b :: r, x, h => by
    show min a (minI (b :: r)) ≤ x
    rcases List.mem_cons.mp h with rfl | h
    · omega
    · have := minI_le (b :: r) x h; omega
theorem deep_key {ls : List (List Nat)} (l1 : ls.length = 5) (p q : Nat) (hp : p < 5) (hq : q < 5) (h : rowD (rowsF ls) p q = true) : rowKey (rowsF ls) q < rowKey (rowsF ls) p := by
  have e : ∀ i, i < 5 → (rowsF ls).getD i [] = colsF (ls.getD i []) 5 := fun i hi => by
    unfold rowsF
    rw [List.getD_eq_getElem?_getD, List.getD_eq_getElem?_getD, List.getElem?_map, List.getElem?_eq_getElem (by omega)]
    rfl
  unfold rowD deepB at h
  have h := of_decide_eq_true h
  rw [e p hp, e q hq] at h
  unfold rowKey
  rw [e p hp, e q hq]
  generalize ls.getD p [] = a at *
  generalize ls.getD q [] = b at *
  have hm : (((colsF a 5).getD 0 0 : Nat) : Int) - (((colsF b 5).getD 0 0 : Nat) : Int) ∈ List.map (fun p : Nat × Nat => (p.1 : Int) - (p.2 : Int)) ((colsF a 5).zip (colsF b 5)) := by
    refine List.mem_map.mpr ⟨((colsF a 5).getD 0 0, (colsF b 5).getD 0 0), ?_, rfl⟩
    simp [colsF, List.range_succ]
  have := minI_le _ _ hm
  omega
end

section
local macro_rules | `(tactic| walk_at "nz") => `(tactic| simp only [List.append_assoc, List.cons_append, List.nil_append, List.length_append, List.length_cons, List.length_nil, List.length_set, Nat.reduceAdd, Nat.zero_add, Nat.add_zero, Nat.add_assoc, app_set, app_set0, List.set_cons_succ, List.set_cons_zero])
local macro_rules | `(tactic| walk_at "gv") => `(tactic| (first | with_reducible assumption | with_reducible exact getV_same | with_reducible rfl | (simp only [getV, getV_putV, ofS_inj, String.reduceEq, if_false, if_true] <;> first | rfl | with_reducible assumption)))

section
variable {w : World} {mg mb : Str → Option Value} {LM : Nat → Addr → Obj → Prop} {σ : List AO} {lc : Lc} {d : Nat}
noncomputable def loopOf : Stmt → List Stmt
  | .While _ body _ _ => body
  | _ => []
noncomputable def whB : List Stmt := loopOf ((bodyOf (stAt 14)).getD 10 (.Pass default))
set_option maxHeartbeats 4000000 in
theorem wh_read {li : Nat} {ws : List (List Nat)} {cd : Option (Value × Str)} {k : AF → List AO → Lc → Prop} (hl : σ[li]? = some (.list (strL ws))) (g1 : getV (Str.ofString "line") lc = some (.ref li)) (hz : ws.length ≤ 100) (hw : ∀ x ∈ ws, x.length ≤ 100)
    (h : WSs (G0 w mg mb LM) (lawC (d + 4) cd) (σ ++ [.list (strL (ws.map pq))]) (putV (Str.ofString "read") (.ref σ.length) lc) (whB.drop 1) k) : WSs (G0 w mg mb LM) (lawC (d + 4) cd) σ lc whB k := by
  have hzz : sizeLine = 2 ^ 24 := rfl
  refine wss_cons ?_
  refine ws_comp (cl' := []) (fun as L env Re => ?_) (by kernel_rfl) (cells_none (by decide +kernel)) (by decide +kernel) (by decide +kernel) (by decide +kernel) (fun _ _ => rfl) ?_
  · rw [swaps_env _ _ _ (env' := envS (scopeOf (stAt 14))) Re.scope]
    kernel_rfl
  refine wite_val rfl (by kernel_rfl) ?_
  repeat walk_at "e"
  refine ⟨_, _, it_list hl, ?_⟩
  have hlen : (strL ws).length = ws.length := by simp [strL]
  refine comp_pure1 (F := fun i => .str (pq (ws.getD i []))) (fun ys => get_app hl) (by omega) (fun i hi ys => ?_) ?_
  · rw [hlen] at hi
    have : (strL ws).getD i .none = .str (ws.getD i []) := by simp [strL, hi]
    rw [this]
    have hwi := hw (ws.getD i []) (by rw [List.getD_eq_getElem?_getD, List.getElem?_eq_getElem hi]; exact List.getElem_mem hi)
    repeat walk_at "e"
    refine bin_add_str (by simp only [List.length_append, List.length_cons, List.length_nil]; omega) ?_
    repeat walk_at "e"
    refine ⟨kp_K (fn_parse _).keep, parse_call (by omega) ?_⟩
    exact ⟨rfl, rfl⟩
  refine seq_next ?_
  have em : (List.range (strL ws).length).map (fun i => AV.str (pq (ws.getD i []))) = strL (ws.map pq) := by
    rw [hlen, map_range_map (fun x => AV.str (pq x))]; simp only [strL, List.map_map]; rfl
  rw [em]
  exact h
set_option maxHeartbeats 4000000 in
theorem wh_indents {rd : Nat} {ws : List (List Nat)} {cd : Option (Value × Str)} {k : AF → List AO → Lc → Prop} (hl : σ[rd]? = some (.list (strL ws))) (g1 : getV (Str.ofString "read") lc = some (.ref rd)) (hz : ws.length ≤ 100) (hw : ∀ x ∈ ws, x.length ≤ 100)
    (h : ∀ (σ' : List AO) (os : List Nat), ExtL σ σ' → os.length = ws.length → σ'[σ.length]? = some (.list (os.map .ref)) → (∀ (j o : Nat), os[j]? = some o → WsAt σ' o (wsF (ws.getD j []) ws0)) → WSs (G0 w mg mb LM) (lawC (d + 4) cd) σ' (putV (Str.ofString "indents") (.ref σ.length) lc) (whB.drop 2) k) :
    WSs (G0 w mg mb LM) (lawC (d + 4) cd) σ lc (whB.drop 1) k := by
  have hzz : sizeLine = 2 ^ 24 := rfl
  refine wss_cons ?_
  refine ws_comp (cl' := []) (fun as L env Re => ?_) (by kernel_rfl) (cells_none (by decide +kernel)) (by decide +kernel) (by decide +kernel) (by decide +kernel) (fun _ _ => rfl) ?_
  · rw [swaps_env _ _ _ (env' := envS (scopeOf (stAt 14))) Re.scope]
    kernel_rfl
  refine wite_val rfl (by kernel_rfl) ?_
  repeat walk_at "e"
  refine ⟨_, _, it_list hl, ?_⟩
  have hlen : (strL ws).length = ws.length := by simp [strL]
  rw [hlen]
  refine ⟨fun i σ' lc' => ExtL σ σ' ∧ (∃ os : List Nat, os.length = i ∧ σ'[σ.length]? = some (.list (os.map .ref)) ∧ ∀ (j o : Nat), os[j]? = some o → WsAt σ' o (wsF (ws.getD j []) ws0)) ∧ (lc' = [] ∨ ∃ a, lc' = [(Str.ofString "word", a)]), ⟨.app, ⟨[], rfl, new_get, fun j l e => by simp at e⟩, .inl rfl⟩, ?gd, ?turn, ?fin⟩
  case gd =>
    rintro i σ' lc' ⟨hx, _⟩
    exact hx _ _ hl
  case fin =>
    rintro σ' lc' ⟨hx, ⟨os, ho, hd, hall⟩, _⟩
    refine seq_next ?_
    exact h σ' os hx ho hd hall
  case turn =>
    rintro i σ' lc' hi ⟨hx, ⟨os, ho, hd, hall⟩, hlc⟩
    have hg : (strL ws).getD i .none = .str (ws.getD i []) := by simp [strL, hi]
    have ep : putV (Str.ofString "word") (.str (ws.getD i [])) lc' = [(Str.ofString "word", .str (ws.getD i []))] := by
      rcases hlc with rfl | ⟨a, rfl⟩ <;> simp [putV]
    show WE _ _ _ (putV (Str.ofString "word") ((strL ws).getD i .none) lc') _ _
    rw [hg, ep]
    have hwi := hw (ws.getD i []) (by rw [List.getD_eq_getElem?_getD, List.getElem?_eq_getElem hi]; exact List.getElem_mem hi)
    repeat walk_at "e"
    refine ⟨kp_K (mk_157 _).2.2.2, winit (by omega) fun σ3 o hW hx3 => ?_⟩
    have hd3 := hx3 _ _ hd
    have hws' : ∀ {o' : Nat} {v : WsV}, WsAt σ3 o' v → WsAt (σ3.set σ.length (.list (os.map AV.ref ++ [.ref o]))) o' v := fun {o' v} hW => by
      obtain ⟨dl, nl, cl, raw, a1, a2, a3, a4⟩ := hW.at_
      exact ⟨dl, nl, cl, raw, set_other (ne_of_ao hd3 a1 (by simp)) a1, set_other (ne_of_ao hd3 a2 (by simp)) a2, set_other (ne_of_ao hd3 a3 (by simp)) a3, set_other (ne_of_ao hd3 a4 (by simp)) a4⟩
    refine ⟨os.map .ref, hd3, by simp [ho]; omega, fun l ao e => set_other (by have := lt_of_get e; omega) (hx3 _ _ (hx l ao e)), ⟨os ++ [o], by simp [ho], by rw [set_self hd3]; simp, fun j o' e => ?_⟩, .inr ⟨_, (congrArg (fun z => putV (Str.ofString "word") z lc') hg).trans ep⟩⟩
    rcases Nat.lt_or_ge j os.length with z | z
    · rw [List.getElem?_append_left z] at e
      exact hws' ((hall j o' e).ext hx3)
    · rw [List.getElem?_append_right z] at e
      have hj0 : j - os.length = 0 := by
        rcases Nat.eq_zero_or_pos (j - os.length) with q | q
        · exact q
        · rw [List.getElem?_eq_none (by simp; omega)] at e; cases e
      rw [hj0] at e
      simp only [List.getElem?_cons_zero, Option.some.injEq] at e
      subst e
      have : j = i := by omega
      subst this
      exact hws' hW
end

section
variable {w : World} {mg mb : Str → Option Value} {LM : Nat → Addr → Obj → Prop} {σ : List AO} {lc : Lc} {d : Nat}
noncomputable def boolL (bs : List Bool) : List AV := bs.map .bool
noncomputable def stayF (ws : List (List Nat)) : List Bool := ws.map fun v => ws.any fun u => lessF (wsF u ws0) (wsF v ws0)
theorem any_idx (ws : List (List Nat)) (f : List Nat → Bool) : ws.any f = (List.range ws.length).any fun i => f (ws.getD i []) := by
  have e : (List.range ws.length).map (fun i => ws.getD i []) = ws := by
    have := map_range_map (fun x : List Nat => x) ws []
    simpa using this
  conv => lhs; rw [← e]
  rw [List.any_map]
  rfl
set_option maxHeartbeats 8000000 in
theorem wh_stay {il : Nat} {os : List Nat} {ws : List (List Nat)} {cd : Option (Value × Str)} {k : AF → List AO → Lc → Prop} (hz : ws.length ≤ 100) (hso : os.length = ws.length) (h7 : 7 ≤ il) (h6 : ∃ v, σ[6]? = some (.cell v)) (hl : σ[il]? = some (.list (os.map .ref))) (g1 : getV (Str.ofString "indents") lc = some (.ref il))
    (hW : ∀ (j o : Nat), os[j]? = some o → WsAt σ o (wsF (ws.getD j []) ws0)) (hV : ∀ x ∈ ws, (wsF x ws0).count.length ≤ 1000 ∧ (wsF x ws0).b ≤ 1000)
    (h : ∀ σ', (∀ (l : Nat) (ao : AO), σ[l]? = some ao → l ≠ 6 → σ'[l]? = some ao) → (∃ v, σ'[6]? = some (.cell v)) → σ'[σ.length]? = some (.list (boolL (stayF ws))) → WSs (G0 w mg mb LM) (lawC (d + 4) cd) σ' (putV (Str.ofString "stay") (.ref σ.length) lc) (whB.drop 4) k) :
    WSs (G0 w mg mb LM) (lawC (d + 4) cd) σ lc (whB.drop 2) k := by
  have hzz : sizeLine = 2 ^ 24 := rfl
  refine wss_cons ?_
  repeat walk_at "e"
  refine ⟨by simp [sizeLine], ?_⟩
  refine wn_loc' (by kernel_rfl) rfl ?_
  have g2 : getV (Str.ofString "indents") (putV (Str.ofString "stay") (.ref σ.length) lc) = some (.ref il) := by walk_at "gv"
  have g3 : getV (Str.ofString "stay") (putV (Str.ofString "stay") (.ref σ.length) lc) = some (.ref σ.length) := by walk_at "gv"
  have n6 : 6 < σ.length := by obtain ⟨v, e⟩ := h6; exact lt_of_get e
  have hil := lt_of_get hl
  generalize putV (Str.ofString "stay") (.ref σ.length) lc = lc1 at *
  refine seq_next ?_
  refine wss_cons ?_
  refine ws_for (fun _ _ => rfl) ?_
  repeat walk_at "e"
  refine ⟨os.map .ref, fun σ' => σ'[il]? = some (.list (os.map .ref)), fun i σ' lc' => lc' = lc1 ∧ (∀ (l : Nat) (ao : AO), σ[l]? = some ao → l ≠ 6 → σ'[l]? = some ao) ∧ (∃ v, σ'[6]? = some (.cell v)) ∧ σ'[σ.length]? = some (.list (boolL ((stayF ws).take i))),
    it_list (get_app hl), ⟨rfl, fun l ao e _ => get_app e, let ⟨v, e⟩ := h6; ⟨v, get_app e⟩, new_get⟩, ?gd, ?turn, ?fin⟩
  case gd =>
    rintro i σ' lc' ⟨_, hk, _⟩
    exact hk _ _ hl (by omega)
  case fin =>
    rintro σ' lc' ⟨rfl, hk, h6', hs⟩
    refine seq_next ?_
    have e : (stayF ws).length = ws.length := by simp [stayF]
    rw [List.length_map, hso, ← e, List.take_length] at hs
    exact h σ' hk h6' hs
  case turn =>
    rintro i y σ' lc' hy ⟨rfl, hk, ⟨v6, h6'⟩, hs⟩
    have hi : i < os.length := by
      rcases Nat.lt_or_ge i os.length with q | q
      · exact q
      · rw [List.getElem?_eq_none (by simpa using q)] at hy; cases hy
    have hy' : y = .ref os[i] := by
      rw [List.getElem?_map, List.getElem?_eq_getElem hi] at hy
      exact (Option.some.inj hy).symm
    subst hy'
    refine wn_cell (l := 6) (v₀ := v6) (by kernel_rfl) (by walk_at "gc") h6' ?_
    have hk2 : ∀ (l : Nat) (ao : AO), σ[l]? = some ao → l ≠ 6 → (σ'.set 6 (.cell (some (.ref os[i]))))[l]? = some ao := fun l ao e hne => set_other (Ne.symm hne) (hk l ao e hne)
    have c6 := set_self (a := .cell (some (.ref os[i]))) h6'
    have hs2 := set_other (a := .cell (some (.ref os[i]))) (show 6 ≠ σ.length by omega) hs
    generalize σ'.set 6 (.cell (some (.ref os[i]))) = σ2 at *
    have hWs : ∀ (j o : Nat), os[j]? = some o → WsAt σ2 o (wsF (ws.getD j []) ws0) := fun j o e => by
      obtain ⟨dl, nl, cl, raw, a1, a2, a3, a4⟩ := (hW j o e).at_
      obtain ⟨v, e6⟩ := h6
      exact ⟨dl, nl, cl, raw, hk2 _ _ a1 (ne_of_ao a1 e6 (by simp)), hk2 _ _ a2 (ne_of_ao a2 e6 (by simp)), hk2 _ _ a3 (ne_of_ao a3 e6 (by simp)), hk2 _ _ a4 (ne_of_ao a4 e6 (by simp))⟩
    have hl2 := hk2 _ _ hl (by omega)
    have hVi : ∀ j, j < ws.length → (wsF (ws.getD j []) ws0).count.length ≤ 1000 ∧ (wsF (ws.getD j []) ws0).b ≤ 1000 := fun j hj => hV _ (by rw [List.getD_eq_getElem?_getD, List.getElem?_eq_getElem hj]; exact List.getElem_mem hj)
    refine wss_cons ?_
    repeat walk_at "e"
    refine meth_list PySem.F.slot_list_append PySem.F.type_list_append hs2 ?_
    refine wes_cons (fun _ => rfl) ?_
    refine we_cmp rfl ?_
    refine we_comp (cl' := [(Str.ofString "indent", 6)]) (cells_one (by kernel_rfl) (by walk_at "gc")) (by decide +kernel) (by decide +kernel) (by decide +kernel) (fun _ _ => rfl) ?_
    refine wite_val rfl (by kernel_rfl) ?_
    repeat walk_at "e"
    refine ⟨_, _, it_list hl2, ?_⟩
    rw [List.length_map]
    refine ⟨fun a σ3 lc3 => σ3 = σ2 ++ [.list (((List.range a).filter fun q => lessF (wsF (ws.getD q []) ws0) (wsF (ws.getD i []) ws0)).map fun q => .ref (os.getD q 0))] ∧ (lc3 = [] ∨ ∃ u, lc3 = [(Str.ofString "one", u)]), ⟨rfl, .inl rfl⟩, ?gd3, ?turn3, ?fin3⟩
    case gd3 =>
      rintro a _ lc3 ⟨rfl, _⟩
      exact get_app hl2
    case turn3 =>
      rintro a _ lc3 ha ⟨rfl, hlc⟩
      have hg : (os.map AV.ref).getD a .none = .ref (os.getD a 0) := by simp [ha]
      have ep : putV (Str.ofString "one") (.ref (os.getD a 0)) lc3 = [(Str.ofString "one", .ref (os.getD a 0))] := by
        rcases hlc with rfl | ⟨u, rfl⟩ <;> simp [putV]
      show CompTurn _ _ _ (putV (Str.ofString "one") ((os.map AV.ref).getD a .none) lc3) _ _ _ _
      rw [hg, ep]
      have hWa := hWs a (os.getD a 0) (by rw [List.getD_eq_getElem?_getD, List.getElem?_eq_getElem ha]; rfl)
      have hWi := hWs i os[i] (List.getElem?_eq_getElem hi)
      obtain ⟨dl, nl, cl, raw, a1, a2, a3, a4⟩ := hWa.at_
      refine wb_val (fun _ _ => rfl) ?_
      refine we_meth (fun _ => rfl) (fun _ => rfl) (fun _ => .inr ⟨_, _, rfl⟩) ?_
      repeat walk_at "e"
      refine meth_inst (mo_less _) (get_app a1) (get_app a2) (by simp only [getV, ofS_inj, String.reduceEq, if_false]) ?_
      refine wes_cons (fun _ => rfl) ?_
      refine we_cell (l := 6) (by kernel_rfl) (by walk_at "gc") (get_app c6) ?_ (by decide +kernel)
      repeat walk_at "e"
      refine ⟨kp_K (fn_wless _).keep, less_call (hVi a (by omega)).1 (hVi i (by omega)).1 (hVi a (by omega)).2 (hVi i (by omega)).2 (hWa.ext .app) (hWi.ext .app) ?_⟩
      repeat walk_at "e"
      have hrs : (List.range (a + 1)).filter (fun q => lessF (wsF (ws.getD q []) ws0) (wsF (ws.getD i []) ws0)) = (List.range a).filter (fun q => lessF (wsF (ws.getD q []) ws0) (wsF (ws.getD i []) ws0)) ++ (if lessF (wsF (ws.getD a []) ws0) (wsF (ws.getD i []) ws0) then [a] else []) := by
        rw [List.range_succ, List.filter_append]
        congr 1
        rw [List.filter_cons, List.filter_nil]
      cases hq : lessF (wsF (ws.getD a []) ws0) (wsF (ws.getD i []) ws0) with
      | true =>
        refine ite_yes ?_
        repeat walk_at "e"
        refine ⟨_, new_get, ?_, ?_, .inr ⟨_, rfl⟩⟩
        · rw [List.length_map]
          have := List.length_filter_le (fun q => lessF (wsF (ws.getD q []) ws0) (wsF (ws.getD i []) ws0)) (List.range a)
          rw [List.length_range] at this
          omega
        · rw [app_set0, hrs, hq, if_pos rfl, List.map_append]
          rfl
      | false =>
        refine ite_no ?_
        refine ⟨?_, .inr ⟨_, rfl⟩⟩
        rw [hrs, hq, if_neg (by decide), List.append_nil]
    case fin3 =>
      rintro _ lc3 ⟨rfl, _⟩
      repeat walk_at "e"
      refine ⟨by simp [sizeLine], ?_⟩
      refine cmp_ne_nil (get_app new_get) new_get ?_
      repeat walk_at "e"
      have hb : (!(((List.range os.length).filter fun q => lessF (wsF (ws.getD q []) ws0) (wsF (ws.getD i []) ws0)).map fun q => AV.ref (os.getD q 0)).isEmpty) = ws.any fun u => lessF (wsF u ws0) (wsF (ws.getD i []) ws0) := by
        rw [any_idx, hso, List.isEmpty_map]
        generalize List.range ws.length = xs
        induction xs with
        | nil => rfl
        | cons x r ih =>
          rw [List.filter_cons, List.any_cons]
          cases hq : lessF (wsF (ws.getD x []) ws0) (wsF (ws.getD i []) ws0) with
          | true => rfl
          | false => simpa using ih
      rw [hb]
      have htk : boolL ((stayF ws).take i) ++ [AV.bool (ws.any fun u => lessF (wsF u ws0) (wsF (ws.getD i []) ws0))] = boolL ((stayF ws).take (i + 1)) := by
        have hiw : i < ws.length := by omega
        rw [List.take_add_one]
        simp [stayF, boolL, hiw]
      have hs5 := get_app (τ := [AO.list []]) (get_app (τ := [AO.list (((List.range os.length).filter fun q => lessF (wsF (ws.getD q []) ws0) (wsF (ws.getD i []) ws0)).map fun q => AV.ref (os.getD q 0))]) hs2)
      have htl : (boolL ((stayF ws).take i)).length ≤ 100 := by
        simp [boolL, stayF]
        omega
      refine ⟨kp_builtin, call_append hs5 (by omega) ?_⟩
      rw [htk]
      repeat walk_at "e"
      exact ⟨rfl, fun l ao e hne => set_other (by have := lt_of_get e; omega) (get_app (get_app (hk2 l ao e hne))), ⟨_, set_other (by omega) (get_app (get_app c6))⟩, set_self hs5⟩
end

section
variable {w : World} {mg mb : Str → Option Value} {LM : Nat → Addr → Obj → Prop} {σ : List AO} {lc : Lc} {d : Nat}
noncomputable def filtF (ws : List (List Nat)) (bs : List Bool) (want : Bool) : List (List Nat) := ((List.zip ws bs).filter fun p => p.2 == want).map (·.1)
theorem filt_succ {ws : List (List Nat)} {bs : List Bool} {want : Bool} {i : Nat} (h1 : i < ws.length) (h2 : i < bs.length) : filtF (ws.take (i + 1)) (bs.take (i + 1)) want = filtF (ws.take i) (bs.take i) want ++ (if (bs.getD i false == want) = true then [ws.getD i []] else []) := by
  unfold filtF
  rw [List.take_add_one, List.take_add_one, List.getElem?_eq_getElem h1, List.getElem?_eq_getElem h2]
  simp only [Option.toList_some]
  rw [List.zip_append (by simp; omega), List.filter_append, List.map_append]
  congr 1
  have e1 : ws.getD i [] = ws[i] := by simp [h1]
  have e2 : bs.getD i false = bs[i] := by simp [h2]
  rw [e1, e2]
  show (List.filter _ [(ws[i], bs[i])]).map _ = _
  rw [List.filter_cons, List.filter_nil]
  split <;> rfl
theorem filt_len (ws : List (List Nat)) (bs : List Bool) (want : Bool) : (filtF ws bs want).length ≤ ws.length := by
  unfold filtF
  rw [List.length_map]
  refine Nat.le_trans (List.length_filter_le _ _) ?_
  rw [List.length_zip]
  exact Nat.min_le_left _ _
theorem comp_zipf {g : G} {c' : Cx} {x y : Str} {ws : List (List Nat)} {bs : List Bool} {t elt : Expr} {σ₁ : List AO} {k : AV → List AO → Prop} {Gd : List AO → Prop} (want : Bool) (hxy : x ≠ y) (hl : bs.length = ws.length) (hGd : ∀ zs, Gd (σ₁ ++ [.list zs])) (hz : ws.length ≤ 1000)
    (ht : ∀ i, i < ws.length → ∀ zs (k' : Bool → List AO → Prop), k' (bs.getD i false == want) (σ₁ ++ [.list zs]) → WB g c' (σ₁ ++ [.list zs]) [(x, .str (ws.getD i [])), (y, .bool (bs.getD i false))] t k')
    (hel : ∀ i, i < ws.length → ∀ zs (k' : AV → List AO → Prop), k' (.str (ws.getD i [])) (σ₁ ++ [.list zs]) → WE g c' (σ₁ ++ [.list zs]) [(x, .str (ws.getD i [])), (y, .bool (bs.getD i false))] elt k')
    (h : k (.ref σ₁.length) (σ₁ ++ [.list (strL (filtF ws bs want))])) :
    CompOk g c' [t] elt k σ₁ (min (strL ws).length (boolL bs).length) (fun i lc => putV y ((boolL bs).getD i .none) (putV x ((strL ws).getD i .none) lc)) Gd := by
  have hzz : sizeLine = 2 ^ 24 := rfl
  have hmin : min (strL ws).length (boolL bs).length = ws.length := by simp [strL, boolL, hl]
  rw [hmin]
  refine ⟨fun i σ' lc' => σ' = σ₁ ++ [.list (strL (filtF (ws.take i) (bs.take i) want))] ∧ (lc' = [] ∨ ∃ u v, lc' = [(x, u), (y, v)]), ⟨rfl, .inl rfl⟩, ?_, ?_, ?_⟩
  · rintro i _ lc' ⟨rfl, _⟩
    exact hGd _
  · rintro i _ lc' hi ⟨rfl, hlc⟩
    have a1 : (strL ws).getD i .none = .str (ws.getD i []) := by simp [strL, hi]
    have a2 : (boolL bs).getD i .none = .bool (bs.getD i false) := by simp [boolL, hl, hi]
    have ep : putV y (.bool (bs.getD i false)) (putV x (.str (ws.getD i [])) lc') = [(x, .str (ws.getD i [])), (y, .bool (bs.getD i false))] := by
      rcases hlc with rfl | ⟨u, v, rfl⟩ <;> simp [putV, hxy]
    show CompTurn _ _ _ (putV y ((boolL bs).getD i .none) (putV x ((strL ws).getD i .none) lc')) _ _ _ _
    rw [a1, a2, ep]
    have hfs := filt_succ (ws := ws) (bs := bs) (want := want) (i := i) hi (by omega)
    refine ht i hi _ _ ?_
    cases hq : bs.getD i false == want with
    | false =>
      refine ite_no ?_
      refine ⟨?_, .inr ⟨_, _, rfl⟩⟩
      rw [hfs, hq, if_neg (by decide), List.append_nil]
    | true =>
      refine ite_yes ?_
      refine hel i hi _ _ ?_
      have hfl := filt_len (ws.take i) (bs.take i) want
      rw [List.length_take] at hfl
      refine ⟨_, new_get, by simp [strL]; omega, ?_, .inr ⟨_, _, rfl⟩⟩
      rw [app_set0, hfs, hq, if_pos rfl]
      simp [strL]
  · rintro _ lc' ⟨rfl, _⟩
    rw [List.take_length, ← hl, List.take_length]
    exact h
set_option maxHeartbeats 8000000 in
theorem wh_tail {rd st tl : Nat} {ts : List Nat} {ws : List (List Nat)} {bs : List Bool} {x : Lx} {rest : List Nat} {tot : Nat} {cd : Option (Value × Str)} {k : AF → List AO → Lc → Prop} (hz : ws.length ≤ 100) (hbl : bs.length = ws.length) (h1 : σ[rd]? = some (.list (strL ws))) (h2 : σ[st]? = some (.list (boolL bs))) (h3 : σ[tl]? = some (.list (ts.map .ref)))
    (hts : ts.length ≤ 100) (hL : LexT σ x rest tot []) (n1 : tl ≠ x.pb) (n2 : tl ≠ x.tape) (h5 : σ[5]? = some (.cell (some (.ref x.obj)))) (g1 : getV (Str.ofString "read") lc = some (.ref rd)) (g2 : getV (Str.ofString "stay") lc = some (.ref st)) (g3 : getV (Str.ofString "told") lc = some (.ref tl))
    (hn5 : tl ≠ 5) (m1 : rd ≠ tl) (m2 : st ≠ tl)
    (h : ∀ σ' lc' tn li, σ.length ≤ tn → σ.length ≤ li → σ'[li]? = some (.list (strL (filtF ws bs true))) → σ'[tl]? = some (.list ((ts ++ [tn]).map .ref)) → σ'[tn]? = some (.list (strL (filtF ws bs false))) → LexT σ' x rest tot [] →
      (∀ (l : Nat) (ao : AO), σ[l]? = some ao → l ≠ tl → l ≠ x.dct → l ≠ x.pb → l ≠ x.tape → σ'[l]? = some ao) → (∀ y, y ≠ Str.ofString "waiting" → y ≠ Str.ofString "word" → y ≠ Str.ofString "line" → getV y lc' = getV y lc) → getV (Str.ofString "line") lc' = some (.ref li) → k .next σ' lc') :
    WSs (G0 w mg mb LM) (lawC (d + 4) cd) σ lc (whB.drop 4) k := by
  have hzz : sizeLine = 2 ^ 24 := rfl
  refine wss_cons ?_
  repeat walk_at "e"
  refine meth_list PySem.F.slot_list_append PySem.F.type_list_append h3 ?_
  refine wes_cons (fun _ => rfl) ?_
  refine we_comp (cells_none (by decide +kernel)) (by decide +kernel) (by decide +kernel) (by decide +kernel) (fun _ _ => rfl) ?_
  refine wite_call (fun _ => rfl) (fun _ => rfl) (fun _ => rfl) ?_
  repeat walk_at "e"
  refine ⟨_, rfl, callit_zip rfl (by kernel_rfl) (by kernel_rfl) h1 h2 ?_⟩
  refine comp_zipf false (by simp [ofS_inj]) hbl (fun zs => ⟨get_app h1, get_app h2⟩) (by omega) (fun i hi zs k' hk' => ?_) (fun i hi zs k' hk' => ?_) ?_
  · refine wb_not ?_
    refine wb_val (fun _ _ => rfl) ?_
    repeat walk_at "e"
    have : (!bs.getD i false) = (bs.getD i false == false) := by cases bs.getD i false <;> rfl
    rw [this]
    exact hk'
  · repeat walk_at "e"
    exact hk'
  repeat walk_at "e"
  refine ⟨kp_builtin, call_append (get_app h3) (by simp; omega) ?_⟩
  have e1 : ts.map AV.ref ++ [AV.ref σ.length] = (ts ++ [σ.length]).map AV.ref := by simp
  rw [e1]
  have htl := lt_of_get h3
  have a1 := set_other (a := .list ((ts ++ [σ.length]).map AV.ref)) (show tl ≠ σ.length by omega) (new_get (σ := σ) (a := AO.list (strL (filtF ws bs false))))
  have a3 := set_self (a := .list ((ts ++ [σ.length]).map AV.ref)) (get_app (τ := [AO.list (strL (filtF ws bs false))]) h3)
  have hk1 : ∀ (l : Nat) (ao : AO), σ[l]? = some ao → l ≠ tl → ((σ ++ [AO.list (strL (filtF ws bs false))]).set tl (.list ((ts ++ [σ.length]).map AV.ref)))[l]? = some ao := fun l ao e hne => set_other (Ne.symm hne) (get_app e)
  have hL1 : LexT ((σ ++ [AO.list (strL (filtF ws bs false))]).set tl (.list ((ts ++ [σ.length]).map AV.ref))) x rest tot [] := LexT.setList (hL.app) (get_app h3) n1 n2
  have hlen1 : ((σ ++ [AO.list (strL (filtF ws bs false))]).set tl (.list ((ts ++ [σ.length]).map AV.ref))).length = σ.length + 1 := by simp
  generalize (σ ++ [AO.list (strL (filtF ws bs false))]).set tl (.list ((ts ++ [σ.length]).map AV.ref)) = σ1 at *
  have b1 := hk1 _ _ h1 m1
  have b2 := hk1 _ _ h2 m2
  have b5 := hk1 _ _ h5 (Ne.symm hn5)
  repeat walk_at "e"
  refine ws_comp (cl' := []) (fun as L env Re => ?_) (by kernel_rfl) (cells_none (by decide +kernel)) (by decide +kernel) (by decide +kernel) (by decide +kernel) (fun _ _ => rfl) ?_
  · rw [swaps_env _ _ _ (env' := envS (scopeOf (stAt 14))) Re.scope]
    kernel_rfl
  refine wite_call (fun _ => rfl) (fun _ => rfl) (fun _ => rfl) ?_
  repeat walk_at "e"
  refine ⟨_, rfl, callit_zip rfl (by kernel_rfl) (by kernel_rfl) b1 b2 ?_⟩
  refine comp_zipf true (by simp [ofS_inj]) hbl (fun zs => ⟨get_app b1, get_app b2⟩) (by omega) (fun i hi zs k' hk' => ?_) (fun i hi zs k' hk' => ?_) ?_
  · refine wb_val (fun _ _ => rfl) ?_
    repeat walk_at "e"
    have : bs.getD i false = (bs.getD i false == true) := by cases bs.getD i false <;> rfl
    rw [this]
    exact hk'
  · repeat walk_at "e"
    exact hk'
  have hfl := filt_len ws bs true
  have cw := new_get (σ := σ1) (a := AO.list (strL (filtF ws bs true)))
  have hk2 : ∀ (l : Nat) (ao : AO), σ[l]? = some ao → l ≠ tl → (σ1 ++ [AO.list (strL (filtF ws bs true))])[l]? = some ao := fun l ao e hne => get_app (hk1 l ao e hne)
  have hL2 : LexT (σ1 ++ [AO.list (strL (filtF ws bs true))]) x rest tot [] := hL1.app
  have c1 := get_app (τ := [AO.list (strL (filtF ws bs true))]) a1
  have c3 := get_app (τ := [AO.list (strL (filtF ws bs true))]) a3
  have c5 := get_app (τ := [AO.list (strL (filtF ws bs true))]) b5
  have hx1 := lt_of_get hL.dct
  have hx2 := lt_of_get hL.pbk
  have hx3 := lt_of_get hL.tape
  rw [hlen1] at cw ⊢
  generalize σ1 ++ [AO.list (strL (filtF ws bs true))] = σ2 at *
  generalize filtF ws bs true = wt at *
  generalize filtF ws bs false = ot at *
  refine seq_next ?_
  refine wss_cons ?_
  refine ws_for (fun _ _ => rfl) ?_
  repeat walk_at "e"
  refine ⟨strL wt, fun σ' => σ'[σ.length + 1]? = some (.list (strL wt)), fun i σ' lc' => LexT σ' x rest tot (wt.take i) ∧ KeptL x σ2 σ' ∧ (∀ y, y ≠ Str.ofString "waiting" → y ≠ Str.ofString "word" → getV y lc' = getV y lc) ∧ getV (Str.ofString "waiting") lc' = some (.ref (σ.length + 1)),
    it_list cw, ⟨hL2, KeptL.refl, fun y q1 q2 => by rw [getV_putV, if_neg q1], by walk_at "gv"⟩, fun i σ' lc' hJ => hJ.2.1 _ _ cw (by omega) (by omega) (by omega), ?turn, ?fin⟩
  case turn =>
    rintro i y σ' lc' hy ⟨hL', hk', hg, hw⟩
    have hi : i < wt.length := by
      rcases Nat.lt_or_ge i wt.length with q | q
      · exact q
      · rw [List.getElem?_eq_none (by simpa [strL] using q)] at hy; cases hy
    have hy' : y = .str wt[i] := by
      have : (strL wt)[i]? = some (.str wt[i]) := by simp [strL, hi]
      rw [this] at hy
      exact (Option.some.inj hy).symm
    subst hy'
    refine wn_loc' (by kernel_rfl) rfl ?_
    refine wss_cons ?_
    refine ws_expr rfl (fun _ => rfl) ?_
    refine we_meth (fun _ => rfl) (fun _ => rfl) (fun _ => .inr ⟨_, _, rfl⟩) ?_
    refine we_cell (l := 5) (by kernel_rfl) (by walk_at "gc") (hk' _ _ c5 (ne_of_ao c5 hL2.dct (by simp)) (ne_of_ao c5 hL2.pbk (by simp)) (ne_of_ao c5 hL2.tape (by simp))) ?_ (by decide +kernel)
    refine meth_inst (mo_push _) hL'.obj hL'.dct (by walk_at "gv") ?_
    repeat walk_at "e"
    refine ⟨kp_K (fn_push _).keep, push_call hL' (by simp; omega) fun σ3 hL3 hk3 _ => ?_⟩
    repeat walk_at "e"
    refine ⟨?_, hk'.trans hk3, fun y q1 q2 => by rw [getV_putV, if_neg q2]; exact hg y q1 q2, by walk_at "gv"⟩
    have : wt.take (i + 1) = wt.take i ++ [wt[i]] := by rw [List.take_add_one, List.getElem?_eq_getElem hi]; rfl
    rw [this]
    exact hL3
  case fin =>
    rintro σ3 lc3 ⟨hL3, hk3, hg3, hw3⟩
    rw [show (strL wt).length = wt.length by simp [strL], List.take_length] at hL3
    have d1 := hk3 _ _ c1 (by omega) (by omega) (by omega)
    have d3 := hk3 _ _ c3 (ne_of_ao c3 hL2.dct (by simp)) n1 n2
    have dw := hk3 _ _ cw (by omega) (by omega) (by omega)
    have d5 := hk3 _ _ c5 (ne_of_ao c5 hL2.dct (by simp)) (ne_of_ao c5 hL2.pbk (by simp)) (ne_of_ao c5 hL2.tape (by simp))
    refine seq_next ?_
    refine wss_cons ?_
    refine ws_comp (cl' := [(Str.ofString "lexer", 5)]) (fun as L env Re => ?_) (by kernel_rfl) (cells_one (by kernel_rfl) (by walk_at "gc")) (by decide +kernel) (by decide +kernel) (by decide +kernel) (fun _ _ => rfl) ?_
    · rw [swaps_env _ _ _ (env' := envS (scopeOf (stAt 14))) Re.scope]
      kernel_rfl
    refine wite_val rfl (by kernel_rfl) ?_
    repeat walk_at "e"
    refine ⟨_, _, it_list dw, ?_⟩
    have hsl : (strL wt).length = wt.length := by simp [strL]
    rw [hsl]
    have hl3 : σ.length ≤ σ3.length := by have := lt_of_get d1; omega
    refine ⟨fun i σ' lc' => LexT σ' x rest tot (wt.drop i) ∧ (∀ (l : Nat) (ao : AO), σ3[l]? = some ao → l ≠ x.dct → l ≠ x.pb → l ≠ x.tape → σ'[l]? = some ao) ∧ σ'[σ3.length]? = some (.list (strL (wt.take i))) ∧ (lc' = [] ∨ ∃ a, lc' = [(Str.ofString "_", a)]), ⟨hL3.app, fun l ao e _ _ _ => get_app e, new_get, .inl rfl⟩, ?gd2, ?turn2, ?fin2⟩
    case gd2 =>
      rintro i σ' lc' ⟨_, hk', _⟩
      exact hk' _ _ dw (by omega) (by omega) (by omega)
    case turn2 =>
      rintro i σ' lc' hi ⟨hL', hk', hl', hlc⟩
      have ep : ∀ v, putV (Str.ofString "_") v lc' = [(Str.ofString "_", v)] := by
        intro v
        rcases hlc with rfl | ⟨a, rfl⟩ <;> simp [putV]
      show WE _ _ _ (putV (Str.ofString "_") _ lc') _ _
      rw [ep]
      rw [List.drop_eq_getElem_cons hi] at hL'
      refine we_meth (fun _ => rfl) (fun _ => rfl) (fun _ => .inl rfl) ?_
      refine we_cell (l := 5) (by kernel_rfl) (by walk_at "gc") (hk' _ _ d5 (ne_of_ao d5 hL3.dct (by simp)) (ne_of_ao d5 hL3.pbk (by simp)) (ne_of_ao d5 hL3.tape (by simp))) ?_ (by decide +kernel)
      refine meth_inst (mo_get _) hL'.obj hL'.dct (by walk_at "gv") ?_
      repeat walk_at "e"
      refine ⟨kp_K (fn_get _).keep, get_pushed hL' (by simp; omega) fun σ4 hL4 hk4 => ?_⟩
      have hl4 := hk4 _ _ hl' (by omega) (by omega) (by omega)
      refine ⟨_, hl4, by simp [strL]; omega, hL4.setList hl4 (by omega) (by omega), fun l ao e q1 q2 q3 => set_other (by have := lt_of_get e; omega) (hk4 _ _ (hk' l ao e q1 q2 q3) q1 q2 q3), ?_, .inr ⟨_, ep _⟩⟩
      rw [set_self hl4, List.take_add_one, List.getElem?_eq_getElem hi]
      have : strL (wt.take i) ++ [AV.str wt[i]] = strL (wt.take i ++ [wt[i]]) := by unfold strL; rw [List.map_append]; rfl
      rw [this]
      rfl
    case fin2 =>
      rintro σ' lc' ⟨hL', hk', hl', _⟩
      rw [List.drop_length] at hL'
      rw [List.take_length] at hl'
      refine seq_next ?_
      refine wss_nil ?_
      refine h σ' _ σ.length σ3.length (Nat.le_refl _) hl3 hl' (hk' _ _ d3 (ne_of_ao d3 hL3.dct (by simp)) n1 n2) (hk' _ _ d1 (by omega) (by omega) (by omega)) hL' (fun l ao e q0 q1 q2 q3 => hk' _ _ (hk3 _ _ (hk2 l ao e q0) q1 q2 q3) q1 q2 q3) (fun y q1 q2 q3 => by rw [getV_putV, if_neg q3]; exact hg3 y q1 q2) getV_same
end

section
variable {w : World} {mg mb : Str → Option Value} {LM : Nat → Addr → Obj → Prop} {σ : List AO} {lc : Lc} {d : Nat}
noncomputable def idxF (links : List Nat) (t : Nat) : List Nat := (List.range 5).filter fun p => decide (t < links.getD p 0)
noncomputable def wdF (ls : List (List Nat)) (ms : List Nat) (t p : Nat) : List Nat := wordR (ls.getD p []) (ms.getD p 0) p t
noncomputable def roundF (ls : List (List Nat)) (ms links : List Nat) (t : Nat) : List (List Nat) := (idxF links t).map (wdF ls ms t)
theorem filt_map {α : Type} (f : α → List Nat) (b : α → Bool) (want : Bool) : ∀ xs : List α, filtF (xs.map f) (xs.map b) want = (xs.filter fun p => b p == want).map f
  | [] => rfl
  | a :: r => by
    have ih := filt_map f b want r
    unfold filtF at *
    rw [List.map_cons, List.map_cons, List.zip_cons_cons, List.filter_cons, List.filter_cons]
    cases h : b a == want with
    | true => simp only [h, if_true, List.map_cons]; rw [ih]
    | false => simp only [h, Bool.false_eq_true, if_false]; exact ih
theorem outP_eq (ls : List (List Nat)) (ms links : List Nat) (t : Nat) : ∀ j, outP ls ms links t j = ((List.range j).filter fun p => decide (links.getD p 0 = t)).map (wdF ls ms t)
  | 0 => rfl
  | j + 1 => by
    rw [outP_succ, outP_eq ls ms links t j, List.range_succ, List.filter_append, List.map_append]
    congr 1
    rw [List.filter_cons, List.filter_nil]
    by_cases h : links.getD j 0 = t
    · rw [if_pos h, if_pos (by simpa using h)]; rfl
    · rw [if_neg h, if_neg (by simpa using h)]; rfl
theorem idx_lt {links : List Nat} {t p : Nat} (h : p ∈ idxF links t) : p < 5 ∧ t < links.getD p 0 := by
  unfold idxF at h
  rw [List.mem_filter] at h
  exact ⟨List.mem_range.mp h.1, of_decide_eq_true h.2⟩
theorem mem_idx {links : List Nat} {t p : Nat} (h1 : p < 5) (h2 : t < links.getD p 0) : p ∈ idxF links t := by
  unfold idxF
  rw [List.mem_filter]
  exact ⟨List.mem_range.mpr h1, decide_eq_true h2⟩
theorem ok_at {ls : List (List Nat)} (l1 : ls.length = 5) (ok : ∀ l ∈ ls, LeadOk l) {p : Nat} (hp : p < 5) : LeadOk (ls.getD p []) := ok _ (by rw [List.getD_eq_getElem?_getD, List.getElem?_eq_getElem (by omega)]; exact List.getElem_mem _)
theorem row_at {ls : List (List Nat)} (l1 : ls.length = 5) {p : Nat} (hp : p < 5) : (rowsF ls).getD p [] = colsF (ls.getD p []) 5 := by
  unfold rowsF
  rw [List.getD_eq_getElem?_getD, List.getD_eq_getElem?_getD, List.getElem?_map, List.getElem?_eq_getElem (by omega)]
  rfl
theorem round_read {ls : List (List Nat)} {ms links : List Nat} (l1 : ls.length = 5) (ok : ∀ l ∈ ls, LeadOk l) (t : Nat) : (roundF ls ms links t).map pq = (idxF links t).map (wdF ls ms (t + 1)) := by
  unfold roundF
  rw [List.map_map]
  refine List.map_congr_left fun p hp => ?_
  exact pq_word (ok_at l1 ok (idx_lt hp).1) _ _ _
theorem round_stay {ls : List (List Nat)} {ms links : List Nat} (l1 : ls.length = 5) (ok : ∀ l ∈ ls, LeadOk l) (t : Nat) : stayF ((idxF links t).map (wdF ls ms (t + 1))) = (idxF links t).map fun p => (idxF links t).any fun q => rowD (rowsF ls) p q := by
  unfold stayF
  rw [List.map_map]
  refine List.map_congr_left fun p hp => ?_
  have hp := idx_lt hp
  show ((idxF links t).map (wdF ls ms (t + 1))).any _ = _
  rw [List.any_map]
  rw [Bool.eq_iff_iff, List.any_eq_true, List.any_eq_true]
  have key : ∀ q, q ∈ idxF links t → lessF (wsF (wdF ls ms (t + 1) q) ws0) (wsF (wdF ls ms (t + 1) p) ws0) = rowD (rowsF ls) p q := fun q hq => by
    have hq := idx_lt hq
    unfold wdF rowD
    rw [wsF_word (ok_at l1 ok hq.1), wsF_word (ok_at l1 ok hp.1), less_deep (ok_at l1 ok hq.1) (ok_at l1 ok hp.1), row_at l1 hp.1, row_at l1 hq.1]
  constructor
  · rintro ⟨q, hq, e⟩
    exact ⟨q, hq, by rw [← key q hq]; exact e⟩
  · rintro ⟨q, hq, e⟩
    exact ⟨q, hq, by show lessF _ _ = true; rw [key q hq]; exact e⟩
structure LkOk (ls : List (List Nat)) (links : List Nat) : Prop where
  len : links.length = 5
  one : ∀ p, p < 5 → 1 ≤ links.getD p 0
  top : ∀ q ∈ links, q ≤ 6
  up : ∀ p q, p < 5 → q < 5 → rowD (rowsF ls) p q = true → links.getD q 0 + 1 ≤ links.getD p 0
  down : ∀ p, p < 5 → links.getD p 0 = 1 ∨ ∃ q, q < 5 ∧ rowD (rowsF ls) p q = true ∧ links.getD p 0 = links.getD q 0 + 1
theorem lk_ok {ls : List (List Nat)} (l1 : ls.length = 5) {os : List Nat} (hos : os.Perm (List.range 5)) (hpw : os.Pairwise (fun i j => rowKey (rowsF ls) i ≤ rowKey (rowsF ls) j)) : LkOk ls (lkF (rowD (rowsF ls)) 5 os) := by
  have h := lk_all (D := rowD (rowsF ls)) (n := 5) (key := rowKey (rowsF ls)) (fun p q hp hq hd => deep_key l1 p q hp hq hd) hos hpw
  have hm : ∀ p, p < 5 → p ∈ os := fun p hp => hos.mem_iff.mpr (List.mem_range.mpr hp)
  refine ⟨h.len, h.one, fun q hq => ?_, fun p q hp hq hd => (h.up p (hm p hp) q hq hd).2, fun p hp => h.down p (hm p hp)⟩
  obtain ⟨i, hi, rfl⟩ := List.getElem_of_mem hq
  have h1 := h.top i (by rw [← h.len]; exact hi)
  have h2 : os.length = 5 := by rw [hos.length_eq]; simp
  rw [List.getD_eq_getElem?_getD, List.getElem?_eq_getElem hi] at h1
  simp only [Option.getD_some] at h1
  omega
theorem kept_iff {ls : List (List Nat)} {links : List Nat} (h : LkOk ls links) {t p : Nat} (hp : p ∈ idxF links t) : ((idxF links t).any fun q => rowD (rowsF ls) p q) = decide (t + 1 < links.getD p 0) := by
  obtain ⟨p1, p2⟩ := idx_lt hp
  rw [Bool.eq_iff_iff, List.any_eq_true, decide_eq_true_iff]
  constructor
  · rintro ⟨q, hq, hd⟩
    obtain ⟨q1, q2⟩ := idx_lt hq
    have := h.up p q p1 q1 hd
    omega
  · intro hlt
    rcases h.down p p1 with z | ⟨q, q1, hd, e⟩
    · omega
    · exact ⟨q, mem_idx q1 (by omega), hd⟩
theorem round_wait {ls : List (List Nat)} {ms links : List Nat} (l1 : ls.length = 5) (ok : ∀ l ∈ ls, LeadOk l) (h : LkOk ls links) (t : Nat) : filtF ((idxF links t).map (wdF ls ms (t + 1))) (stayF ((idxF links t).map (wdF ls ms (t + 1)))) true = roundF ls ms links (t + 1) := by
  rw [round_stay l1 ok, filt_map]
  unfold roundF
  congr 1
  have e : (idxF links t).filter (fun p => ((idxF links t).any fun q => rowD (rowsF ls) p q) == true) = (idxF links t).filter fun p => decide (t + 1 < links.getD p 0) :=
    List.filter_congr fun p hp => by rw [kept_iff h hp]; cases decide (t + 1 < links.getD p 0) <;> rfl
  rw [e]
  unfold idxF
  rw [List.filter_filter]
  refine List.filter_congr fun p _ => ?_
  by_cases q : t + 1 < links.getD p 0
  · rw [decide_eq_true q, decide_eq_true (show t < links.getD p 0 by omega)]; rfl
  · rw [decide_eq_false q]; rfl
theorem round_out {ls : List (List Nat)} {ms links : List Nat} (l1 : ls.length = 5) (ok : ∀ l ∈ ls, LeadOk l) (h : LkOk ls links) (t : Nat) : filtF ((idxF links t).map (wdF ls ms (t + 1))) (stayF ((idxF links t).map (wdF ls ms (t + 1)))) false = outP ls ms links (1 + t) 5 := by
  rw [round_stay l1 ok, filt_map, outP_eq, Nat.add_comm 1 t]
  congr 1
  have e : (idxF links t).filter (fun p => ((idxF links t).any fun q => rowD (rowsF ls) p q) == false) = (idxF links t).filter fun p => !decide (t + 1 < links.getD p 0) :=
    List.filter_congr fun p hp => by rw [kept_iff h hp]; cases decide (t + 1 < links.getD p 0) <;> rfl
  rw [e]
  unfold idxF
  rw [List.filter_filter]
  refine List.filter_congr fun p _ => ?_
  by_cases q : links.getD p 0 = t + 1
  · rw [decide_eq_true q, decide_eq_false (show ¬ t + 1 < links.getD p 0 by omega), decide_eq_true (show t < links.getD p 0 by omega)]; rfl
  · rw [decide_eq_false q]
    by_cases q2 : t < links.getD p 0
    · rw [decide_eq_true (show t + 1 < links.getD p 0 by omega)]; rfl
    · rw [decide_eq_false q2, Bool.and_false]
theorem round_zero {ls : List (List Nat)} {ms links : List Nat} (h : LkOk ls links) : roundF ls ms links 0 = lineF ls ms 5 := by
  unfold roundF lineF idxF
  have : (List.range 5).filter (fun p => decide (0 < links.getD p 0)) = List.range 5 := by
    rw [List.filter_eq_self]
    intro p hp
    exact decide_eq_true (h.one p (List.mem_range.mp hp))
  rw [this]
  refine List.map_congr_left fun p _ => ?_
  exact word_zero _ _ _
theorem round_len (ls : List (List Nat)) (ms links : List Nat) (t : Nat) : (roundF ls ms links t).length ≤ 5 := by
  unfold roundF idxF
  rw [List.length_map]
  have := List.length_filter_le (fun p => decide (t < links.getD p 0)) (List.range 5)
  rw [List.length_range] at this
  exact this
theorem wd_len {ls : List (List Nat)} {ms : List Nat} (l1 : ls.length = 5) (l2 : ms.length = 5) (ok : ∀ l ∈ ls, LeadOk l) (mk : ∀ q ∈ ms, q ≤ 7) (t : Nat) {p : Nat} (hp : p < 5) : (wdF ls ms t p).length ≤ 12 := by
  have h1 := (ok_at l1 ok hp).1
  have h2 := mk (ms.getD p 0) (by rw [List.getD_eq_getElem?_getD, List.getElem?_eq_getElem (by omega)]; exact List.getElem_mem _)
  have h3 : ms.getD p 0 / 2 ^ t ≤ 7 := Nat.le_trans (Nat.div_le_self _ _) h2
  unfold wdF wordR
  rw [List.length_append, List.length_append, List.length_replicate]
  split
  · rw [List.length_singleton]; omega
  · rw [List.length_nil]; omega
end

section
variable {w : World} {mg mb : Str → Option Value} {LM : Nat → Addr → Obj → Prop} {σ : List AO} {lc : Lc} {d : Nat}
structure WhSt (σ : List AO) (x : Lx) (vs : List Value) (m : Obj) (dl : Nat) (rs : List Nat) (DD : Nat → List (List Nat)) (N tot t li tl : Nat) (ts : List Nat) (lines : List (List Nat)) : Prop where
  lex : ∃ rest, LexT σ x rest tot [] ∧ lex0 rest = lex0 [122]
  rest : Rest σ vs m x.obj dl rs DD N
  line : σ[li]? = some (.list (strL lines))
  told : σ[tl]? = some (.list (ts.map .ref))
  tsl : ts.length = t
  tsa : ∀ (j l : Nat), ts[j]? = some l → σ[l]? = some (.list (strL (DD j))) ∧ l ≠ tl ∧ l ≠ x.pb ∧ l ≠ x.tape ∧ N ≤ l
  tN : N ≤ tl ∧ tl ≠ x.pb ∧ tl ≠ x.tape
set_option maxHeartbeats 8000000 in
theorem law_while {vs : List Value} {m : Obj} {ls : List (List Nat)} {ms links : List Nat} {x : Lx} {rest : List Nat} {tot dl N li T : Nat} {rs : List Nat} {text : List Nat} {cd : Option (Value × Str)} {k : AF → List AO → Lc → Prop} (l1 : ls.length = 5) (l2 : ms.length = 5) (ok : ∀ l ∈ ls, LeadOk l) (mk : ∀ q ∈ ms, q ≤ 7)
    (hlk : LkOk ls links) (hT1 : ∀ q ∈ links, q ≤ T) (hT2 : T ∈ links) (hL : LexT σ x rest tot []) (hlx : lex0 rest = lex0 [122]) (hN : N ≤ x.dct ∧ N ≤ x.pb ∧ N ≤ x.tape) (hNc : N ≤ x.cell) (hR : Rest σ vs m x.obj dl rs (fun i => outP ls ms links (1 + i) 5) N) (hNl : N ≤ li) (hli : σ[li]? = some (.list (strL (lineF ls ms 5))))
    (g1 : getV (Str.ofString "due") lc = some (.ref dl)) (g2 : getV (Str.ofString "text") lc = some (.str text)) (g3 : getV (Str.ofString "line") lc = some (.ref li))
    (h : ∀ σ' li tl ts lines lc', WhSt σ' x vs m dl rs (fun i => outP ls ms links (1 + i) 5) N tot T li tl ts lines → getV (Str.ofString "due") lc' = some (.ref dl) → getV (Str.ofString "text") lc' = some (.str text) → getV (Str.ofString "told") lc' = some (.ref tl) → WSs (G0 w mg mb LM) (lawC (d + 4) cd) σ' lc' ((bodyOf (stAt 14)).drop 11) k) :
    WSs (G0 w mg mb LM) (lawC (d + 4) cd) σ lc ((bodyOf (stAt 14)).drop 9) k := by
  have hzz : sizeLine = 2 ^ 24 := rfl
  have hT6 := hlk.top T hT2
  obtain ⟨pT, hpT, ePT⟩ := List.getElem_of_mem hT2
  have hpT5 : pT < 5 := by have := hlk.len; omega
  have ePT' : links.getD pT 0 = T := by rw [List.getD_eq_getElem?_getD, List.getElem?_eq_getElem hpT]; exact ePT
  have hle : ∀ p, p < 5 → links.getD p 0 ≤ T := fun p hp => hT1 _ (by rw [List.getD_eq_getElem?_getD, List.getElem?_eq_getElem (by rw [hlk.len]; exact hp)]; exact List.getElem_mem _)
  have hx1 := lt_of_get hL.dct
  have hx2 := lt_of_get hL.pbk
  have hx3 := lt_of_get hL.tape
  refine wss_cons ?_
  repeat walk_at "e"
  refine ⟨by simp [sizeLine], ?_⟩
  have hS0 : WhSt (σ ++ [AO.list []]) x vs m dl rs (fun i => outP ls ms links (1 + i) 5) N tot 0 li σ.length [] (roundF ls ms links 0) :=
    ⟨⟨rest, hL.app, hlx⟩, hR.mono (fun l ao _ _ e => get_app e) (let ⟨v, e⟩ := hR.c6; ⟨v, get_app e⟩), by rw [round_zero hlk]; exact get_app hli, new_get, rfl, fun j l e => by simp at e, by omega, by omega, by omega⟩
  refine wn_loc' (by kernel_rfl) rfl ?_
  refine seq_next ?_
  refine wss_cons ?_
  refine ws_while (fun n σ' lc' => ∃ t li tl ts, n = 7 - t ∧ t ≤ T ∧ WhSt σ' x vs m dl rs (fun i => outP ls ms links (1 + i) 5) N tot t li tl ts (roundF ls ms links t) ∧ getV (Str.ofString "due") lc' = some (.ref dl) ∧ getV (Str.ofString "text") lc' = some (.str text) ∧ getV (Str.ofString "line") lc' = some (.ref li) ∧ getV (Str.ofString "told") lc' = some (.ref tl)) ?turn (n := 7)
    ⟨0, li, σ.length, [], rfl, Nat.zero_le _, hS0, by walk_at "gv", by walk_at "gv", by walk_at "gv", by walk_at "gv"⟩
  case turn =>
    rintro n σ' lc' ⟨t, li, tl, ts, rfl, htT, hS, q1, q2, q3, q4⟩
    obtain ⟨rest, hL, hlx⟩ := hS.lex
    refine wb_and2 ?_
    refine wb_cmp rfl ?_
    repeat walk_at "e"
    refine ⟨by simp [sizeLine], ?_⟩
    refine cmp_ne_nil (get_app hS.line) new_get ?_
    repeat walk_at "e"
    have happ : ∀ {l : Nat} {ao : AO}, σ'[l]? = some ao → (σ' ++ [AO.list []])[l]? = some ao := fun {l ao} e => get_app e
    have hS1 : WhSt (σ' ++ [AO.list []]) x vs m dl rs (fun i => outP ls ms links (1 + i) 5) N tot t li tl ts (roundF ls ms links t) :=
      ⟨⟨rest, hL.app, hlx⟩, hS.rest.mono (fun l ao _ _ e => get_app e) (let ⟨v, e⟩ := hS.rest.c6; ⟨v, get_app e⟩), get_app hS.line, get_app hS.told, hS.tsl, fun j l e => ⟨get_app (hS.tsa j l e).1, (hS.tsa j l e).2⟩, hS.tN⟩
    clear happ
    generalize σ' ++ [AO.list []] = σ1 at *
    clear hS hL
    have hem : (!(strL (roundF ls ms links t)).isEmpty) = decide (t < T) := by
      by_cases hlt : t < T
      · rw [decide_eq_true hlt]
        have : pT ∈ idxF links t := mem_idx hpT5 (by omega)
        cases he : strL (roundF ls ms links t) with
        | nil =>
          have h0 : (strL (roundF ls ms links t)).length = 0 := by rw [he]; rfl
          simp only [strL, roundF, List.length_map] at h0
          rw [List.length_eq_zero_iff.mp h0] at this
          cases this
        | cons a r => rfl
      · rw [decide_eq_false hlt]
        have : idxF links t = [] := by
          rw [List.eq_nil_iff_forall_not_mem]
          intro p hp
          obtain ⟨p1, p2⟩ := idx_lt hp
          have := hle p p1
          omega
        unfold roundF
        rw [this]
        rfl
    rw [hem]
    by_cases hlt : t < T
    · rw [decide_eq_true hlt]
      refine ite_yes ?_
      refine wb_cmp rfl ?_
      repeat walk_at "e"
      refine ⟨kp_builtin, call_len_list hS1.told (by rw [List.length_map, hS1.tsl]; omega) ?_⟩
      repeat walk_at "e"
      have h6 : decide ((((ts.map AV.ref).length : Nat) : Int) < 6) = true := by
        rw [List.length_map, hS1.tsl]
        exact decide_eq_true (by omega)
      rw [h6]
      refine ite_yes ?_
      have hrl := round_len ls ms links t
      have hrw : ∀ y ∈ roundF ls ms links t, y.length ≤ 100 := fun y hy => by
        obtain ⟨p, hp, rfl⟩ := List.mem_map.mp hy
        have := wd_len l1 l2 ok mk t (idx_lt hp).1
        omega
      show WSs _ _ _ _ whB _
      refine wh_read hS1.line q3 (by omega) hrw ?_
      rw [round_read l1 ok]
      have hrw2 : ∀ y ∈ (idxF links t).map (wdF ls ms (t + 1)), y.length ≤ 100 := fun y hy => by
        obtain ⟨p, hp, rfl⟩ := List.mem_map.mp hy
        have := wd_len l1 l2 ok mk (t + 1) (idx_lt hp).1
        omega
      have hwl : ((idxF links t).map (wdF ls ms (t + 1))).length ≤ 5 := by
        have : ((idxF links t).map (wdF ls ms (t + 1))).length = (roundF ls ms links t).length := by simp [roundF]
        omega
      have hV : ∀ y ∈ (idxF links t).map (wdF ls ms (t + 1)), (wsF y ws0).count.length ≤ 1000 ∧ (wsF y ws0).b ≤ 1000 := fun y hy => by
        obtain ⟨p, hp, rfl⟩ := List.mem_map.mp hy
        unfold wdF
        rw [wsF_word (ok_at l1 ok (idx_lt hp).1)]
        exact ws_small (ok_at l1 ok (idx_lt hp).1)
      have hwait := round_wait l1 ok hlk (ms := ms) t
      have hout := round_out l1 ok hlk (ms := ms) t
      have hstl : (stayF ((idxF links t).map (wdF ls ms (t + 1)))).length = ((idxF links t).map (wdF ls ms (t + 1))).length := by simp [stayF]
      generalize (idxF links t).map (wdF ls ms (t + 1)) = ws at *
      have y1 : getV (Str.ofString "read") (putV (Str.ofString "read") (.ref σ1.length) lc') = some (.ref σ1.length) := by walk_at "gv"
      refine wh_indents (rd := σ1.length) new_get y1 (by omega) hrw2 fun σ3 os hx3 hos hil hWs => ?_
      rw [List.length_append, List.length_singleton] at hil ⊢
      have hx13 : ExtL σ1 σ3 := ExtL.trans .app hx3
      have hrd3 := hx3 _ _ (new_get (σ := σ1) (a := AO.list (strL ws)))
      have n7 := hS1.rest.lo
      have hσ1 := lt_of_get hS1.rest.due
      refine wh_stay (il := σ1.length + 1) (by omega) hos (by omega) (let ⟨v, e⟩ := hS1.rest.c6; ⟨v, hx13 _ _ e⟩) hil (by walk_at "gv") hWs hV fun σ4 hk4 h64 hst => ?_
      obtain ⟨v6, e6⟩ := hS1.rest.c6
      have hk14 : ∀ (l : Nat) (ao : AO), σ1[l]? = some ao → l ≠ 6 → σ4[l]? = some ao := fun l ao e hne => hk4 l ao (hx13 l ao e) hne
      obtain ⟨rest1, hL1, hlx1⟩ := hS1.lex
      have hL4 : LexT σ4 x rest1 tot [] := by
        have k6 : ∀ {l : Nat} {ao : AO}, σ1[l]? = some ao → l ≠ 6 → σ4[l]? = some ao := fun {l ao} e hne => hk14 l ao e hne
        have c6 : ∀ {l : Nat} {ao : AO}, σ1[l]? = some ao → ao ≠ .cell v6 → l ≠ 6 := fun {l ao} e hne => ne_of_ao e e6 hne
        refine ⟨k6 hL1.obj (c6 hL1.obj (by simp)), k6 hL1.dct (c6 hL1.dct (by simp)), k6 hL1.pbk (c6 hL1.pbk (by simp)), k6 hL1.src (c6 hL1.src (by simp)), let ⟨p, e⟩ := hL1.sdct; ⟨p, k6 e (c6 e (by simp))⟩, k6 hL1.lam (c6 hL1.lam (by simp)), k6 hL1.code (c6 hL1.code (by simp)), k6 hL1.cell ?_, k6 hL1.tape (c6 hL1.tape (by simp)), hL1.ne, hL1.nd, hL1.len⟩
        omega
      have htl1 := lt_of_get hS1.told
      have htN := hS1.tN
      refine wh_tail (rd := σ1.length) (st := σ3.length) (tl := tl) (ts := ts) (by omega) hstl (hk4 _ _ hrd3 (by omega)) hst (hk14 _ _ hS1.told (by omega)) (by rw [hS1.tsl]; omega) hL4 htN.2.1 htN.2.2 (hk14 _ _ hS1.rest.c5 (by omega)) (by walk_at "gv") (by walk_at "gv") (by walk_at "gv") (by omega) (by omega) (by have := lt_of_get hil; omega) fun σ5 lc5 tn li' htn hli' e1 e2 e3 hL5 hk5 hg5 gl5 => ?_
      rw [hwait] at e1
      rw [hout] at e3
      have k4l : σ1.length < σ4.length := lt_of_get (hk4 _ _ hrd3 (by omega))
      have hk15 : ∀ (l : Nat) (ao : AO), σ1[l]? = some ao → l ≠ 6 → l ≠ tl → l ≠ x.dct → l ≠ x.pb → l ≠ x.tape → σ5[l]? = some ao := fun l ao e q0 q1 q2 q3 q4 => hk5 l ao (hk14 l ao e q0) q1 q2 q3 q4
      have hd1 := hL1.dct
      have hp1 := lt_of_get hL1.pbk
      have ht1 := lt_of_get hL1.tape
      have gk : ∀ y : String, y ≠ "waiting" → y ≠ "word" → y ≠ "line" → getV (Str.ofString y) lc5 = getV (Str.ofString y) (putV (Str.ofString "stay") (.ref σ3.length) (putV (Str.ofString "indents") (.ref (σ1.length + 1)) (putV (Str.ofString "read") (.ref σ1.length) lc'))) := fun y a b c => by
        have h1 := hg5 (Str.ofString y) (by rw [ne_eq, ofS_inj]; exact a) (by rw [ne_eq, ofS_inj]; exact b) (by rw [ne_eq, ofS_inj]; exact c)
        exact h1
      refine loop_next (m := 7 - (t + 1)) (by omega) ⟨t + 1, li', tl, ts ++ [tn], rfl, by omega, ⟨⟨rest1, hL5, hlx1⟩, ?_, e1, e2, by rw [List.length_append, hS1.tsl]; rfl, fun j l e => ?_, htN⟩, ?_, ?_, gl5, ?_⟩
      · refine hS1.rest.mono (fun l ao hl hne e => hk15 l ao e hne (by omega) (by omega) (by omega) (by omega)) ?_
        obtain ⟨v, e⟩ := h64
        exact ⟨v, hk5 _ _ e (by omega) (by omega) (by omega) (by omega)⟩
      · rcases Nat.lt_or_ge j ts.length with z | z
        · rw [List.getElem?_append_left z] at e
          obtain ⟨u1, u2, u3, u4, u5⟩ := hS1.tsa j l e
          exact ⟨hk15 l _ u1 (by omega) u2 (ne_of_ao u1 hd1 (by simp)) u3 u4, u2, u3, u4, u5⟩
        · rw [List.getElem?_append_right z] at e
          have hj0 : j - ts.length = 0 := by
            rcases Nat.eq_zero_or_pos (j - ts.length) with q | q
            · exact q
            · rw [List.getElem?_eq_none (by simp; omega)] at e; cases e
          rw [hj0] at e
          simp only [List.getElem?_cons_zero, Option.some.injEq] at e
          subst e
          have : j = t := by have := hS1.tsl; omega
          subst this
          exact ⟨e3, by omega, by omega, by omega, by omega⟩
      · rw [gk "due" (by decide) (by decide) (by decide)]
        walk_at "gv"
      · rw [gk "text" (by decide) (by decide) (by decide)]
        walk_at "gv"
      · rw [gk "told" (by decide) (by decide) (by decide)]
        walk_at "gv"
    · rw [decide_eq_false hlt]
      refine ite_no ?_
      refine ite_no ?_
      have : t = T := by omega
      subst this
      exact seq_next (h σ1 li tl ts _ lc' hS1 q1 q2 q4)
end

section
variable {w : World} {mg mb : Str → Option Value} {LM : Nat → Addr → Obj → Prop} {σ : List AO} {lc : Lc} {d : Nat}
theorem nest_of {D : Nat → List (List Nat)} : ∀ (ts : List Nat) (i : Nat), (∀ (j l : Nat), ts[j]? = some l → σ[l]? = some (.list (strL (D (i + j))))) → Nest σ (ts.map .ref) ((List.range' i ts.length).map D)
  | [], _, _ => .nil
  | a :: r, i, h => by
    rw [List.length_cons, List.range'_succ]
    refine .cons (by simpa using h 0 a rfl) (nest_of r (i + 1) fun j l e => ?_)
    have := h (j + 1) l (by simpa using e)
    rw [show i + (j + 1) = i + 1 + j by omega] at this
    exact this
theorem out_ok {ls : List (List Nat)} {ms links : List Nat} (l1 : ls.length = 5) (ok : ∀ l ∈ ls, LeadOk l) (t : Nat) : okW (outP ls ms links t 5) := by
  intro y hy c hc
  rw [outP_eq] at hy
  obtain ⟨p, hp, rfl⟩ := List.mem_map.mp hy
  have hp5 : p < 5 := List.mem_range.mp (List.mem_filter.mp hp).1
  unfold wdF wordR at hc
  rcases List.mem_append.mp hc with hc | hc
  · rcases List.mem_append.mp hc with hc | hc
    · rcases (ok_at l1 ok hp5).2 c hc with rfl | rfl <;> decide
    · have := (List.mem_replicate.mp hc).2
      subst this; decide
  · split at hc
    · have : c = 97 + p := by simpa using hc
      omega
    · cases hc
theorem okz : okW [[], [122], []] := by unfold okW; decide
theorem lex_z : lex0 [122] = ([122], []) := by decide
theorem lex_nil : lex0 [] = ([], []) := rfl
set_option maxHeartbeats 8000000 in
theorem law_end {vs : List Value} {m : Obj} {ls : List (List Nat)} {ms links : List Nat} {x : Lx} {dl N li tl T : Nat} {rs ts : List Nat} {lines : List (List Nat)} {text : List Nat} {cd : Option (Value × Str)} {k : AV → List AO → Prop} (l1 : ls.length = 5) (ok : ∀ l ∈ ls, LeadOk l) (hrs : rs.length = T)
    (hN : N ≤ x.dct ∧ N ≤ x.pb ∧ N ≤ x.tape) (hS : WhSt σ x vs m dl rs (fun i => outP ls ms links (1 + i) 5) N (1 + text.count 10) T li tl ts lines) (hT6 : T ≤ 6) (g1 : getV (Str.ofString "due") lc = some (.ref dl)) (g2 : getV (Str.ofString "text") lc = some (.str text)) (g3 : getV (Str.ofString "told") lc = some (.ref tl))
    (h : ∀ σ', σ'[0]? = some (.raw (scriptO vs m)) → σ'[1]? = some (.tab 1 163 false) → σ'[2]? = some (.tab 2 182 false) → k (.bool true) σ') :
    WSs (G0 w mg mb LM) (lawC (d + 4) cd) σ lc ((bodyOf (stAt 14)).drop 11) (endOf k) := by
  have hzz : sizeLine = 2 ^ 24 := rfl
  obtain ⟨rest, hL, hlx⟩ := hS.lex
  rw [lex_z] at hlx
  refine wss_cons ?_
  refine ws_expr rfl (fun _ => rfl) ?_
  refine we_meth (fun _ => rfl) (fun _ => rfl) (fun _ => .inr ⟨_, _, rfl⟩) ?_
  refine we_cell (l := 5) (by kernel_rfl) (by walk_at "gc") hS.rest.c5 ?_ (by decide +kernel)
  refine meth_inst (mo_push _) hL.obj hL.dct (by walk_at "gv") ?_
  repeat walk_at "e"
  refine ⟨kp_K (fn_push _).keep, push_call hL (by simp) fun σ1 hL1 hk1 _ => ?_⟩
  have hR1 := hS.rest.keptL hN hk1
  have ht1 : σ1[tl]? = some (.list (ts.map .ref)) := hk1 _ _ hS.told (ne_of_ao hS.told hL.dct (by simp)) hS.tN.2.1 hS.tN.2.2
  have hts1 : ∀ (j l : Nat), ts[j]? = some l → σ1[l]? = some (.list (strL (outP ls ms links (1 + (0 + j)) 5))) := fun j l e => by
    obtain ⟨u1, u2, u3, u4, u5⟩ := hS.tsa j l e
    rw [Nat.zero_add]
    exact hk1 _ _ u1 (ne_of_ao u1 hL.dct (by simp)) u3 u4
  have hrs1 : ∀ (j l : Nat), rs[j]? = some l → σ1[l]? = some (.list (strL (outP ls ms links (1 + (0 + j)) 5))) := fun j l e => by
    rw [Nat.zero_add]
    exact hR1.at_ j l e
  have n1 := nest_of (D := fun i => outP ls ms links (1 + i) 5) ts 0 hts1
  have n2 := nest_of (D := fun i => outP ls ms links (1 + i) 5) rs 0 hrs1
  rw [hS.tsl] at n1
  rw [hrs] at n2
  have okk : ∀ y ∈ (List.range' 0 T).map (fun i => outP ls ms links (1 + i) 5), okW y := fun y hy => by
    obtain ⟨i, _, rfl⟩ := List.mem_map.mp hy
    exact out_ok l1 ok _
  repeat walk_at "e"
  refine cmp_eq_nest ht1 hR1.due n1 n2 okk okk ?_
  rw [decide_eq_true rfl]
  repeat walk_at "e"
  refine we_comp (cl' := [(Str.ofString "lexer", 5)]) (cells_one (by kernel_rfl) (by walk_at "gc")) (by decide +kernel) (by decide +kernel) (by decide +kernel) (fun _ _ => rfl) ?_
  refine wite_call (fun _ => rfl) (fun _ => rfl) (fun _ => rfl) ?_
  repeat walk_at "e"
  refine ⟨_, rfl, callit_range1 (by kernel_rfl) (by omega) (by omega) ?_⟩
  have hrl3 : (rangeL 0 (3 : Int).toNat).length = 3 := by simp [rangeL]
  rw [hrl3]
  have hlexT : ∀ {σ' : List AO} {rr : List Nat} {pp : List (List Nat)} {ys : List AV} {a : AO}, LexT σ' x rr (1 + text.count 10) pp → σ'[σ1.length]? = some (.list ys) → LexT (σ'.set σ1.length a) x rr (1 + text.count 10) pp := fun {σ' rr pp ys a} hh e => hh.setList e (by have := lt_of_get hL1.pbk; omega) (by have := lt_of_get hL1.tape; omega)
  refine ⟨fun i σ' lc' => ((i = 0 ∧ LexT σ' x rest (1 + text.count 10) [[]]) ∨ (i = 1 ∧ LexT σ' x rest (1 + text.count 10) []) ∨ (2 ≤ i ∧ LexT σ' x [] (1 + text.count 10) [])) ∧ Rest σ' vs m x.obj dl rs (fun i => outP ls ms links (1 + i) 5) N ∧ σ'[σ1.length]? = some (.list (strL (([[], [122], []] : List (List Nat)).take i))) ∧ (lc' = [] ∨ ∃ a, lc' = [(Str.ofString "_", a)]),
    ⟨.inl ⟨rfl, hL1.app⟩, hR1.mono (fun l ao _ _ e => get_app e) (let ⟨v, e⟩ := hR1.c6; ⟨v, get_app e⟩), new_get, .inl rfl⟩, fun _ _ _ _ => trivial, ?turn, ?fin⟩
  case turn =>
    rintro i σ' lc' hi ⟨hlex, hR, hl, hlc⟩
    have ep : ∀ v, putV (Str.ofString "_") v lc' = [(Str.ofString "_", v)] := by
      intro v
      rcases hlc with rfl | ⟨a, rfl⟩ <;> simp [putV]
    show WE _ _ _ (putV (Str.ofString "_") _ lc') _ _
    rw [ep]
    refine we_meth (fun _ => rfl) (fun _ => rfl) (fun _ => .inl rfl) ?_
    refine we_cell (l := 5) (by kernel_rfl) (by walk_at "gc") hR.c5 ?_ (by decide +kernel)
    have fin : ∀ {σ2 : List AO} {y : List Nat} {lcx : Lc}, (lcx = [] ∨ ∃ a, lcx = [(Str.ofString "_", a)]) → KeptL x σ' σ2 → ([[], [122], []] : List (List Nat))[i]? = some y → (((i + 1 = 0 ∧ LexT σ2 x rest (1 + text.count 10) [[]]) ∨ (i + 1 = 1 ∧ LexT σ2 x rest (1 + text.count 10) []) ∨ (2 ≤ i + 1 ∧ LexT σ2 x [] (1 + text.count 10) []))) →
        ∃ ys, σ2[σ1.length]? = some (.list ys) ∧ ys.length ≤ sizeLine ∧ (fun i σ' lc' => ((i = 0 ∧ LexT σ' x rest (1 + text.count 10) [[]]) ∨ (i = 1 ∧ LexT σ' x rest (1 + text.count 10) []) ∨ (2 ≤ i ∧ LexT σ' x [] (1 + text.count 10) [])) ∧ Rest σ' vs m x.obj dl rs (fun i => outP ls ms links (1 + i) 5) N ∧ σ'[σ1.length]? = some (.list (strL (([[], [122], []] : List (List Nat)).take i))) ∧ (lc' = [] ∨ ∃ a, lc' = [(Str.ofString "_", a)])) (i + 1) (σ2.set σ1.length (.list (ys ++ [.str y]))) lcx := by
      intro σ2 y lcx hlcx hk2 hy hlex2
      have hl2 := hk2 _ _ hl (by have := lt_of_get hL1.dct; omega) (by have := lt_of_get hL1.pbk; omega) (by have := lt_of_get hL1.tape; omega)
      have hR2 := hR.keptL hN hk2
      have hle := lt_of_get hR1.due
      refine ⟨_, hl2, by simp [strL]; omega, ?_, ?_, ?_, hlcx⟩
      · rcases hlex2 with ⟨z, e⟩ | ⟨z, e⟩ | ⟨z, e⟩
        · exact .inl ⟨z, hlexT e hl2⟩
        · exact .inr (.inl ⟨z, hlexT e hl2⟩)
        · exact .inr (.inr ⟨z, hlexT e hl2⟩)
      · have hNle : N ≤ σ1.length := by have := lt_of_get hL1.dct; omega
        exact hR2.mono (fun l ao hl' _ e => set_other (by omega) e) (let ⟨v, e⟩ := hR2.c6; ⟨v, set_other (by have := hR.lo; omega) e⟩)
      · rw [set_self hl2, List.take_add_one, hy]
        have : strL (([[], [122], []] : List (List Nat)).take i) ++ [AV.str y] = strL (([[], [122], []] : List (List Nat)).take i ++ [y]) := by unfold strL; rw [List.map_append]; rfl
        rw [this]
        rfl
    rcases hlex with ⟨rfl, hL'⟩ | ⟨rfl, hL'⟩ | ⟨hi2, hL'⟩
    · refine meth_inst (mo_get _) hL'.obj hL'.dct (by walk_at "gv") ?_
      repeat walk_at "e"
      refine ⟨kp_K (fn_get _).keep, get_pushed hL' (by simp) fun σ2 hL2 hk2 => ?_⟩
      exact fin (.inr ⟨_, ep _⟩) hk2 rfl (.inr (.inl ⟨rfl, hL2⟩))
    · refine meth_inst (mo_get _) hL'.obj hL'.dct (by walk_at "gv") ?_
      repeat walk_at "e"
      refine ⟨kp_K (fn_get _).keep, get_empty hL' fun σ2 hL2 hk2 => ?_⟩
      rw [hlx] at hL2 ⊢
      exact fin (.inr ⟨_, ep _⟩) hk2 rfl (.inr (.inr ⟨by omega, hL2⟩))
    · refine meth_inst (mo_get _) hL'.obj hL'.dct (by walk_at "gv") ?_
      repeat walk_at "e"
      refine ⟨kp_K (fn_get _).keep, get_empty hL' fun σ2 hL2 hk2 => ?_⟩
      rw [lex_nil] at hL2 ⊢
      have : i = 2 := by omega
      subst this
      exact fin (.inr ⟨_, ep _⟩) hk2 rfl (.inr (.inr ⟨by omega, hL2⟩))
  case fin =>
    rintro σ' lc' ⟨hlex, hR, hl, _⟩
    have hL' : LexT σ' x [] (1 + text.count 10) [] := by
      rcases hlex with ⟨z, _⟩ | ⟨z, _⟩ | ⟨_, e⟩
      · omega
      · omega
      · exact e
    repeat walk_at "e"
    refine ⟨by simp [sizeLine], ?_⟩
    refine cmp_eq_strs (xs := [[], [122], []]) (ys := [[], [122], []]) (get_app hl) new_get okz okz ?_
    rw [decide_eq_true rfl]
    have hL2 : LexT (σ' ++ [AO.list [AV.str [], AV.str [122], AV.str []]]) x [] (1 + text.count 10) [] := hL'.app
    have hR2 : Rest (σ' ++ [AO.list [AV.str [], AV.str [122], AV.str []]]) vs m x.obj dl rs (fun i => outP ls ms links (1 + i) 5) N := hR.mono (fun l ao _ _ e => get_app e) (let ⟨v, e⟩ := hR.c6; ⟨v, get_app e⟩)
    generalize σ' ++ [AO.list [AV.str [], AV.str [122], AV.str []]] = σ2 at *
    repeat walk_at "e"
    refine we_cell (l := 5) (by kernel_rfl) (by walk_at "gc") hR2.c5 ?_ (by decide +kernel)
    refine get_field (fo_line _) hL2.obj hL2.dct (by walk_at "gv") rfl ?_
    repeat walk_at "e"
    refine meth_str (fun t pl A E s Q h => str_count_meth t pl A E s Q h) ?_
    repeat walk_at "e"
    refine ⟨kp_builtin, call_count ?_⟩
    repeat walk_at "e"
    have he : (((1 + text.count 10 : Nat) : Int) - ((([] : List Nat).count 10 : Nat) : Int) == 1 + ((text.count 10 : Nat) : Int)) = true := by
      rw [beq_iff_eq]
      simp
    rw [he]
    repeat walk_at "e"
    exact h σ2 hR2.scr hR2.t1 hR2.t2
end

section
variable {w : World} {mg mb : Str → Option Value} {LM : Nat → Addr → Obj → Prop} {σ : List AO} {lc : Lc} {d : Nat}
theorem law_body {vs : List Value} {m : Obj} {cd : Option (Value × Str)} {k : AV → List AO → Prop} (hB : LBase σ vs m true true) (hz : vs.length ≤ 63) (hv : ∀ v ∈ vs, ∃ i t, v = .int i t)
    (h : ∀ σ', σ'[0]? = some (.raw (scriptO vs m)) → σ'[1]? = some (.tab 1 163 false) → σ'[2]? = some (.tab 2 182 false) → k (.bool true) σ') : WSs (G0 w mg mb LM) (lawC (d + 4) cd) σ lc (bodyOf (stAt 14)) (endOf k) := by
  refine law_sums hB hz hv fun σ1 su sums lc1 hB1 hs5 hs7 hsu g1 => ?_
  refine law_words hB1 hs5 hsu hs7 g1 fun σ2 ll ml sl ls ms fs lc2 hB2 l1 l2 l3 ok mk hloc hll hml hsl g2 g3 g4 => ?_
  refine law_text hB2 l1 l2 ok mk hll hml hsl g2 g3 g4 fun σ3 lk os lc3 hos hpw hB3 hll3 hml3 hlk3 g5 g6 g7 g8 => ?_
  have hlk := lk_ok l1 hos hpw
  generalize lkF (rowD (rowsF ls)) 5 os = links at *
  refine law_due hB3 l1 l2 hlk.len ok mk hlk.top hll3 hml3 hlk3 g5 g6 g7 g8 fun σ4 dl rs T lc4 hT1 hT2 hD hrs g9 g10 => ?_
  refine law_lex (f2 := false) l1 l2 ok mk hD g9 g10 fun σ5 x rest N li lc5 hL hlx hN hNc hR hNl hli g11 g12 g13 => ?_
  refine law_while l1 l2 ok mk hlk hT1 hT2 hL hlx hN hNc hR hNl hli g11 g12 g13 fun σ6 li6 tl ts lines lc6 hS g14 g15 g16 => ?_
  exact law_end l1 ok hrs hN hS (hlk.top T hT2) g14 g15 g16 h
end

end

section
theorem fn_law (P : Params) : FnAtC (KF P) 190 (bodyOf (stAt 14)) (scopeOf (stAt 14)) 189 (Str.ofString "law" ++ ".<locals>.") where
  at_ := ⟨.type "function", none, #[], by kernel_rfl⟩
  body := by kernel_rfl
  scope := by kernel_rfl
  globals := by kernel_rfl
  builtins := by kernel_rfl
  code := by kernel_rfl
  keep := by kernel_rfl
  clos := by kernel_rfl
  cd_ := by kernel_rfl
  ql := by kernel_rfl
theorem bd_law (P : Params) (v : Value) : bindArgs (fdAt (KF P) 190) ⟨[v], []⟩ = pure [(Str.ofString "script", v)] := by kernel_rfl
theorem getG_mem {x : Str} {v : Value} : ∀ {l : List (Str × Value)}, getG x l = some v → (x, v) ∈ l
  | p :: r, h => by
    unfold getG at h
    by_cases q : p.1 = x
    · rw [if_pos q] at h
      cases h; subst q; exact .head _
    · rw [if_neg q] at h
      exact .tail _ (getG_mem h)
theorem frag_mem {a : Addr} {o : Obj} : ∀ {l : Frag}, l.lookup a = some o → (a, o) ∈ l
  | [], h => nomatch h
  | p :: r, h => by
    obtain ⟨b, ob⟩ := p
    rw [List.lookup_cons] at h
    cases q : a == b with
    | true =>
      rw [q] at h
      cases h
      rw [beq_iff_eq.mp q]; exact .head _
    | false =>
      rw [q] at h
      exact .tail _ (frag_mem h)
noncomputable def smallB (n : Nat) (l : Frag) : Bool := l.all fun p => Nat.blt p.1 n
noncomputable def noListB (l : Frag) : Bool := l.all fun p => match p.2.cls with | .type n => n != "list" | _ => true
theorem low_K (P : Params) {a : Addr} {o : Obj} (e : (KF P).lookup a = some o) : a < 191 := by
  have h : smallB 191 (KF P) = true := by kernel_rfl
  have := List.all_eq_true.mp h _ (frag_mem e)
  exact Nat.blt_eq.mp this
theorem list_K (P : Params) {a : Addr} {o : Obj} (e : (KF P).lookup a = some o) : o.cls ≠ .type "list" := by
  have h : noListB (KF P) = true := by kernel_rfl
  have := List.all_eq_true.mp h _ (frag_mem e)
  intro q
  simp [q] at this
theorem hid_get {h : Heap} {sa b : Addr} {o m : Obj} {vs : Array Value} {n : Nat} (e : h.get? b = some o) (hm : h.get? sa = some m) (hdt : m.data = .seq vs n) (h1 : h.get? 182 = some (tabObj #[])) (h2 : h.get? 163 = some (tabObj #[]))
    (hn : (∀ vs n, o.data ≠ .seq vs n) ∧ ∀ vs, o.data ≠ .fields vs) : (hideAll h [sa, 182, 163]).get? b = some o := by
  refine hideAll_get _ e fun q => ?_
  simp only [List.mem_cons, List.not_mem_nil, or_false] at q
  rcases q with rfl | rfl | rfl
  · rw [hm] at e; cases e; exact hn.1 _ _ hdt
  · rw [h1] at e; cases e; exact hn.2 _ rfl
  · rw [h2] at e; cases e; exact hn.2 _ rfl
theorem names_top {p : Program} {loose : List Str} {mean : ExcName → Option Value} {mg mb : Str → Option Value} {h : Heap} {P : Params} (T : Top p loose mean mg mb h) (KX : (KF P).In h) : ∀ q ∈ gtab, mg q.1 = some q.2 ∨ (mg q.1 = none ∧ mb q.1 = some q.2) := by
  have hb : ∀ {x : Str} {v : Value}, nsIn (KF P) mainGlobals x = some none → x ≠ "__name__" → bootBuiltins x = some v → mg x = some v ∨ (mg x = none ∧ mb x = some v) := fun e n z => .inr ⟨mg_none_of KX (Top.g T) e, (Top.builtins T _ n).trans z⟩
  have hg : ∀ {x : Str} {v : Value}, nsIn (KF P) mainGlobals x = some (some v) → mg x = some v ∨ (mg x = none ∧ mb x = some v) := fun e => .inl (mg_of KX (Top.g T) e)
  unfold gtab
  repeat' (with_reducible refine List.forall_mem_cons.mpr ⟨?_, ?_⟩)
  · exact hb (by kernel_rfl) (by decide +kernel) (by decide +kernel)
  · exact hg (by kernel_rfl)
  · exact hb (by kernel_rfl) (by decide +kernel) (by decide +kernel)
  · exact hb (by kernel_rfl) (by decide +kernel) (by decide +kernel)
  · exact hb (by kernel_rfl) (by decide +kernel) (by decide +kernel)
  · exact hb (by kernel_rfl) (by decide +kernel) (by decide +kernel)
  · exact hb (by kernel_rfl) (by decide +kernel) (by decide +kernel)
  · exact hb (by kernel_rfl) (by decide +kernel) (by decide +kernel)
  · exact hb (by kernel_rfl) (by decide +kernel) (by decide +kernel)
  · exact hb (by kernel_rfl) (by decide +kernel) (by decide +kernel)
  · exact hb (by kernel_rfl) (by decide +kernel) (by decide +kernel)
  · exact hb (by kernel_rfl) (by decide +kernel) (by decide +kernel)
  · exact hg (by kernel_rfl)
  · exact hg (by kernel_rfl)
  · exact hg (by kernel_rfl)
  · exact hg (by kernel_rfl)
  · exact hg (by kernel_rfl)
  · exact hg (by kernel_rfl)
  · exact fun _ z => absurd z List.not_mem_nil
theorem top_frame {w : World} {mg mb : Str → Option Value} {LM : Nat → Addr → Obj → Prop} {h : Heap} {p : Program} {loose : List Str} {mean : ExcName → Option Value} {sa : Addr} {m : Obj} {vs : Array Value} {n : Nat} (T : Top p loose mean mg mb h) (KX : (KF w.params).In h)
    (hm : h.get? sa = some m) (hcl : m.cls = .type "list") (hdt : m.data = .seq vs n) (h1 : h.get? 182 = some (tabObj #[])) (h2 : h.get? 163 = some (tabObj #[])) : TopF (G0 w mg mb LM) (hideAll h [sa, 182, 163]) where
  kin := fun a o e => hideAll_get _ (KX a o e) fun q => by
    simp only [List.mem_cons, List.not_mem_nil, or_false] at q
    rcases q with rfl | rfl | rfl
    · have := KX _ _ e
      rw [hm] at this; cases this; exact list_K w.params e hcl
    · have z : (KF w.params).lookup 182 = none := by kernel_rfl
      rw [show (G0 w mg mb LM).K.lookup 182 = (KF w.params).lookup 182 from rfl, z] at e; cases e
    · have z : (KF w.params).lookup 163 = none := by kernel_rfl
      rw [show (G0 w mg mb LM).K.lookup 163 = (KF w.params).lookup 163 from rfl, z] at e; cases e
  gl := (Top.g T).at' fun o e => hid_get e hm hdt h1 h2 (by
    obtain ⟨o', es, ep, ho, hd', _⟩ := Top.g T
    rw [e] at ho; cases ho
    exact ⟨fun _ _ z => (by rw [hd'] at z; cases z), fun _ z => (by rw [hd'] at z; cases z)⟩)
  bi := (Top.b T).at' fun o e => hid_get e hm hdt h1 h2 (by
    obtain ⟨o', es, ep, ho, hd', _⟩ := Top.b T
    rw [e] at ho; cases ho
    exact ⟨fun _ _ z => (by rw [hd'] at z; cases z), fun _ z => (by rw [hd'] at z; cases z)⟩)
  nolimit := (Top.nolimit T).at fun o e => hid_get e hm hdt h1 h2 (by
    obtain ⟨mc, ⟨o', es, ep, ho, hd', _⟩, _⟩ := Top.nolimit T
    rw [e] at ho; cases ho
    exact ⟨fun _ _ z => (by rw [hd'] at z; cases z), fun _ z => (by rw [hd'] at z; cases z)⟩)
  names := fun x v e => names_top T KX (x, v) (getG_mem e)
  low := fun a o e => low_K w.params e
  bm := by
    obtain ⟨bm, ob, z1, z2, z3, z4, z5, z6⟩ := Top.bmain T
    exact ⟨bm, ob, z1, z2, hid_get z3 hm hdt h1 h2 ⟨fun _ _ z => (by rw [z6] at z; cases z), fun _ z => (by rw [z6] at z; cases z)⟩, z4, z5, z6⟩
noncomputable abbrev cellsL : List (Str × Option AV) := [(Str.ofString "script", some (.ref 0)), (Str.ofString "heap", none), (Str.ofString "lexer", none), (Str.ofString "indent", none)]
theorem top_law {w : World} {mg mb : Str → Option Value} {LM : Nat → Addr → Obj → Prop} {A : Around} {base : Heap} {s : Shared} {sa : Addr} {vs : List Value} {m : Obj} {n : Nat} {R : Result → Shared → Prop}
    (Rm : Room 5 A) (T : TopF (G0 w mg mb LM) base) (hb : ∀ b o, base.get? b = some o → s.heap.get? b = some o) (hfr : ∀ a ∈ [sa, 163, 182], base.get? a = none)
    (hm : s.heap.get? sa = some m) (hcl : m.cls = .type "list") (hdt : m.data = .seq vs.toArray n) (ht1 : s.heap.get? 163 = some (tabObj #[])) (ht2 : s.heap.get? 182 = some (tabObj #[]))
    (hz : vs.length ≤ 63) (hv : ∀ v ∈ vs, ∃ i t, v = .int i t)
    (h : ∀ h' tk, (∀ b o, base.get? b = some o → h'.get? b = some o) → h'.get? sa = some m → GrownAt 163 h' → GrownAt 182 h' → R (.ok (.ret (.bool true))) { s with heap := h', toks := tk }) :
    codeAny (MM (G0 w mg mb LM)) A (.call (.ref 190) ⟨[.ref sa], []⟩) R s := by
  have T' := T.keeps hb
  have ok := fn_law w.params
  obtain ⟨oc, od, osl, hK⟩ := ok.at_
  have n1 : sa ≠ 163 := fun q => by rw [q, ht1] at hm; cases hm; cases hcl
  have n2 : sa ≠ 182 := fun q => by rw [q, ht2] at hm; cases hm; cases hcl
  refine codeAny_call_cells (fd := fdAt (KF w.params) 190) (body := bodyOf (stAt 14)) (binds := [(Str.ofString "script", .ref sa)]) (by have := Rm.depth; show A.depth < 1000; omega) (T'.kin _ _ hK) rfl T'.nolimit (codeRec_of T'.kin ok.code) ok.body (bd_law _ _) ok.clos
    (fun x hx => by
      rw [ok.scope]
      have : x = (Str.ofString "script", .ref sa) := by simpa using hx
      subst this
      exact .inr ⟨by kernel_rfl, by kernel_rfl⟩) (fun s₁ hx => ?_) (by rw [ok.scope]; kernel_rfl) (by rw [ok.scope]; kernel_rfl) (by rw [ok.scope]; kernel_rfl)
  have eko : (callEnvC (fdAt (KF w.params) 190) s.heap.objs.size 190).kindOf = fun n => (scopeOf (stAt 14)).names.lookup n := by
    funext n
    show (fdAt (KF w.params) 190).scope.names.lookup n = _
    rw [ok.scope]
  rw [eko] at hx
  obtain ⟨h₁, tk₁, rfl⟩ := hx.toInCall.same
  have hk₁ := hx.toInCall.keep
  have hL : 191 ≤ s.heap.objs.size := Heap.lt_size (T'.kin _ _ hK)
  have lt0 : ∀ a ∈ [sa, 163, 182], Nat.lt a s.heap.objs.size := by
    refine List.forall_mem_cons.mpr ⟨Heap.lt_size hm, List.forall_mem_cons.mpr ⟨Heap.lt_size ht1, List.forall_mem_cons.mpr ⟨Heap.lt_size ht2, fun _ z => nomatch z⟩⟩⟩
  have S₁ : St LM base s.heap.objs.size [sa, 163, 182] [.raw (scriptO vs m), .tab 1 163 true, .tab 2 182 true] [] h₁ := by
    refine ⟨fun b o e => hk₁ b o (hb b o e), ?_, hL, ⟨_, hx.toInCall.ns, fun x u e => nomatch e⟩, rfl, fun a ha => ⟨hfr a ha, Nat.ne_of_lt (lt0 a ha)⟩, ?_, ?_⟩
    · cases q : base.get? s.heap.objs.size with
      | none => rfl
      | some o => exact absurd (Heap.lt_size (hb _ _ q)) (Nat.lt_irrefl _)
    · intro l a ao ea e
      match l with
      | 0 => cases ea; cases e; exact ⟨m, hk₁ _ _ hm, rfl, hcl, n, hdt⟩
      | 1 => cases ea; cases e; exact ⟨_, hk₁ _ _ ht1, rfl, #[], rfl, trivial, fun _ => rfl⟩
      | 2 => cases ea; cases e; exact ⟨_, hk₁ _ _ ht2, rfl, #[], rfl, trivial, fun _ => rfl⟩
      | l + 3 => cases ea
    · exact List.nodup_cons.mpr ⟨by simp [n1, n2], by decide⟩
  obtain ⟨bs, S₂, C₂⟩ := cells_more (clos := (callEnvC (fdAt (KF w.params) 190) s.heap.objs.size 190).cells) hx.cell cellsL [sa, 163, 182] _ (s.heap.objs.size + 1) S₁ (fun i p e => by
      show (cellsFrom (s.heap.objs.size + 1) (fdAt (KF w.params) 190).scope.names []).lookup p.1 = _
      rw [ok.scope]
      match i with
      | 0 => cases e; kernel_rfl
      | 1 => cases e; kernel_rfl
      | 2 => cases e; kernel_rfl
      | 3 => cases e; kernel_rfl
      | i + 4 => cases e) (by
      refine List.forall_mem_cons.mpr ⟨⟨.ref sa, by kernel_rfl, sa, rfl, rfl⟩, List.forall_mem_cons.mpr ⟨?_, List.forall_mem_cons.mpr ⟨?_, List.forall_mem_cons.mpr ⟨?_, fun _ z => nomatch z⟩⟩⟩⟩
      · show bindC _ _ _ _ = none
        kernel_rfl
      · show bindC _ _ _ _ = none
        kernel_rfl
      · show bindC _ _ _ _ = none
        kernel_rfl) (fun a ha => Nat.lt_succ_of_lt (lt0 a ha)) (fun b hb' => ⟨Nat.ne_of_gt hb', by
        cases q : base.get? b with
        | none => rfl
        | some o => exact absurd (Heap.lt_size (hb _ _ q)) (Nat.not_lt.mpr (Nat.le_of_succ_le hb'))⟩)
  have B : LBase ([.raw (scriptO vs m), .tab 1 163 true, .tab 2 182 true] ++ cellObjs cellsL) vs m true true := ⟨rfl, rfl, rfl, rfl, ⟨_, rfl⟩, ⟨_, rfl⟩, ⟨_, rfl⟩⟩
  have body := law_body (w := w) (mg := mg) (mb := mb) (LM := LM) (lc := []) (d := 0) (cd := some (.ref 189, Str.ofString "law" ++ ".<locals>.")) (k := fun v σ' => v = .bool true ∧ σ'[0]? = some (.raw (scriptO vs m)) ∧ σ'[1]? = some (.tab 1 163 false) ∧ σ'[2]? = some (.tab 2 182 false)) B hz hv (fun σ' a b c => ⟨rfl, a, b, c⟩)
  refine body (A.deeper _) (callEnvC (fdAt (KF w.params) 190) s.heap.objs.size 190) base s.heap.objs.size ([sa, 163, 182] ++ bs) { s with heap := h₁, toks := tk₁ } (Rm.deeper _) ⟨ok.scope, by kernel_rfl, rfl, C₂, ok.globals, ok.builtins, fun v q' e => by cases e; exact ⟨ok.cd_, ok.ql⟩⟩ T S₂ _ _ fun h' tk bs' f f' σ' lc' hk' S' rf => ?_
  have fin : ∀ v', (σ'[0]? = some (.raw (scriptO vs m)) ∧ σ'[1]? = some (.tab 1 163 false) ∧ σ'[2]? = some (.tab 2 182 false)) → v' = Value.bool true → R (.ok (.ret v')) { s with heap := h', toks := tk } := fun v' ⟨a, b, c⟩ z => by
    subst z
    refine h h' tk S'.keep ?_ ?_ ?_
    · obtain ⟨o, ho, rfl, _⟩ := S'.obj 0 sa _ rfl a
      exact ho
    · obtain ⟨o, ho, _, ps, rfl, _⟩ := S'.obj 1 163 _ rfl b
      exact ⟨ps, ho⟩
    · obtain ⟨o, ho, _, ps, rfl, _⟩ := S'.obj 2 182 _ rfl c
      exact ⟨ps, ho⟩
  cases f with
  | ret v =>
    obtain ⟨v', rfl, rv'⟩ := rf
    obtain ⟨rfl, hr⟩ := hk'
    exact fin v' hr rv'
  | next => cases rf; cases hk'.1
  | brk => exact hk'.elim
  | cont => exact hk'.elim
theorem ints_mem {vs : List Value} {ns : List Int} (h : IntsAre vs ns) : ∀ v ∈ vs, ∃ i t, v = .int i t := by
  induction h with
  | nil => exact fun _ z => nomatch z
  | cons n t r ih => exact List.forall_mem_cons.mpr ⟨⟨n, t, rfl⟩, ih⟩
end

end Mine
end

section
namespace Mine
theorem top_row : PySem.Challenge.rw_rl0078_01.Holds := by
  refine hd ?_
  intro w s₀ s₁ mg mb G Y fa o pm cd doc dV kV ho hdd hcd hD hmg hg args vals as hpre hlay hrd hwl hlo
  have KX := km_in_of Y
  have KT := km_tabs_of Y
  refine Ground.open G ?_
  intro T B D TE TW
  clear D TE TW B
  have e1 : mg (Str.ofString "law") = some (.ref 190) := mg_of (n := Str.ofString "law") KX (Top.g T) (v := .ref 190) (by kernel_rfl)
  have hfa : fa = 190 := by
    have e2 : mg (Str.ofString "law") = some (.ref fa) := hmg
    rw [e1] at e2
    cases e2
    rfl
  subst hfa
  clear hdd hcd ho hD hmg
  have c1 : s₁.heap.get? 182 = some (tabObj #[]) := KT _ (by decide)
  have c2 : s₁.heap.get? 163 = some (tabObj #[]) := KT _ (by decide)
  have hT9 : TabsAt [(184, 182), (167, 163)] s₁.heap := List.forall_mem_cons.mpr ⟨⟨codeHd_of_K (c := 184) (P := 182) KX (by kernel_rfl), c1⟩, List.forall_mem_cons.mpr ⟨⟨codeHd_of_K (c := 167) (P := 163) KX (by kernel_rfl), c2⟩, fun _ z => nomatch z⟩⟩
  clear KT Y
  wrow_args hpre hlay hrd hwl hlo
  rename_i ns _ _ _ _ _ _ _ sa vs _ hL _ _ _ hI _ hlen _
  have hvl : vs.length = ns.length := IntsAre.length hI
  have hz : vs.length ≤ 63 := by omega
  have hv : ∀ v ∈ vs, ∃ i t, v = .int i t := ints_mem hI
  obtain ⟨m, hm, hcl, n, hdt⟩ := hL
  refine enter_call ?_
  refine kn_post (tabs := [(184, 182), (167, 163)]) hT9 (fun _ _ => rfl) ?_
  refine top_law (LM := fun _ _ _ => False) (base := hideAll s₁.heap [sa, 182, 163]) ⟨rfl, by decide, by decide⟩ (top_frame T KX hm hcl hdt c1 c2) (fun b o e => of_hideAll _ e) (fun a ha => hideAll_none _ (by simpa [or_comm] using ha)) hm hcl hdt c2 c1 hz hv ?_
  intro h' tk hk hsa g1 g2
  refine ⟨⟨.inl ⟨.bool true, .bool true, [], rfl, raisesW_false ?_, .bool true, ?_, unshared_nil⟩, ?_, rfl, hg⟩, g2, g1, trivial⟩
  · wrow_none_raised
  · wrow_post
  · intro b o e
    by_cases q : b = sa
    · subst q
      have := of_hideAll _ e
      rw [hm] at this
      cases this
      exact hsa
    · refine hk b o (hideAll_get _ (of_hideAll _ e) fun z => ?_)
      rcases List.mem_cons.mp z with z | z
      · exact q z
      · rw [show (ghostOf s₁.heap [(184, 182), (167, 163)]).get? b = none from hideAll_none _ z] at e
        cases e
end Mine
end

theorem PySem.Challenge.cw_rl0078_01_holds : PySem.Challenge.rw_rl0078_01.Holds := by
  exact Mine.top_row
