import PyProof.Rows.All
import Wide.All
import OpenK.AllK
import Wide.FinOn
import KE.KDictOf
import Lean
import PySem.Challenge.RW_ft5022_01
set_option Elab.async false
section
open PySem PySem.W PyProof.Rows
set_option maxRecDepth 10000
namespace Mine

abbrev ZP := Addr → Obj → Prop

mutual
inductive VD (Z : ZP) : Value → PyData → Prop
  | none : VD Z .none .none
  | bool (b : Bool) : VD Z (.bool b) (.bool b)
  | int (i : Int) (t : Tok) : VD Z (.int i t) (.int i)
  | list {a : Addr} {o : Obj} {vs : Array Value} {n : Nat} {xs : List PyData} : Z a o → o.cls = .type "list" → o.data = .seq vs n → VDs Z vs.toList xs → VD Z (.ref a) (.list xs)
  | tuple {a : Addr} {o : Obj} {vs : Array Value} {n : Nat} {xs : List PyData} : Z a o → o.cls = .type "tuple" → o.data = .seq vs n → VDs Z vs.toList xs → VD Z (.ref a) (.tuple xs)
inductive VDs (Z : ZP) : List Value → List PyData → Prop
  | nil : VDs Z [] []
  | cons {v : Value} {vs : List Value} {d : PyData} {ds : List PyData} : VD Z v d → VDs Z vs ds → VDs Z (v :: vs) (d :: ds)
end

def ZSub (Z Z' : ZP) : Prop := ∀ a o, Z a o → Z' a o
theorem ZSub.refl (Z : ZP) : ZSub Z Z := fun _ _ h => h
theorem ZSub.trans {Z Z' Z'' : ZP} (x : ZSub Z Z') (y : ZSub Z' Z'') : ZSub Z Z'' := fun a o h => y a o (x a o h)

mutual
theorem VD.mono {Z Z' : ZP} (hz : ZSub Z Z') : ∀ {v d}, VD Z v d → VD Z' v d
  | _, _, .none => .none
  | _, _, .bool b => .bool b
  | _, _, .int i t => .int i t
  | _, _, .list ha hc hd hs => .list (hz _ _ ha) hc hd (VDs.mono hz hs)
  | _, _, .tuple ha hc hd hs => .tuple (hz _ _ ha) hc hd (VDs.mono hz hs)
theorem VDs.mono {Z Z' : ZP} (hz : ZSub Z Z') : ∀ {vs ds}, VDs Z vs ds → VDs Z' vs ds
  | _, _, .nil => .nil
  | _, _, .cons h hs => .cons (VD.mono hz h) (VDs.mono hz hs)
end

mutual
theorem VD.reads {Z : ZP} {h : Heap} (hz : ∀ a o, Z a o → h.get? a = some o) : ∀ {v d}, VD Z v d → ∃ as, Reads h v d as
  | _, _, .none => ⟨_, .none⟩
  | _, _, .bool b => ⟨_, .bool b⟩
  | _, _, .int i t => ⟨_, .int i t⟩
  | _, _, .list ha hc hd hs => let ⟨_, r⟩ := VDs.reads hz hs; ⟨_, .list (hz _ _ ha) hc hd r⟩
  | _, _, .tuple ha hc hd hs => let ⟨_, r⟩ := VDs.reads hz hs; ⟨_, .tuple (hz _ _ ha) hc hd r⟩
theorem VDs.reads {Z : ZP} {h : Heap} (hz : ∀ a o, Z a o → h.get? a = some o) : ∀ {vs ds}, VDs Z vs ds → ∃ as, ReadsAll h vs ds as
  | _, _, .nil => ⟨_, .nil⟩
  | _, _, .cons h hs => let ⟨_, r⟩ := VD.reads hz h; let ⟨_, rs⟩ := VDs.reads hz hs; ⟨_, .cons r rs⟩
end

mutual
theorem VD.canLay0 {Z : ZP} : ∀ {v d}, VD Z v d → d.canLay0 = true
  | _, _, .none => rfl
  | _, _, .bool b => rfl
  | _, _, .int i t => rfl
  | _, _, .list _ _ _ hs => by rw [PyData.canLay0]; exact VDs.canLay0 hs
  | _, _, .tuple _ _ _ hs => by rw [PyData.canLay0]; exact VDs.canLay0 hs
theorem VDs.canLay0 {Z : ZP} : ∀ {vs ds}, VDs Z vs ds → PyData.canLayAll0 ds = true
  | _, _, .nil => rfl
  | _, _, .cons h hs => by rw [PyData.canLayAll0, VD.canLay0 h, VDs.canLay0 hs]; rfl
end

theorem VDs.length {Z : ZP} : ∀ {vs ds}, VDs Z vs ds → vs.length = ds.length
  | _, _, .nil => rfl
  | _, _, .cons _ hs => by rw [List.length_cons, List.length_cons, VDs.length hs]
theorem VDs.get {Z : ZP} : ∀ {vs ds} {i : Nat} {d}, VDs Z vs ds → ds[i]? = some d → ∃ v, vs[i]? = some v ∧ VD Z v d
  | _, _, _, _, .nil, e => by simp at e
  | _, _, 0, _, .cons h _, e => by simp only [List.getElem?_cons_zero, Option.some.injEq] at e; subst e; exact ⟨_, rfl, h⟩
  | _, _, i + 1, _, .cons _ hs, e => by
    rw [List.getElem?_cons_succ] at e
    obtain ⟨v, h1, h2⟩ := VDs.get hs e
    exact ⟨v, by rw [List.getElem?_cons_succ]; exact h1, h2⟩
theorem VDs.append {Z : ZP} : ∀ {vs ds vs' ds'}, VDs Z vs ds → VDs Z vs' ds' → VDs Z (vs ++ vs') (ds ++ ds')
  | _, _, _, _, .nil, h => h
  | _, _, _, _, .cons h hs, h' => .cons h (VDs.append hs h')
theorem VDs.take {Z : ZP} : ∀ {vs ds} (n : Nat), VDs Z vs ds → VDs Z (vs.take n) (ds.take n)
  | _, _, 0, _ => by simp only [List.take_zero]; exact .nil
  | _, _, _ + 1, .nil => .nil
  | _, _, n + 1, .cons h hs => by simp only [List.take_succ_cons]; exact .cons h (VDs.take n hs)
theorem VDs.set {Z : ZP} : ∀ {vs ds} (n : Nat) {v d}, VDs Z vs ds → VD Z v d → VDs Z (vs.set n v) (ds.set n d)
  | _, _, _, _, _, .nil, _ => .nil
  | _, _, 0, _, _, .cons _ hs, h => .cons h hs
  | _, _, n + 1, _, _, .cons h0 hs, h => .cons h0 (VDs.set n hs h)

/-- pure values -/
inductive PV where
  | d (x : PyData)
  | ref (k : Nat)
  | rng (a b c : Int)

/-- store objects -/
inductive PO where
  | list (xs : List PyData)
  | dict (es : List (Int × PV))
  | set (xs : List Int)
  | bag (xs : List Int)
  | inst (cls : Addr) (k : Nat)
  | attrs (es : List (Str × PV))
  | dead

abbrev Store := List PO

def VR (Z : ZP) (ρ : List Addr) : PV → Value → Prop
  | .d x, v => VD Z v x
  | .ref k, v => ∃ a, ρ[k]? = some a ∧ v = .ref a
  | .rng a b c, v => ∃ r t u w, v = .ref r ∧ Z r { cls := .type "range", dict := none, data := .fields #[.int a t, .int b u, .int c w], slots := #[] }

theorem VR.mono {Z Z' : ZP} {ρ l : List Addr} (hz : ZSub Z Z') {pv v} (h : VR Z ρ pv v) : VR Z' (ρ ++ l) pv v := by
  cases pv with
  | d x => exact VD.mono hz h
  | ref k =>
    obtain ⟨a, e, rfl⟩ := h
    obtain ⟨hk, _⟩ := List.getElem?_eq_some_iff.mp e
    exact ⟨a, by rw [List.getElem?_append_left hk]; exact e, rfl⟩
  | rng a b c => obtain ⟨r, t, u, w, e, z⟩ := h; exact ⟨r, t, u, w, e, hz _ _ z⟩

inductive All2 {α β : Type} (R : α → β → Prop) : List α → List β → Prop
  | nil : All2 R [] []
  | cons {a b as bs} : R a b → All2 R as bs → All2 R (a :: as) (b :: bs)
theorem All2.mono {α β : Type} {R S : α → β → Prop} (h : ∀ a b, R a b → S a b) : ∀ {as bs}, All2 R as bs → All2 S as bs
  | _, _, .nil => .nil
  | _, _, .cons x xs => .cons (h _ _ x) (All2.mono h xs)
theorem All2.length {α β : Type} {R : α → β → Prop} : ∀ {as bs}, All2 R as bs → as.length = bs.length
  | _, _, .nil => rfl
  | _, _, .cons _ xs => by rw [List.length_cons, List.length_cons, All2.length xs]
theorem All2.append {α β : Type} {R : α → β → Prop} : ∀ {as bs as' bs'}, All2 R as bs → All2 R as' bs' → All2 R (as ++ as') (bs ++ bs')
  | _, _, _, _, .nil, h => h
  | _, _, _, _, .cons x xs, h => .cons x (All2.append xs h)
theorem All2.vds {Z : ZP} {ρ : List Addr} : ∀ {xs : List PyData} {vs : List Value}, All2 (VR Z ρ) (xs.map .d) vs → VDs Z vs xs
  | [], _, .nil => .nil
  | _ :: _, _, .cons x xs => .cons x (All2.vds xs)
theorem VDs.all2 {Z : ZP} {ρ : List Addr} : ∀ {vs : List Value} {xs : List PyData}, VDs Z vs xs → All2 (VR Z ρ) (xs.map .d) vs
  | _, _, .nil => .nil
  | _, _, .cons x xs => .cons x (VDs.all2 xs)

/-- the table of a set of ints below 5, made by a display and by add alone -/
def tabS (led : Bool) (xs : List Int) : SetTable :=
  { mask := if xs.length < 5 then 7 else 31, place := (xs.map Int.toNat).toArray, dummies := #[], finger := 0, led, moves := if xs.length < 5 then 0 else 1, plain := true }
def EntI (es : List (Int × Value)) (xs : List Int) : Prop := ∃ ts : List Tok, es = (xs.zip ts).map (fun p => (p.1, Value.int p.1 p.2)) ∧ ts.length = xs.length
def Rise (xs : List Int) : Prop := xs.Pairwise (· < ·) ∧ ∀ x ∈ xs, 0 ≤ x ∧ x < 5
def SetAt (w : World) (h : Heap) (a : Addr) (xs : List Int) : Prop :=
  ∃ es ep, h.get? a = some { cls := .type "set", data := .set es ep (tabS (!w.params.followText "set-order") xs) } ∧ EntI es.toList xs ∧ Rise xs
/-- a set that is never gone through: made by set() -/
def BagAt (prog : Program) (w : World) (h : Heap) (a : Addr) (xs : List Int) : Prop :=
  (xs = [] → ∃ ep led, h.get? a = some { cls := .type "set", data := .set #[] ep (.fresh 0 0 led) }) ∧ ((∀ x ∈ xs, 0 ≤ x ∧ x < 5) ∧ xs.Nodup) ∧ h.SetOf (intKind prog w) a (fun k => xs.contains k) xs.length

section
variable (prog : Program) (w : World)

def OR (Z : ZP) (ρ : List Addr) (h : Heap) (a : Addr) : PO → Prop
  | .list xs => ∃ vs : List Value, h.PlainList a vs.toArray ∧ VDs Z vs xs
  | .dict es => a ≠ sysModules ∧ ∃ vs : List Value, h.DictOf (intKind prog w) a ((es.map (·.1)).zip vs) ∧ All2 (VR Z ρ) (es.map (·.2)) vs
  | .set xs => SetAt w h a xs
  | .bag xs => BagAt prog w h a xs
  | .inst C k => ∃ d, ρ[k]? = some d ∧ h.get? a = some { cls := .ref C, dict := some d }
  | .attrs es => ∃ o, h.get? a = some o ∧ (∀ x pv, es.lookup x = some pv → ∃ v, lookIn x o = some (some v) ∧ VR Z ρ pv v) ∧ (∀ x, es.lookup x = none → lookIn x o = some none) ∧ ∃ ds n, o = dictOf ds n ∧ ds.length ≤ es.length
  | .dead => ∃ o, h.get? a = some o
end

end Mine
end
section
open PySem PySem.W PyProof.Rows
set_option maxRecDepth 10000
namespace Mine

structure Frm where
  loc : List (Str × PV)
  cel : List (Str × PV)
  ro : List Str := []

inductive Fl where
  | nxt
  | brk
  | cnt
  | ret (v : PV)

def FlR (Z : ZP) (ρ : List Addr) : Fl → Flow → Prop
  | .nxt, f => f = .next
  | .brk, f => f = .brk
  | .cnt, f => f = .cont
  | .ret pv, f => ∃ v, f = .ret v ∧ VR Z ρ pv v

def Sh (s s' : Shared) : Prop := s'.os = s.os ∧ ∃ l : List GenState, s'.gens.toList = s.gens.toList ++ l ∧ ∀ y ∈ l, y.bare = true
theorem Sh.refl (s : Shared) : Sh s s := ⟨rfl, [], by simp, fun _ h => nomatch h⟩
theorem Sh.trans {s s' s'' : Shared} (x : Sh s s') (y : Sh s' s'') : Sh s s'' := by
  obtain ⟨o1, l1, e1, b1⟩ := x
  obtain ⟨o2, l2, e2, b2⟩ := y
  refine ⟨o2.trans o1, l1 ++ l2, by rw [e2, e1, List.append_assoc], fun y hy => ?_⟩
  rcases List.mem_append.mp hy with h | h
  · exact b1 y h
  · exact b2 y h
theorem Sh.heap {s : Shared} (h : Heap) (t : Nat) : Sh s { s with heap := h, toks := t } := ⟨rfl, [], by simp, fun _ h => nomatch h⟩

theorem nodup_at {α : Type} : ∀ {l : List α} {i j : Nat} {a : α}, l.Nodup → l[i]? = some a → l[j]? = some a → i = j
  | [], _, _, _, _, h, _ => by simp at h
  | _ :: _, 0, 0, _, _, _, _ => rfl
  | x :: l, 0, j + 1, a, n, h, h' => by
    simp only [List.getElem?_cons_zero, Option.some.injEq] at h
    rw [List.getElem?_cons_succ] at h'
    exact absurd (List.mem_of_getElem? h') (h ▸ (List.nodup_cons.mp n).1)
  | x :: l, i + 1, 0, a, n, h, h' => by
    simp only [List.getElem?_cons_zero, Option.some.injEq] at h'
    rw [List.getElem?_cons_succ] at h
    exact absurd (List.mem_of_getElem? h) (h' ▸ (List.nodup_cons.mp n).1)
  | x :: l, i + 1, j + 1, a, n, h, h' => by
    rw [List.getElem?_cons_succ] at h h'
    rw [nodup_at (List.nodup_cons.mp n).2 h h']

section
variable (prog : Program) (w : World) (h₀ : Heap)

structure Base (Z : ZP) (ρ : List Addr) (σ : Store) (s : Shared) : Prop where
  keep : ∀ b o, Z b o → s.heap.get? b = some o
  old : ∀ b o, h₀.get? b = some o → Z b o
  len : ρ.length = σ.length
  objs : ∀ (k : Nat) (a : Addr) (po : PO), ρ[k]? = some a → σ[k]? = some po → OR prog w Z ρ s.heap a po
  zr : ∀ (k : Nat) (a : Addr) (po : PO), ρ[k]? = some a → σ[k]? = some po → po ≠ .dead → ∀ o, ¬ Z a o
  nd : ρ.Nodup
end

section
variable {prog : Program} {w : World} {h₀ : Heap}

theorem OR.alive {Z : ZP} {ρ : List Addr} {h : Heap} {a : Addr} {po : PO} (x : OR prog w Z ρ h a po) : ∃ o, h.get? a = some o := by
  cases po with
  | list xs => obtain ⟨vs, ⟨n, e⟩, _⟩ := x; exact ⟨_, e⟩
  | dict es => obtain ⟨_, vs, ⟨o, _, _, e, _⟩, _⟩ := x; exact ⟨_, e⟩
  | set xs => obtain ⟨_, _, e, _⟩ := x; exact ⟨_, e⟩
  | bag xs => obtain ⟨_, _, ⟨o, _, _, _, e, _⟩⟩ := x; exact ⟨_, e⟩
  | inst C k => obtain ⟨d, _, e⟩ := x; exact ⟨_, e⟩
  | attrs es => obtain ⟨o, e, _⟩ := x; exact ⟨_, e⟩
  | dead => exact x

theorem OR.keeps {Z Z' : ZP} {ρ l : List Addr} {h h' : Heap} {a : Addr} {po : PO} (x : OR prog w Z ρ h a po) (hz : ZSub Z Z') (hk : ∀ o, h.get? a = some o → h'.get? a = some o) :
    OR prog w Z' (ρ ++ l) h' a po := by
  cases po with
  | list xs => obtain ⟨vs, ⟨n, e⟩, r⟩ := x; exact ⟨vs, ⟨n, hk _ e⟩, VDs.mono hz r⟩
  | dict es => obtain ⟨hs, vs, ⟨o, e1, e2, e, r⟩, r'⟩ := x; exact ⟨hs, vs, ⟨o, e1, e2, hk _ e, r⟩, r'.mono fun _ _ q => VR.mono hz q⟩
  | set xs => obtain ⟨es, ep, e, r⟩ := x; exact ⟨es, ep, hk _ e, r⟩
  | bag xs => obtain ⟨h1, h2, ⟨o, e1, e2, e3, e, r⟩⟩ := x; exact ⟨fun q => let ⟨ep, led, z⟩ := h1 q; ⟨ep, led, hk _ z⟩, h2, ⟨o, e1, e2, e3, hk _ e, r⟩⟩
  | inst C k =>
    obtain ⟨d, e1, e⟩ := x
    obtain ⟨hl, _⟩ := List.getElem?_eq_some_iff.mp e1
    exact ⟨d, by rw [List.getElem?_append_left hl]; exact e1, hk _ e⟩
  | attrs es =>
    obtain ⟨o, e, r', r''⟩ := x
    exact ⟨o, hk _ e, fun x pv q => let ⟨v, a1, a2⟩ := r' x pv q; ⟨v, a1, VR.mono hz a2⟩, r''⟩
  | dead => obtain ⟨o, e⟩ := x; exact ⟨o, hk _ e⟩

variable {Z Z' Z'' : ZP} {ρ ρ' ρ'' : List Addr} {σ σ' σ'' : Store} {s s' s'' : Shared} {X Y : List Addr}

theorem Base.alive (B : Base prog w h₀ Z ρ σ s) {a : Addr} (h : a ∈ ρ) : ∃ o, s.heap.get? a = some o := by
  obtain ⟨k, hk⟩ := List.getElem?_of_mem h
  have hk' := hk
  obtain ⟨hl, _⟩ := List.getElem?_eq_some_iff.mp hk
  have : k < σ.length := by rw [← B.len]; exact hl
  exact (B.objs k a σ[k] hk' (List.getElem?_eq_getElem this)).alive

structure Grow (X : List Addr) (Z : ZP) (ρ : List Addr) (s : Shared) (Z' : ZP) (ρ' : List Addr) (s' : Shared) : Prop where
  zz : ZSub Z Z'
  zn : ∀ b o, Z' b o → Z b o ∨ s.heap.get? b = none ∨ b ∈ ρ
  pre : ∃ l, ρ' = ρ ++ l ∧ ∀ a ∈ l, s.heap.get? a = none
  old : ∀ b o, b ∉ ρ → b ∉ X → s.heap.get? b = some o → s'.heap.get? b = some o
  sh : Sh s s'

theorem Grow.refl (X : List Addr) (Z : ZP) (ρ : List Addr) (s : Shared) : Grow X Z ρ s Z ρ s :=
  ⟨ZSub.refl Z, fun _ _ h => .inl h, ⟨[], by simp, fun _ h => nomatch h⟩, fun _ _ _ _ e => e, Sh.refl s⟩

theorem Grow.mono (g : Grow X Z ρ s Z' ρ' s') (h : ∀ b ∈ X, b ∈ Y) : Grow Y Z ρ s Z' ρ' s' :=
  ⟨g.zz, g.zn, g.pre, fun b o h1 h2 e => g.old b o h1 (fun q => h2 (h b q)) e, g.sh⟩
theorem Grow.nil (g : Grow [] Z ρ s Z' ρ' s') : Grow Y Z ρ s Z' ρ' s' := g.mono fun _ h => nomatch h

theorem Grow.trim (g : Grow X Z ρ s Z' ρ' s') (h : ∀ b ∈ X, b ∈ Y ∨ s.heap.get? b = none) : Grow Y Z ρ s Z' ρ' s' :=
  ⟨g.zz, g.zn, g.pre, fun b o h1 h2 e => g.old b o h1 (fun q => (h b q).elim h2 fun q' => by rw [q'] at e; cases e) e, g.sh⟩

theorem Grow.trans (g : Grow X Z ρ s Z' ρ' s') (B : Base prog w h₀ Z' ρ' σ' s') (hX : ∀ b ∈ X, ∃ o, s'.heap.get? b = some o) (g' : Grow X Z' ρ' s' Z'' ρ'' s'') : Grow X Z ρ s Z'' ρ'' s'' := by
  obtain ⟨l, e, hl⟩ := g.pre
  obtain ⟨l', e', hl'⟩ := g'.pre
  have back : ∀ b, s'.heap.get? b = none → s.heap.get? b = none := fun b hb => by
    cases q : s.heap.get? b with
    | none => rfl
    | some o =>
      exfalso
      by_cases h1 : b ∈ ρ
      · obtain ⟨o', ho'⟩ := B.alive (a := b) (by rw [e]; exact List.mem_append_left _ h1)
        rw [hb] at ho'; cases ho'
      · by_cases h2 : b ∈ X
        · obtain ⟨o', ho'⟩ := hX b h2; rw [hb] at ho'; cases ho'
        · have := g.old b o h1 h2 q; rw [hb] at this; cases this
  refine ⟨g.zz.trans g'.zz, fun b o h => ?_, ⟨l ++ l', by rw [e', e, List.append_assoc], fun a ha => ?_⟩, fun b o h1 h2 h => ?_, g.sh.trans g'.sh⟩
  · rcases g'.zn b o h with q | q | q
    · exact g.zn b o q
    · exact .inr (.inl (back b q))
    · rw [e] at q
      rcases List.mem_append.mp q with q | q
      · exact .inr (.inr q)
      · exact .inr (.inl (hl b q))
  · rcases List.mem_append.mp ha with q | q
    · exact hl a q
    · exact back a (hl' a q)
  · refine g'.old b o (fun q => ?_) h2 (g.old b o h1 h2 h)
    rw [e] at q
    rcases List.mem_append.mp q with q | q
    · exact h1 q
    · have := hl b q; rw [h] at this; cases this

theorem Grow.tr (g : Grow [] Z ρ s Z' ρ' s') (B : Base prog w h₀ Z' ρ' σ' s') (g' : Grow [] Z' ρ' s' Z'' ρ'' s'') : Grow [] Z ρ s Z'' ρ'' s'' := g.trans B (fun _ h => nomatch h) g'

/-- only the heap's old objects stay, tokens move -/
theorem Base.ext (B : Base prog w h₀ Z ρ σ s) {s' : Shared} (hk : ∀ b o, s.heap.get? b = some o → s'.heap.get? b = some o) : Base prog w h₀ Z ρ σ s' :=
  ⟨fun b o h => hk _ _ (B.keep b o h), B.old, B.len, fun k a po h1 h2 => by
    have := (B.objs k a po h1 h2).keeps (l := []) (ZSub.refl Z) (fun o e => hk a o e)
    rwa [List.append_nil] at this, B.zr, B.nd⟩
theorem Grow.ext (hk : ∀ b o, s.heap.get? b = some o → s'.heap.get? b = some o) (sh : Sh s s') : Grow X Z ρ s Z ρ s' :=
  ⟨ZSub.refl Z, fun _ _ h => .inl h, ⟨[], by simp, fun _ h => nomatch h⟩, fun b o _ _ e => hk b o e, sh⟩

/-- a new frozen object -/
def ZAdd (Z : ZP) (a : Addr) (o : Obj) : ZP := fun b o' => Z b o' ∨ (b = a ∧ o' = o)
theorem ZAdd.sub (Z : ZP) (a : Addr) (o : Obj) : ZSub Z (ZAdd Z a o) := fun _ _ h => .inl h
theorem ZAdd.here (Z : ZP) (a : Addr) (o : Obj) : ZAdd Z a o a o := .inr ⟨rfl, rfl⟩

theorem Base.freeze (B : Base prog w h₀ Z ρ σ s) {a : Addr} {o : Obj} (ha : s.heap.get? a = some o) (hr : a ∉ ρ) : Base prog w h₀ (ZAdd Z a o) ρ σ s :=
  ⟨fun b o' h => h.elim (B.keep b o') fun q => by rw [q.1, q.2]; exact ha, fun b o' h => .inl (B.old b o' h), B.len, fun k b po h1 h2 => by
    have := (B.objs k b po h1 h2).keeps (l := []) (ZAdd.sub Z a o) (fun _ e => e)
    rwa [List.append_nil] at this, fun k b po h1 h2 h3 o' h => h.elim (B.zr k b po h1 h2 h3 o') fun q => hr (q.1 ▸ List.mem_of_getElem? h1), B.nd⟩
theorem Grow.freeze (g : Grow X Z ρ s Z' ρ' s') {a : Addr} {o : Obj} (hn : s.heap.get? a = none) : Grow X Z ρ s (ZAdd Z' a o) ρ' s' :=
  ⟨g.zz.trans (ZAdd.sub _ _ _), fun b o' h => h.elim (g.zn b o') fun q => .inr (.inl (q.1 ▸ hn)), g.pre, g.old, g.sh⟩

/-- a new mutable object -/
theorem Base.add (B : Base prog w h₀ Z ρ σ s) {a : Addr} {po : PO} (hz : ∀ o, ¬ Z a o) (hr : a ∉ ρ) (ho : OR prog w Z (ρ ++ [a]) s.heap a po) : Base prog w h₀ Z (ρ ++ [a]) (σ ++ [po]) s :=
  ⟨B.keep, B.old, by rw [List.length_append, List.length_append, B.len]; rfl, fun k b po' h1 h2 => by
    by_cases hk : k < ρ.length
    · rw [List.getElem?_append_left hk] at h1
      rw [List.getElem?_append_left (by rw [← B.len]; exact hk)] at h2
      exact (B.objs k b po' h1 h2).keeps (ZSub.refl Z) (fun _ e => e)
    · rw [List.getElem?_append_right (by omega)] at h1
      rw [List.getElem?_append_right (by rw [← B.len]; omega)] at h2
      rw [← B.len] at h2
      have : k - ρ.length = 0 := by
        obtain ⟨hl, _⟩ := List.getElem?_eq_some_iff.mp h1
        simp at hl; omega
      rw [this] at h1 h2
      simp at h1 h2
      subst h1 h2
      exact ho,
   fun k b po' h1 h2 h3 o h => by
    by_cases hk : k < ρ.length
    · rw [List.getElem?_append_left hk] at h1
      rw [List.getElem?_append_left (by rw [← B.len]; exact hk)] at h2
      exact B.zr k b po' h1 h2 h3 o h
    · rw [List.getElem?_append_right (by omega)] at h1
      have : b = a := by
        have := List.mem_of_getElem? h1
        simpa using this
      rw [this] at h; exact hz o h,
   by rw [List.nodup_append]; exact ⟨B.nd, by simp, fun x hx y hy e => by rw [List.mem_singleton.mp hy] at e; exact hr (e ▸ hx)⟩⟩
theorem Grow.add (g : Grow X Z ρ s Z' ρ' s') {a : Addr} (hn : s.heap.get? a = none) : Grow X Z ρ s Z' (ρ' ++ [a]) s' := by
  obtain ⟨l, e, hl⟩ := g.pre
  refine ⟨g.zz, g.zn, ⟨l ++ [a], by rw [e, List.append_assoc], fun b hb => ?_⟩, g.old, g.sh⟩
  rcases List.mem_append.mp hb with q | q
  · exact hl b q
  · rw [List.mem_singleton.mp q]; exact hn

theorem Base.notZ (B : Base prog w h₀ Z ρ σ s) {a : Addr} (hn : s.heap.get? a = none) : ∀ o, ¬ Z a o := fun o h => by have := B.keep a o h; rw [hn] at this; cases this
theorem Base.notR (B : Base prog w h₀ Z ρ σ s) {a : Addr} (hn : s.heap.get? a = none) : a ∉ ρ := fun h => by obtain ⟨o, ho⟩ := B.alive h; rw [hn] at ho; cases ho
theorem none_size (h : Heap) {a : Addr} (ha : h.objs.size ≤ a) : h.get? a = none := by
  cases q : h.get? a with
  | none => rfl
  | some o => exact absurd (Heap.lt_size q) (Nat.not_lt.mpr ha)

/-- one store object turned -/
theorem Base.change (B : Base prog w h₀ Z ρ σ s) {s' : Shared} {k : Nat} {a : Addr} {po : PO} (hk : ρ[k]? = some a) (hz : ∀ o, ¬ Z a o) (hs : ∀ b o, b ≠ a → s.heap.get? b = some o → s'.heap.get? b = some o)
    (ho : OR prog w Z ρ s'.heap a po) : Base prog w h₀ Z ρ (σ.set k po) s' :=
  ⟨fun b o h => hs b o (fun e => hz o (e ▸ h)) (B.keep b o h), B.old, by rw [List.length_set, B.len], fun j b po' h1 h2 => by
    by_cases e : j = k
    · subst e
      rw [hk] at h1
      cases h1
      obtain ⟨hl, _⟩ := List.getElem?_eq_some_iff.mp hk
      rw [List.getElem?_set_self (by rw [← B.len]; exact hl)] at h2
      cases h2
      exact ho
    · rw [List.getElem?_set_ne (Ne.symm e)] at h2
      have hb : b ≠ a := fun q => by
        subst q
        exact e (nodup_at B.nd h1 hk)
      have := (B.objs j b po' h1 h2).keeps (l := []) (ZSub.refl Z) (fun o e => hs b o hb e)
      rwa [List.append_nil] at this, fun j b po' h1 h2 h3 o h => by
    by_cases e : j = k
    · subst e
      rw [hk] at h1
      cases h1
      exact hz o h
    · rw [List.getElem?_set_ne (Ne.symm e)] at h2
      exact B.zr j b po' h1 h2 h3 o h, B.nd⟩
theorem Grow.change {s' : Shared} {k : Nat} {a : Addr} (hk : ρ[k]? = some a) (hs : ∀ b o, b ≠ a → s.heap.get? b = some o → s'.heap.get? b = some o) (sh : Sh s s') : Grow X Z ρ s Z ρ s' :=
  ⟨ZSub.refl Z, fun _ _ h => .inl h, ⟨[], by simp, fun _ h => nomatch h⟩, fun b o h1 _ e => hs b o (fun q => h1 (q ▸ List.mem_of_getElem? hk)) e, sh⟩

/-- a store object frozen -/
theorem Base.bury (B : Base prog w h₀ Z ρ σ s) {k : Nat} {a : Addr} {o : Obj} (hk : ρ[k]? = some a) (ho : s.heap.get? a = some o) : Base prog w h₀ (ZAdd Z a o) ρ (σ.set k .dead) s :=
  ⟨fun b o' h => h.elim (B.keep b o') fun q => by rw [q.1, q.2]; exact ho, fun b o' h => .inl (B.old b o' h), by rw [List.length_set, B.len], fun j b po' h1 h2 => by
    by_cases e : j = k
    · subst e
      rw [hk] at h1
      cases h1
      obtain ⟨hl, _⟩ := List.getElem?_eq_some_iff.mp hk
      rw [List.getElem?_set_self (by rw [← B.len]; exact hl)] at h2
      cases h2
      exact ⟨o, ho⟩
    · rw [List.getElem?_set_ne (Ne.symm e)] at h2
      have := (B.objs j b po' h1 h2).keeps (l := []) (ZAdd.sub Z a o) (fun _ e => e)
      rwa [List.append_nil] at this, fun j b po' h1 h2 h3 o' h => by
    by_cases e : j = k
    · subst e
      obtain ⟨hl, _⟩ := List.getElem?_eq_some_iff.mp hk
      rw [List.getElem?_set_self (by rw [← B.len]; exact hl)] at h2
      cases h2
      exact h3 rfl
    · rw [List.getElem?_set_ne (Ne.symm e)] at h2
      rcases h with q | q
      · exact B.zr j b po' h1 h2 h3 o' q
      · have hb : b = a := q.1
        subst hb
        exact e (nodup_at B.nd h1 hk), B.nd⟩
theorem Grow.bury {k : Nat} {a : Addr} {o : Obj} (hk : ρ[k]? = some a) : Grow X Z ρ s (ZAdd Z a o) ρ s :=
  ⟨ZAdd.sub _ _ _, fun b o' h => h.elim .inl fun q => .inr (.inr (q.1 ▸ List.mem_of_getElem? hk)), ⟨[], by simp, fun _ h => nomatch h⟩, fun b o _ _ e => e, Sh.refl s⟩

structure Loc (Z : ZP) (ρ : List Addr) (env : Env) (φ : Frm) (s : Shared) : Prop where
  hk : env.scope.kind = .function
  gl : env.globals = mainGlobals
  bl : env.builtins = builtinsNs
  ns : ∃ m, s.heap.Ns env.locals m ∧ ∀ x pv, φ.loc.lookup x = some pv → ∃ v, m x = some v ∧ VR Z ρ pv v
  ce : ∀ x pv, φ.cel.lookup x = some pv → ∃ c v, env.cells.lookup x = some c ∧ s.heap.IsCell c (some v) ∧ VR Z ρ pv v
  al : ∀ x c, (x, c) ∈ env.cells → ∃ ov, s.heap.IsCell c ov
  ck : ∀ x, env.kindOf x = some .cell ∨ env.kindOf x = some .free → ∃ c, env.cells.lookup x = some c
  zL : (∀ o, ¬ Z env.locals o) ∧ env.locals ∉ ρ
  zc : ∀ x c, (x, c) ∈ env.cells → (∀ o, ¬ Z c o) ∧ c ∉ ρ ∧ c ≠ env.locals
  ap : env.cells.Pairwise fun x y => x.2 ≠ y.2
  wc : ∀ x c, (x, c) ∈ env.cells → x ∉ φ.ro → env.locals < c
  cd : env.code = .none ∨ ∃ c o vs, env.code = .ref c ∧ Z c o ∧ o.data = .fields vs

theorem Loc.step {env : Env} {φ : Frm} (L : Loc Z ρ env φ s) (g : Grow X Z ρ s Z' ρ' s') (hL : env.locals ∉ X) (hC : ∀ x c, (x, c) ∈ env.cells → c ∉ X) : Loc Z' ρ' env φ s' := by
  obtain ⟨l, e, hl⟩ := g.pre
  obtain ⟨m, hn, hm⟩ := L.ns
  have aL : ∃ o, s.heap.get? env.locals = some o := let ⟨o, _, _, ho, _⟩ := hn; ⟨o, ho⟩
  have aC : ∀ x c, (x, c) ∈ env.cells → ∃ o, s.heap.get? c = some o := fun x c h => let ⟨_, o, ho, _⟩ := L.al x c h; ⟨o, ho⟩
  have cell : ∀ x c ov, (x, c) ∈ env.cells → s.heap.IsCell c ov → s'.heap.IsCell c ov := fun x c ov h ⟨o, ho, hd⟩ => ⟨o, g.old c o (L.zc x c h).2.1 (hC x c h) ho, hd⟩
  refine ⟨L.hk, L.gl, L.bl, ⟨m, hn.at' fun o q => g.old _ o L.zL.2 hL q, fun x pv h => let ⟨v, a, b⟩ := hm x pv h; ⟨v, a, e ▸ VR.mono g.zz b⟩⟩,
    fun x pv h => let ⟨c, v, a, b, d⟩ := L.ce x pv h; ⟨c, v, a, cell x c _ (mem_of_lookup a) b, e ▸ VR.mono g.zz d⟩,
    fun x c h => let ⟨ov, a⟩ := L.al x c h; ⟨ov, cell x c ov h a⟩, L.ck, ⟨fun o h => ?_, fun h => ?_⟩, fun x c h => ⟨fun o q => ?_, fun q => ?_, (L.zc x c h).2.2⟩, L.ap, L.wc, L.cd.imp id fun ⟨c, o, vs, a, b, d⟩ => ⟨c, o, vs, a, g.zz _ _ b, d⟩⟩
  · rcases g.zn _ o h with q | q | q
    · exact L.zL.1 o q
    · obtain ⟨o', ho'⟩ := aL; rw [q] at ho'; cases ho'
    · exact L.zL.2 q
  · rw [e] at h
    rcases List.mem_append.mp h with q | q
    · exact L.zL.2 q
    · obtain ⟨o', ho'⟩ := aL; rw [hl _ q] at ho'; cases ho'
  · rcases g.zn _ o q with q | q | q
    · exact (L.zc x c h).1 o q
    · obtain ⟨o', ho'⟩ := aC x c h; rw [q] at ho'; cases ho'
    · exact (L.zc x c h).2.1 q
  · rw [e] at q
    rcases List.mem_append.mp q with q | q
    · exact (L.zc x c h).2.1 q
    · obtain ⟨o', ho'⟩ := aC x c h; rw [hl _ q] at ho'; cases ho'
theorem Loc.grow {env : Env} {φ : Frm} (L : Loc Z ρ env φ s) (g : Grow [] Z ρ s Z' ρ' s') : Loc Z' ρ' env φ s' := L.step g (fun h => nomatch h) (fun _ _ _ h => nomatch h)
end

end Mine
end
section
open PySem PySem.W PyProof.Rows
set_option maxRecDepth 10000
namespace Mine

def S (x : String) : Str := Str.ofString x

def shallow (a b : PyData) : Bool := decide (a.depth ≤ 64) || decide (b.depth ≤ 64)

def ints? : List PyData → Option (List Int)
  | [] => some []
  | .int i :: r => (ints? r).map (i :: ·)
  | _ :: _ => none

def insI (x : Int) : List Int → List Int
  | [] => [x]
  | y :: r => if x ≤ y then x :: y :: r else y :: insI x r
def sortI : List Int → List Int
  | [] => []
  | x :: r => insI x (sortI r)
/-- into a rising list without doubles -/
def addS (x : Int) : List Int → List Int
  | [] => [x]
  | y :: r => if x < y then x :: y :: r else if x = y then y :: r else y :: addS x r

/-- binary operators on data -/
def pBin (op : Operator) (a b : PyData) : Option PyData :=
  match op, a, b with
  | .Add, .int a, .int b => some (.int (a + b))
  | .Sub, .int a, .int b => some (.int (a - b))
  | .Mult, .int a, .int b => if b.natAbs < 2 ^ 32 then some (.int (a * b)) else none
  | .Mod, .int a, .int b => if b = 0 then none else some (.int (a.fmod b))
  | .FloorDiv, .int a, .int b => if b = 0 then none else if b.natAbs < 1073741824 then some (.int (a.fdiv b)) else none
  | .Pow, .int a, .int b => if a = 2 ∨ a = 3 then if 0 ≤ b ∧ b < 16 then some (.int (a ^ b.toNat)) else none else none
  | _, _, _ => none

def pCmp (op : CmpOp) (a b : PyData) : Option Bool :=
  match op with
  | .Eq => if shallow a b then some (PyData.eqv a b) else none
  | .NotEq => if shallow a b then some (!PyData.eqv a b) else none
  | .Lt => match a, b with | .int x, .int y => some (decide (x < y)) | _, _ => none
  | .Gt => match a, b with | .int x, .int y => some (decide (y < x)) | _, _ => none
  | .In => match b with | .list ys => if a.depth ≤ 64 then some (ys.any fun y => PyData.eqv y a) else none | _ => none
  | .NotIn => match b with | .list ys => if a.depth ≤ 64 then some (!ys.any fun y => PyData.eqv y a) else none | _ => none
  | .Is => match a, b with | .none, .none => some true | .list _, .none => some false | .int _, .none => some false | _, _ => none
  | .IsNot => match a, b with | .none, .none => some false | _, _ => none
  | _ => none

/-- comparisons that see the store -/
def sCmp (op : CmpOp) (a b : PV) (σ : Store) : Option Bool :=
  match a, b with
  | .d x, .d y => pCmp op x y
  | .d (.int x), .ref k =>
    match op, σ[k]? with
    | .In, some (.set xs) => if 0 ≤ x ∧ x < 5 then some (xs.contains x) else none
    | .NotIn, some (.set xs) => if 0 ≤ x ∧ x < 5 then some (!xs.contains x) else none
    | .In, some (.bag xs) => if 0 ≤ x ∧ x < 5 then some (xs.contains x) else none
    | .NotIn, some (.bag xs) => if 0 ≤ x ∧ x < 5 then some (!xs.contains x) else none
    | .In, some (.dict es) => some (es.lookup x).isSome
    | .NotIn, some (.dict es) => some (!(es.lookup x).isSome)
    | _, _ => none
  | _, _ => none

def sTruthy (a : PV) (σ : Store) : Option Bool :=
  match a with
  | .d (.bool b) => some b
  | .ref k => match σ[k]? with | some (.list xs) => if xs.length < 1000000 then some (!xs.isEmpty) else none | _ => none
  | _ => none

def itemAt (xs : List PyData) (i : Int) : Option PyData :=
  if xs.length < 1000000 then
    if 0 ≤ i then xs[i.toNat]? else if 0 ≤ xs.length + i then xs[(xs.length + i).toNat]? else none
  else none

def sItem (o i : PV) (σ : Store) : Option PV :=
  match o, i with
  | .d (.list xs), .d (.int i) => (itemAt xs i).map .d
  | .d (.tuple xs), .d (.int i) => (itemAt xs i).map .d
  | .ref k, .d (.int i) => match σ[k]? with
    | some (.list xs) => (itemAt xs i).map .d
    | some (.dict es) => es.lookup i
    | _ => none
  | _, _ => none

/-- [:u] with u ≥ 0 small, or [:-1] -/
def sliceTo (xs : List PyData) (u : Int) : Option PyData :=
  if xs.length < 1000000 then
    if 0 ≤ u then if u < 1000000 then some (.list (xs.take u.toNat)) else none else if u = -1 then some (.list (xs.take (xs.length - 1))) else none
  else none

def pIter (v : PV) : Option (List PyData) :=
  match v with
  | .d (.list xs) => some xs
  | .rng a b c =>
    if c = 1 then (if a.natAbs < 1000000 ∧ b.natAbs < 1000000 then some ((List.range (b - a).toNat).map fun (i : Nat) => .int (a + i)) else none)
    else if c = -1 then (if a.natAbs < 1000000 ∧ b.natAbs < 1000000 then some ((List.range (a - b).toNat).map fun (i : Nat) => .int (a - i)) else none)
    else none
  | _ => none

def datas? : List PV → Option (List PyData)
  | [] => some []
  | .d x :: r => (datas? r).map (x :: ·)
  | _ :: _ => none

def small (xs : List Int) : Bool := xs.all fun x => decide (x.natAbs < 1000000)

/-- calls of built-in functions -/
def pFun (id : String) (args : List PV) (σ : Store) : Option PV :=
  if id = "len" then
    match args with
    | [.d (.list xs)] => if xs.length < 1000000 then some (.d (.int xs.length)) else none
    | [.ref k] => match σ[k]? with
      | some (.list xs) => if xs.length < 1000000 then some (.d (.int xs.length)) else none
      | some (.set xs) => some (.d (.int xs.length))
      | some (.bag xs) => some (.d (.int xs.length))
      | some (.dict es) => if es.length < 1000000 then some (.d (.int es.length)) else none
      | _ => none
    | _ => none
  else if id = "sorted" then
    match args with
    | [.d (.list xs)] => if xs.length < 64 then (ints? xs).map fun ns => .d (.list ((sortI ns).map .int)) else none
    | [.ref k] => match σ[k]? with
      | some (.set xs) => some (.d (.list (xs.map .int)))
      | _ => none
    | _ => none
  else if id = "max" then
    match args with
    | [.d (.list xs)] => match ints? xs with
      | some (n :: ns) => if xs.length < 1000 then some (.d (.int (ns.foldl max n))) else none
      | _ => none
    | _ => none
  else if id = "sum" then
    match args with
    | [.d (.list xs)] => match ints? xs with
      | some ns => if small ns && decide (ns.length < 1000) then some (.d (.int ns.sum)) else none
      | _ => none
    | _ => none
  else none

def pTyp (n : String) (args : List PV) (σ : Store) : Option (PV × Store) :=
  if n = "range" then
    match args with
    | [.d (.int b)] => some (.rng 0 b 1, σ)
    | [.d (.int a), .d (.int b)] => some (.rng a b 1, σ)
    | [.d (.int a), .d (.int b), .d (.int c)] => if c = -1 then some (.rng a b c, σ) else none
    | _ => none
  else if n = "list" then
    match args with
    | [.rng a b 1] => if a.natAbs < 1000000 ∧ b.natAbs < 1000000 then some (.d (.list ((List.range (b - a).toNat).map fun (i : Nat) => .int (a + i))), σ) else none
    | _ => none
  else if n = "set" then
    match args with
    | [] => some (.ref σ.length, σ ++ [.bag []])
    | _ => none
  else if n = "dict" then
    match args with
    | [] => some (.ref σ.length, σ ++ [.dict []])
    | _ => none
  else none

def putD (es : List (Int × PV)) (k : Int) (v : PV) : List (Int × PV) :=
  match es with
  | [] => [(k, v)]
  | (j, u) :: r => if j = k then (j, v) :: r else (j, u) :: putD r k v

def small5 (x : Int) : Bool := decide (0 ≤ x) && decide (x < 5)

/-- methods of built-in objects: which one a name means -/
def biOf (po : PO) (name : Str) : Option String :=
  match po with
  | .list _ => if name == S "append" then some "list.append" else none
  | .set _ => if name == S "add" then some "set.add" else none
  | .bag _ => if name == S "update" then some "set.update" else none
  | .dict _ => if name == S "get" then some "dict.get" else if name == S "update" then some "dict.update" else none
  | _ => none
/-- and what it does -/
def pBi (id : String) (o : PV) (args : List PV) (σ : Store) : Option (PV × Store) :=
  match o with
  | .ref k => match σ[k]? with
    | some (.list xs) => if id = "list.append" then match args with | [.d x] => if xs.length < 1000000 then some (.d .none, σ.set k (.list (xs ++ [x]))) else none | _ => none else none
    | some (.set xs) => if id = "set.add" then match args with | [.d (.int x)] => if small5 x then some (.d .none, σ.set k (.set (addS x xs))) else none | _ => none else none
    | some (.bag xs) =>
      if id = "set.update" then match args with
        | [.ref j] => if j = k then none else match σ[j]? with | some (.set (y :: ys)) => some (.d .none, σ.set k (.bag (xs ++ (y :: ys).filter fun y => !xs.contains y))) | _ => none
        | _ => none
      else none
    | some (.dict es) =>
      if id = "dict.get" then match args with | [.d (.int i), dflt] => some ((es.lookup i).getD dflt, σ) | _ => none
      else if id = "dict.update" then match args with
        | [.ref j] => if j = k then none else match σ[j]? with | some (.dict []) => if es.length < 1000000 then some (.d .none, σ) else none | _ => none
        | _ => none
      else none
    | _ => none
  | _ => none

/-- parameters of the text: what global names mean, what classes bear, what calls do -/
structure Txt where
  gv : Str → Option Value
  ca : Addr → Str → Option Value
  ow : Addr → Str → Bool
  O : Addr → List PV → Store → Option (PV × Store)

def relabelS (scope sc : Scope) : Scope :=
  { scope with names := scope.names.map fun (n, k) => if (k == .free && sc.kind == .function && sc.names.lookup n == some .cell) then (n, .cell) else (n, k) }

def ldN (sc : Scope) (φ : Frm) (x : Str) : Option PV :=
  match sc.names.lookup x with
  | some .local => φ.loc.lookup x
  | some .cell => φ.cel.lookup x
  | some .free => φ.cel.lookup x
  | _ => none

def putL (l : List (Str × PV)) (x : Str) (v : PV) : List (Str × PV) :=
  match l with
  | [] => [(x, v)]
  | (y, u) :: r => if y == x then (y, v) :: r else (y, u) :: putL r x v

def stN (sc : Scope) (φ : Frm) (x : Str) (v : PV) : Option Frm :=
  match sc.names.lookup x with
  | some .local => some { φ with loc := putL φ.loc x v }
  | some .cell => if φ.ro.contains x then none else some { φ with cel := putL φ.cel x v }
  | _ => none

/-- the evaluator's arms, by a lower one -/
structure Rec where
  ev : Scope → Frm → Expr → Store → Option (PV × Store)
  tr : Scope → Frm → Expr → Store → Option (Bool × Store)
  ex : Scope → Stmt → Frm → Store → Option (Fl × Frm × Store)
  wh : Scope → Expr → List Stmt → Frm → Store → Option (Fl × Frm × Store)

section
variable (T : Txt) (r : Rec)

def evs (sc : Scope) (φ : Frm) : List Expr → Store → Option (List PV × Store)
  | [], σ => some ([], σ)
  | .Starred _ _ :: _, _ => none
  | e :: es, σ => match r.ev sc φ e σ with
    | some (v, σ) => match evs sc φ es σ with
      | some (vs, σ) => some (v :: vs, σ)
      | none => none
    | none => none

def exs (sc : Scope) : List Stmt → Frm → Store → Option (Fl × Frm × Store)
  | [], φ, σ => some (.nxt, φ, σ)
  | st :: rest, φ, σ => match r.ex sc st φ σ with
    | some (.nxt, φ, σ) => exs sc rest φ σ
    | some (f, φ, σ) => some (f, φ, σ)
    | none => none

/-- for x in items: body -/
def eFor (sc : Scope) (x : Str) (body : List Stmt) : List PyData → Frm → Store → Option (Fl × Frm × Store)
  | [], φ, σ => some (.nxt, φ, σ)
  | v :: vs, φ, σ => match stN sc φ x (.d v) with
    | none => none
    | some φ => match exs r sc body φ σ with
      | some (.nxt, φ, σ) => eFor sc x body vs φ σ
      | some (.cnt, φ, σ) => eFor sc x body vs φ σ
      | some (.brk, φ, σ) => some (.nxt, φ, σ)
      | some (.ret v, φ, σ) => some (.ret v, φ, σ)
      | none => none

def evIfs (sc : Scope) (φ : Frm) : List Expr → Store → Option (Bool × Store)
  | [], σ => some (true, σ)
  | c :: cs, σ => match r.tr sc φ c σ with
    | some (true, σ) => evIfs sc φ cs σ
    | some (false, σ) => some (false, σ)
    | none => none

/-- one clause of a comprehension over its items -/
def cItems (sc : Scope) (x : Str) (ifs : List Expr) (inner : Frm → List PyData → Store → Option (Frm × List PyData × Store)) :
    List PyData → Frm → List PyData → Store → Option (Frm × List PyData × Store)
  | [], φ, acc, σ => some (φ, acc, σ)
  | v :: vs, φ, acc, σ => match stN sc φ x (.d v) with
    | none => none
    | some φ => match evIfs r sc φ ifs σ with
      | none => none
      | some (false, σ) => cItems sc x ifs inner vs φ acc σ
      | some (true, σ) => match inner φ acc σ with
        | some (φ, acc, σ) => cItems sc x ifs inner vs φ acc σ
        | none => none

def cEmit (sc : Scope) (elt : Expr) (φ : Frm) (acc : List PyData) (σ : Store) : Option (Frm × List PyData × Store) :=
  match r.ev sc φ elt σ with
  | some (.d x, σ) => if acc.length < 1000000 then some (φ, acc ++ [x], σ) else none
  | _ => none

def cInner (sc : Scope) (elt : Expr) (y : Str) (iter : Expr) (ifs : List Expr) (φ : Frm) (acc : List PyData) (σ : Store) : Option (Frm × List PyData × Store) :=
  match r.ev sc φ iter σ with
  | some (v, σ) => match pIter v with
    | some items => cItems r sc y ifs (cEmit r sc elt) items φ acc σ
    | none => none
  | none => none

/-- names that a comprehension's scope takes from outside -/
def takes (sc : Scope) : List (Str × NameKind) → Bool
  | [] => true
  | (n, .free) :: r => (sc.names.lookup n == some .cell || sc.names.lookup n == some .free) && takes sc r
  | (_, .local) :: r => takes sc r
  | (_, .cell) :: r => takes sc r
  | (_, .globalImplicit) :: r => takes sc r
  | (_, .globalExplicit) :: _ => false
def freeN (names : List (Str × NameKind)) : List Str := (names.filter fun p => p.2 == .free).map (·.1)
def celOf (names : List (Str × NameKind)) (cel : List (Str × PV)) : List (Str × PV) :=
  cel.filter fun p => names.lookup p.1 == some .free

def plainIter : Expr → Bool
  | .Set .. => false
  | _ => true
/-- a list comprehension of one clause or two: the list's items -/
def evComp (sc : Scope) (φ : Frm) (elt : Expr) (gens : List Comprehension) (scope : Scope) (σ : Store) : Option (List PyData × Store) :=
  match gens with
  | [⟨.Name x _, iter, ifs, a⟩] =>
    if a = 0 ∧ plainIter iter = true ∧ scope.kind = .function ∧ takes sc scope.names = true ∧ (scope.names.map (·.1)).Nodup then
      match r.ev sc φ iter σ with
      | some (v, σ) => match pIter v with
        | some items => match cItems r (relabelS scope sc) x ifs (cEmit r (relabelS scope sc) elt) items ⟨[], celOf scope.names φ.cel, freeN scope.names⟩ [] σ with
          | some (_, acc, σ) => some (acc, σ)
          | none => none
        | none => none
      | none => none
    else none
  | [⟨.Name x _, iter, ifs, a⟩, ⟨.Name y py, iter1, ifs1, a1⟩] =>
    if a = 0 ∧ a1 = 0 ∧ plainIter iter = true ∧ plainIter iter1 = true ∧ scope.kind = .function ∧ takes sc scope.names = true ∧ (scope.names.map (·.1)).Nodup then
      match r.ev sc φ iter σ with
      | some (v, σ) => match pIter v with
        | some items => match cItems r (relabelS scope sc) x ifs (cInner r (relabelS scope sc) elt y iter1 ifs1) items ⟨[], celOf scope.names φ.cel, freeN scope.names⟩ [] σ with
          | some (_, acc, σ) => some (acc, σ)
          | none => none
        | none => none
      | none => none
    else none
  | _ => none

def evNew (sc : Scope) (φ : Frm) (e : Expr) (σ : Store) : Option (List PyData × Store) :=
  match e with
  | .List elts _ => if elts.length < 1000 then match evs r sc φ elts σ with
    | some (vs, σ) => (datas? vs).map fun xs => (xs, σ)
    | none => none
    else none
  | .BinOp l .Add rr _ => match r.ev sc φ l σ with
    | some (.d (.list xs), σ) => match r.ev sc φ rr σ with
      | some (.d (.list ys), σ) => if xs.length + ys.length < 1000000 then some (xs ++ ys, σ) else none
      | _ => none
    | some (.ref k, σ₁) => match r.ev sc φ rr σ₁ with
      | some (.d (.list ys), σ) => match σ[k]? with
        | some (.list xs) => if xs.length + ys.length < 1000000 then some (xs ++ ys, σ) else none
        | _ => none
      | _ => none
    | _ => none
  | .ListComp elt gens scope _ => evComp r sc φ elt gens scope σ
  | _ => none

end

end Mine
end
section
open PySem PySem.W PyProof.Rows
set_option maxRecDepth 10000
namespace Mine

def mutN : List Str := [S "found", S "ties", S "nextlevel", S "sets"]
def isNewForm : Expr → Bool
  | .List _ _ => true
  | .ListComp .. => true
  | .BinOp _ .Add _ _ => true
  | _ => false

section
variable (T : Txt) (r : Rec)

def evBool (op : BoolOp) (sc : Scope) (φ : Frm) : List Expr → Store → Option (PV × Store)
  | [], _ => none
  | [e], σ => r.ev sc φ e σ
  | e :: es, σ => match r.ev sc φ e σ with
    | some (v, σ) => match sTruthy v σ with
      | some b => match op, b with
        | .And, false => some (v, σ)
        | .Or, true => some (v, σ)
        | .And, true => evBool op sc φ es σ
        | .Or, false => evBool op sc φ es σ
      | none => none
    | none => none

def evAll (op : BoolOp) (sc : Scope) (φ : Frm) : List Expr → Store → Option (Bool × Store)
  | [], σ => some (op == .And, σ)
  | e :: es, σ => match r.tr sc φ e σ with
    | some (b, σ) => match op, b with
      | .And, false => some (false, σ)
      | .Or, true => some (true, σ)
      | .And, true => evAll op sc φ es σ
      | .Or, false => evAll op sc φ es σ
    | none => none

def evConst : Const → Option PyData
  | .none => some .none
  | .bool b => some (.bool b)
  | .int i => some (.int i)
  | _ => none

/-- a call of a global name -/
def evCallN (sc : Scope) (f : Str) (vs : List PV) (σ : Store) : Option (PV × Store) :=
  if sc.names.lookup f = some .globalImplicit ∧ (f == S "__debug__") = false then
    match T.gv f with
    | some (.builtin id) => (pFun id vs σ).map fun v => (v, σ)
    | some (.type n) => pTyp n vs σ
    | some (.ref a) => T.O a vs σ
    | _ => none
  else none

def instOf (v : PV) (σ : Store) : Option (Addr × Nat) :=
  match v with
  | .ref k => match σ[k]? with | some (.inst C d) => some (C, d) | _ => none
  | _ => none

def noCall : Expr → Bool
  | .Call .. => false
  | _ => true

inductive Cal where
  | fn (f : Addr)
  | ty
  | bi (id : String)
/-- what a method's name means at an object -/
def calleeM (o : PV) (name : Str) (σ : Store) : Option Cal :=
  match o with
  | .ref k => match σ[k]? with
    | some (.inst C d) => match σ[d]? with
      | some (.attrs es) => match es.lookup name with
        | some _ => none
        | none => match T.ca C name with
          | some (.ref f) => some (.fn f)
          | some (.type n) => if n = "dict" then some .ty else none
          | _ => none
      | _ => none
    | some po => (biOf po name).map .bi
    | none => none
  | _ => none
def runM (c : Cal) (o : PV) (vs : List PV) (σ : Store) : Option (PV × Store) :=
  match c with
  | .fn f => T.O f (o :: vs) σ
  | .ty => pTyp "dict" vs σ
  | .bi id => pBi id o vs σ

def stepEv (sc : Scope) (φ : Frm) (e : Expr) (σ : Store) : Option (PV × Store) :=
  match e with
  | .Constant c _ _ => (evConst c).map fun x => (.d x, σ)
  | .Name x _ => if x == S "__debug__" || x == S "__classdict__" then none else (ldN sc φ x).map fun v => (v, σ)
  | .BoolOp op vs _ => evBool r op sc φ vs σ
  | .BinOp l op rr pos => match r.ev sc φ l σ with
    | some (.d (.int a), σ) => match r.ev sc φ rr σ with
      | some (.d (.int b), σ) => (pBin op (.int a) (.int b)).map fun x => (.d x, σ)
      | _ => none
    | _ => match op with
      | .Add => (evNew r sc φ (.BinOp l .Add rr pos) σ).map fun p => (.d (.list p.1), p.2)
      | _ => none
  | .UnaryOp .USub x _ => match r.ev sc φ x σ with
    | some (.d (.int a), σ) => some (.d (.int (-a)), σ)
    | _ => none
  | .IfExp t b o _ => match r.tr sc φ t σ with
    | some (true, σ) => r.ev sc φ b σ
    | some (false, σ) => r.ev sc φ o σ
    | none => none
  | .Compare l [op] [rr] _ => if behindInMarks op rr then none else match r.ev sc φ l σ with
    | some (a, σ) => match r.ev sc φ rr σ with
      | some (b, σ) => (sCmp op a b σ).map fun x => (.d (.bool x), σ)
      | none => none
    | none => none
  | .List elts pos => (evNew r sc φ (.List elts pos) σ).map fun p => (.d (.list p.1), p.2)
  | .ListComp elt gens scope pos => (evNew r sc φ (.ListComp elt gens scope pos) σ).map fun p => (.d (.list p.1), p.2)
  | .Tuple elts _ _ => if elts.length < 1000 then match evs r sc φ elts σ with
    | some (vs, σ) => (datas? vs).map fun xs => (.d (.tuple xs), σ)
    | none => none
    else none
  | .Dict [] [] _ => some (.ref σ.length, σ ++ [.dict []])
  | .Set [e] 0 _ => match evs r sc φ [e] σ with
    | some ([.d (.int x)], σ) => if small5 x then some (.ref σ.length, σ ++ [.set [x]]) else none
    | _ => none
  | .Subscript o (.Slice none (some u) none _) _ => match r.ev sc φ o σ with
    | some (.d (.list xs), σ) => match r.ev sc φ u σ with
      | some (.d (.int i), σ) => (sliceTo xs i).map fun x => (.d x, σ)
      | _ => none
    | _ => none
  | .Subscript o i _ => match i with
    | .Slice .. => none
    | i => match r.ev sc φ o σ with
      | some (ov, σ) => match r.ev sc φ i σ with
        | some (iv, σ) => (sItem ov iv σ).map fun v => (v, σ)
        | none => none
      | none => none
  | .Attribute o attr _ => if noCall o then match r.ev sc φ o σ with
    | some (ov, σ) => match instOf ov σ with
      | some (C, d) => if T.ow C attr then match σ[d]? with
        | some (.attrs es) => (es.lookup attr).map fun v => (v, σ)
        | _ => none
        else none
      | none => none
    | none => none
    else none
  | .Call (.Name f _) args [] _ => if args.length < 20 then match evs r sc φ args σ with
    | some (vs, σ) => evCallN T sc f vs σ
    | none => none
    else none
  | .Call (.Attribute o name apos) args [] pos => if noCall o && decide (args.length < 20) && (apos.endLine == pos.line) then match r.ev sc φ o σ with
    | some (ov, σ) => match calleeM T ov name σ with
      | some c => match evs r sc φ args σ with
        | some (vs, σ) => runM T c ov vs σ
        | none => none
      | none => none
    | none => none
    else none
  | _ => none

def stepTr (sc : Scope) (φ : Frm) (e : Expr) (σ : Store) : Option (Bool × Store) :=
  match e with
  | .UnaryOp .Not x _ => (r.tr sc φ x σ).map fun p => (!p.1, p.2)
  | .BoolOp op vs _ => evAll r op sc φ vs σ
  | .IfExp t b o _ => match r.tr sc φ t σ with
    | some (true, σ) => r.tr sc φ b σ
    | some (false, σ) => r.tr sc φ o σ
    | none => none
  | .Compare l [op] [rr] _ => if behindInMarks op rr then none else match r.ev sc φ l σ with
    | some (a, σ) => match r.ev sc φ rr σ with
      | some (b, σ) => (sCmp op a b σ).map fun x => (x, σ)
      | none => none
    | none => none
  | .Name x p => match r.ev sc φ (.Name x p) σ with
    | some (v, σ) => (sTruthy v σ).map fun b => (b, σ)
    | none => none
  | .Call f as ks p => match r.ev sc φ (.Call f as ks p) σ with
    | some (v, σ) => (sTruthy v σ).map fun b => (b, σ)
    | none => none
  | .Constant c k p => match r.ev sc φ (.Constant c k p) σ with
    | some (v, σ) => (sTruthy v σ).map fun b => (b, σ)
    | none => none
  | _ => none

def namesOf : List Expr → Option (List Str)
  | [] => some []
  | .Name x _ :: r => (namesOf r).map (x :: ·)
  | _ :: _ => none
def stAll (sc : Scope) : List Str → List PyData → Frm → Option Frm
  | [], [], φ => some φ
  | x :: xs, v :: vs, φ => match stN sc φ x (.d v) with
    | some φ => stAll sc xs vs φ
    | none => none
  | _, _, _ => none

def setAt (o : PV) (i : Int) (v : PV) (σ : Store) : Option Store :=
  match o with
  | .ref k => match σ[k]? with
    | some (.list xs) => match v with
      | .d x => if 0 ≤ i ∧ i.toNat < xs.length ∧ xs.length < 1000000 then some (σ.set k (.list (xs.set i.toNat x))) else none
      | _ => none
    | some (.dict es) => if es.length < 1000000 then some (σ.set k (.dict (putD es i v))) else none
    | _ => none
  | _ => none

/-- what a for goes over: data, or a store object that is frozen by it -/
def forItems (v : PV) (σ : Store) : Option (List PyData × Store) :=
  match v with
  | .ref k => match σ[k]? with
    | some (.list xs) => if xs.length < 1000000 then some (xs, σ.set k .dead) else none
    | some (.dict es) => some (es.map fun p => .int p.1, σ.set k .dead)
    | _ => none
  | v => (pIter v).map fun xs => (xs, σ)

def plainVal : Expr → Bool
  | .ListComp .. => false
  | .SetComp .. => false
  | .DictComp .. => false
  | _ => true
def noTup : Expr → Bool
  | .Tuple .. => false
  | _ => true

def stepEx (sc : Scope) (st : Stmt) (φ : Frm) (σ : Store) : Option (Fl × Frm × Store) :=
  match st with
  | .Assign [.Name x _] (.ListComp elt gens scope _) _ => match evComp r sc φ elt gens scope σ with
    | some (xs, σ) => if mutN.contains x then (stN sc φ x (.ref σ.length)).map fun φ => (.nxt, φ, σ ++ [.list xs]) else (stN sc φ x (.d (.list xs))).map fun φ => (.nxt, φ, σ)
    | none => none
  | .Assign [.Name x _] value _ =>
    if plainVal value then
      if mutN.contains x && isNewForm value then
        match evNew r sc φ value σ with
        | some (xs, σ) => (stN sc φ x (.ref σ.length)).map fun φ => (.nxt, φ, σ ++ [.list xs])
        | none => none
      else match r.ev sc φ value σ with
        | some (v, σ) => (stN sc φ x v).map fun φ => (.nxt, φ, σ)
        | none => none
    else none
  | .Assign [.Tuple [.Name x px, .Name y py] _ _] (.Tuple [.Name a p, .Name b q] k r') _ =>
    if (x == y) = false ∧ sc.names.lookup x = some .local ∧ sc.names.lookup y = some .local ∧ (py.line == px.line) = true ∧ (a == S "__debug__") = false ∧ (b == S "__debug__") = false then match r.ev sc φ (.Tuple [.Name a p, .Name b q] k r') σ with
      | some (.d (.tuple [u, v]), σ) => match stN sc φ x (.d u) with
        | some φ => (stN sc φ y (.d v)).map fun φ => (.nxt, φ, σ)
        | none => none
      | _ => none
    else none
  | .Assign [.Tuple ts _ _] value _ => match namesOf ts with
    | some xs => if plainVal value && noTup value then match r.ev sc φ value σ with
      | some (.d (.tuple ds), σ) => if ds.length < 1000 then (stAll sc xs ds φ).map fun φ => (.nxt, φ, σ) else none
      | _ => none
      else none
    | none => none
  | .Assign [.Subscript o i _] value _ => if plainVal value then match i with
    | .Slice .. => none
    | i => match r.ev sc φ value σ with
      | some (v, σ) => match r.ev sc φ o σ with
        | some (ov, σ) => match r.ev sc φ i σ with
          | some (.d (.int k), σ) => (setAt ov k v σ).map fun σ => (.nxt, φ, σ)
          | _ => none
        | none => none
      | none => none
    else none
  | .AugAssign (.Name x _) .Add value _ => if x == S "__classdict__" then none else match ldN sc φ x with
    | some (.d (.int a)) => match r.ev sc φ value σ with
      | some (.d (.int b), σ) => (stN sc φ x (.d (.int (a + b)))).map fun φ => (.nxt, φ, σ)
      | _ => none
    | _ => none
  | .If t b o _ => match r.tr sc φ t σ with
    | some (true, σ) => exs r sc b φ σ
    | some (false, σ) => exs r sc o φ σ
    | none => none
  | .While t b [] _ => r.wh sc t b φ σ
  | .For (.Name x _) iter body [] _ => if plainIter iter then match r.ev sc φ iter σ with
    | some (v, σ) => match forItems v σ with
      | some (items, σ) => eFor r sc x body items φ σ
      | none => none
    | none => none
    else none
  | .Return (some e) _ => match r.ev sc φ e σ with
    | some (v, σ) => some (.ret v, φ, σ)
    | none => none
  | .Return none _ => some (.ret (.d .none), φ, σ)
  | .Break _ => some (.brk, φ, σ)
  | .Pass _ => some (.nxt, φ, σ)
  | .Expr (.Call f as ks p) _ => match r.ev sc φ (.Call f as ks p) σ with
    | some (.d .none, σ) => some (.nxt, φ, σ)
    | _ => none
  | .Try body _ [] [] _ => match exs r sc body φ σ with
    | some (.nxt, φ, σ) => some (.nxt, φ, σ)
    | _ => none
  | _ => none

def stepWh (sc : Scope) (t : Expr) (b : List Stmt) (φ : Frm) (σ : Store) : Option (Fl × Frm × Store) :=
  match r.tr sc φ t σ with
  | some (false, σ) => some (.nxt, φ, σ)
  | some (true, σ) => match exs r sc b φ σ with
    | some (.nxt, φ, σ) => r.wh sc t b φ σ
    | some (.cnt, φ, σ) => r.wh sc t b φ σ
    | some (.brk, φ, σ) => some (.nxt, φ, σ)
    | some (.ret v, φ, σ) => some (.ret v, φ, σ)
    | none => none
  | none => none

def stepR : Rec := ⟨stepEv T r, stepTr r, stepEx r, stepWh r⟩
end

def R (T : Txt) : Nat → Rec
  | 0 => ⟨fun _ _ _ _ => none, fun _ _ _ _ => none, fun _ _ _ _ => none, fun _ _ _ _ _ => none⟩
  | n + 1 => stepR T (R T n)

end Mine
end
section
open PySem PySem.W PyProof.Rows
set_option maxRecDepth 10000
namespace Mine

structure AOk (n : Nat) (A : Around) : Prop where
  hh : A.handled = none
  dp : A.depth + n < 990
  un : A.units + 3 * n + 100 < 9900
theorem AOk.le {n m : Nat} {A : Around} (a : AOk n A) (h : m ≤ n) : AOk m A := ⟨a.hh, by have := a.dp; omega, by have := a.un; omega⟩
theorem AOk.room {n : Nat} {A : Around} (a : AOk n A) : A.depth < recursionLimit := by have := a.dp; unfold recursionLimit; omega
theorem AOk.u64 {n : Nat} {A : Around} (a : AOk n A) : A.units + 66 < cLine := by have := a.un; unfold cLine; omega
theorem AOk.deeper {n : Nat} {A : Around} (a : AOk (n + 1) A) (env : Env) : AOk n (A.deeper env) := ⟨a.hh, by have := a.dp; show A.depth + 1 + n < 990; omega, by have := a.un; show A.units + 3 + 3 * n + 100 < 9900; omega⟩

section
variable (prog : Program) (w : World) (h₀ : Heap)

/-- a tree gives pv, leaving the store σ' -/
def SndV (A : Around) (Z : ZP) (ρ : List Addr) (s : Shared) (t : Sem Value) (pv : PV) (σ' : Store) : Prop :=
  ∀ (E : Value → Shared → Prop) (Q : Value → Shared → Prop), (∀ v s' Z' ρ', Grow [] Z ρ s Z' ρ' s' → Base prog w h₀ Z' ρ' σ' s' → VR Z' ρ' pv v → Q v s') → wpAny (model prog w) A t Q E s
def SndB (A : Around) (Z : ZP) (ρ : List Addr) (s : Shared) (t : Sem Bool) (b : Bool) (σ' : Store) : Prop :=
  ∀ (E : Value → Shared → Prop) (Q : Bool → Shared → Prop), (∀ s' Z' ρ', Grow [] Z ρ s Z' ρ' s' → Base prog w h₀ Z' ρ' σ' s' → Q b s') → wpAny (model prog w) A t Q E s
def envAdrs (env : Env) : List Addr := env.locals :: (env.cells.map (·.2)).filter fun c => decide (env.locals < c)
def allAdrs (env : Env) : List Addr := env.locals :: env.cells.map (·.2)
theorem env_all {env : Env} {b : Addr} (h : b ∈ envAdrs env) : b ∈ allAdrs env := by
  rcases List.mem_cons.mp h with e | h
  · exact e ▸ List.mem_cons_self
  · exact List.mem_cons_of_mem _ (List.mem_filter.mp h).1
theorem not_env {env : Env} {b : Addr} (h : b ∉ allAdrs env) : b ∉ envAdrs env := fun q => h (env_all q)
def SndF (A : Around) (env : Env) (Z : ZP) (ρ : List Addr) (s : Shared) (t : Sem Flow) (f : Fl) (φ' : Frm) (σ' : Store) : Prop :=
  ∀ (E : Value → Shared → Prop) (Q : Flow → Shared → Prop), (∀ v s' Z' ρ', Grow (envAdrs env) Z ρ s Z' ρ' s' → Base prog w h₀ Z' ρ' σ' s' → Loc Z' ρ' env φ' s' → FlR Z' ρ' f v → Q v s') → wpAny (model prog w) A t Q E s

structure SoundR (r : Rec) (n : Nat) : Prop where
  ev : ∀ {sc φ e σ pv σ'}, r.ev sc φ e σ = some (pv, σ') → ∀ {A : Around} {env : Env} {Z : ZP} {ρ : List Addr} {s : Shared}, AOk n A → env.scope = sc → Base prog w h₀ Z ρ σ s → Loc Z ρ env φ s →
    SndV prog w h₀ A Z ρ s (eval e env) pv σ'
  tr : ∀ {sc φ e σ b σ'}, r.tr sc φ e σ = some (b, σ') → ∀ {A : Around} {env : Env} {Z : ZP} {ρ : List Addr} {s : Shared}, AOk n A → env.scope = sc → Base prog w h₀ Z ρ σ s → Loc Z ρ env φ s →
    SndB prog w h₀ A Z ρ s (isTrue e env (eval e env)) b σ'
  ex : ∀ {sc st φ σ f φ' σ'}, r.ex sc st φ σ = some (f, φ', σ') → ∀ {A : Around} {env : Env} {Z : ZP} {ρ : List Addr} {s : Shared}, AOk n A → env.scope = sc → Base prog w h₀ Z ρ σ s → Loc Z ρ env φ s →
    SndF prog w h₀ A env Z ρ s (exec st env) f φ' σ'
  wh : ∀ {sc t b φ σ f φ' σ'}, r.wh sc t b φ σ = some (f, φ', σ') → ∀ {A : Around} {env : Env} {Z : ZP} {ρ : List Addr} {s : Shared}, AOk n A → env.scope = sc → Base prog w h₀ Z ρ σ s → Loc Z ρ env φ s →
    ∀ (R : Result → Shared → Prop), (∀ v s' Z' ρ', Grow (envAdrs env) Z ρ s Z' ρ' s' → Base prog w h₀ Z' ρ' σ' s' → Loc Z' ρ' env φ' s' → FlR Z' ρ' f v → R (.ok v) s') →
      codeAny (model prog w) A (.whileLoop t b [] env) R s

/-- what global names mean -/
def GLoads (gv : Str → Option Value) : Prop := ∀ x v, gv x = some v → ∀ (A : Around) (E : Value → Shared → Prop) (s : Shared) (env : Env) (Q : Value → Shared → Prop),
  (∀ b o, h₀.get? b = some o → s.heap.get? b = some o) → env.globals = mainGlobals → env.builtins = builtinsNs → Q v s → wpAny (model prog w) A (loadGlobal env x) Q E s
end

section
variable {prog : Program} {w : World} {h₀ : Heap} {A : Around} {E : Value → Shared → Prop} {s : Shared} {Z : ZP} {ρ : List Addr} {σ σ' : Store} {env : Env} {φ : Frm} {n : Nat}

theorem Base.h0 (B : Base prog w h₀ Z ρ σ s) : ∀ b o, h₀.get? b = some o → s.heap.get? b = some o := fun b o e => B.keep b o (B.old b o e)
theorem Base.tok (B : Base prog w h₀ Z ρ σ s) (t : Nat) : Base prog w h₀ Z ρ σ { s with toks := t } := B.ext fun _ _ e => e
theorem Grow.tok (X : List Addr) (Z : ZP) (ρ : List Addr) (s : Shared) (t : Nat) : Grow X Z ρ s Z ρ { s with toks := t } := .ext (fun _ _ e => e) (Sh.heap _ _)

theorem SndV.ofPure {t : Sem Value} {pv : PV} (B : Base prog w h₀ Z ρ σ s) (h : ∀ (E : Value → Shared → Prop) (Q : Value → Shared → Prop), (∀ v tk, VR Z ρ pv v → Q v { s with toks := tk }) → wpAny (model prog w) A t Q E s) :
    SndV prog w h₀ A Z ρ s t pv σ := fun E Q k => h E Q fun v tk hv => k v _ Z ρ (.tok ..) (B.tok tk) hv

theorem snd_const {c : Const} {x : PyData} {kk : Nat} {pos : Pos} (hc : evConst c = some x) (B : Base prog w h₀ Z ρ σ s) : SndV prog w h₀ A Z ρ s (eval (.Constant c kk pos) env) (.d x) σ := by
  refine SndV.ofPure B fun E Q k => ?_
  rw [arm_eval_Constant]
  cases c with
  | none => cases hc; exact wpAny_pure (k _ s.toks .none)
  | bool b => cases hc; exact wpAny_pure (k _ s.toks (.bool b))
  | int i => cases hc; exact fun _ _ _ => k (.int i s.toks) (s.toks + 1) (.int i _)
  | _ => cases hc

theorem Loc.load (L : Loc Z ρ env φ s) {sc : Scope} (hs : env.scope = sc) {x : Str} {pv : PV} (h : ldN sc φ x = some pv) (hx : (x == ("__classdict__" : Str)) = false) :
    ∃ v, VR Z ρ pv v ∧ ∀ (A : Around) (E : Value → Shared → Prop) (Q : Value → Shared → Prop), Q v s → wpAny (model prog w) A (loadName env x) Q E s := by
  subst hs
  unfold ldN at h
  split at h
  · rename_i hk
    obtain ⟨m, hn, hm⟩ := L.ns
    obtain ⟨v, hv, hr⟩ := hm x pv h
    exact ⟨v, hr, fun A E Q q => wpAny_loadName_local L.hk hk hn hv q⟩
  · rename_i hk
    obtain ⟨c, v, h1, h2, h3⟩ := L.ce x pv h
    exact ⟨v, h3, fun A E Q q => wpAny_loadName_cell L.hk hk h1 h2 q⟩
  · rename_i hk
    obtain ⟨c, v, h1, h2, h3⟩ := L.ce x pv h
    exact ⟨v, h3, fun A E Q q => wpAny_loadName_free L.hk hk h1 h2 q hx⟩
  · cases h

theorem snd_name {x : Str} {pos : Pos} {pv : PV} {sc : Scope} (L : Loc Z ρ env φ s) (B : Base prog w h₀ Z ρ σ s) (hs : env.scope = sc) (h : ldN sc φ x = some pv) (hd : (x == ("__debug__" : Str)) = false)
    (hx : (x == ("__classdict__" : Str)) = false) : SndV prog w h₀ A Z ρ s (eval (.Name x pos) env) pv σ := by
  obtain ⟨v, hv, hl⟩ := L.load (prog := prog) (w := w) hs h hx
  exact SndV.ofPure B fun E Q k => wpAny_Name (hl A E Q (k v s.toks hv)) hd

theorem bin_int {op : Operator} {a b c : PyData} {va vb : Value} (h : pBin op a b = some c) (ha : VD Z va a) (hb : VD Z vb b) {Q : Value → Shared → Prop} (k : ∀ v tk, VD Z v c → Q v { s with toks := tk }) :
    wpAny (model prog w) A (binaryOp op va vb) Q E s := by
  unfold pBin at h
  split at h
  · cases ha; cases hb; cases h; exact P.add_int (k _ _ (.int _ _))
  · cases ha; cases hb; cases h; exact P.sub_int (k _ _ (.int _ _))
  · split at h
    · rename_i hlt
      cases ha; cases hb; cases h
      exact P.mul_int (k _ _ (.int _ _)) (IntMulOk.of_right (intBits_le_64 (by omega) (by omega)))
    · cases h
  · split at h
    · cases h
    · rename_i hne
      cases ha; cases hb; cases h
      exact AutoIntOps.mod_1 (by simpa using hne) (k _ _ (.int _ _))
  · split at h
    · cases h
    · rename_i hne
      split at h
      · rename_i hlt
        cases ha; cases hb; cases h
        exact AutoIntOps.floordiv_1 (by simpa using hne) (by rw [PyProof.noPylong_small hlt]; exact Bool.false_ne_true) (k _ _ (.int _ _))
      · cases h
  · split at h
    · rename_i hab
      split at h
      · rename_i hbb
        cases ha; cases hb; cases h
        rename_i x y t u
        by_cases h0 : y = 0
        · subst h0
          have e : x ^ Int.toNat 0 = 1 := by simp
          exact AutoIntOps.pow_0 (by omega) (by decide) (k (.int 1 _) _ (e.symm ▸ .int _ _))
        · have hx0 : ¬(x == 0 || x == 1) = true := by rcases hab with e | e <;> subst e <;> decide
          have hx1 : ¬(x == -1) = true := by rcases hab with e | e <;> subst e <;> decide
          have hbits : ¬Builtin.Int.intTooBig (((Builtin.Int.intBits x : Nat) : Int) * y) = true := by
            have : y = 0 ∨ y = 1 ∨ y = 2 ∨ y = 3 ∨ y = 4 ∨ y = 5 ∨ y = 6 ∨ y = 7 ∨ y = 8 ∨ y = 9 ∨ y = 10 ∨ y = 11 ∨ y = 12 ∨ y = 13 ∨ y = 14 ∨ y = 15 := by omega
            rcases hab with e | e <;> subst e <;> rcases this with q | q | q | q | q | q | q | q | q | q | q | q | q | q | q | q <;> subst q <;> decide +kernel
          exact AutoIntOps.pow_4 (by omega) (by simpa using h0) hx0 hx1 hbits (k _ _ (.int _ _))
      · cases h
    · cases h
  · cases h

theorem cmp_data {op : CmpOp} {a b : PyData} {c : Bool} {va vb : Value} (hA : AOk n A) (B : Base prog w h₀ Z ρ σ s) (h : pCmp op a b = some c) (ha : VD Z va a) (hb : VD Z vb b) {Q : Value → Shared → Prop} (k : Q (.bool c) s) :
    wpAny (model prog w) A (compareOp op va vb) Q E s := by
  have hu := hA.u64
  obtain ⟨as, ra⟩ := ha.reads B.keep
  obtain ⟨bs, rb⟩ := hb.reads B.keep
  have la := ha.canLay0
  have lb := hb.canLay0
  unfold pCmp at h
  split at h
  · split at h
    · rename_i hs
      cases h
      refine SeqAt.compareEq_reads ra rb la lb ?_ k
      unfold shallow at hs
      rw [Bool.or_eq_true] at hs
      rcases hs with q | q <;> have := of_decide_eq_true q <;> omega
    · cases h
  · split at h
    · rename_i hs
      cases h
      refine SeqAt.compareNe_reads ra rb la lb ?_ k
      unfold shallow at hs
      rw [Bool.or_eq_true] at hs
      rcases hs with q | q <;> have := of_decide_eq_true q <;> omega
    · cases h
  · split at h
    · cases ha; cases hb; cases h; exact P.lt_int k
    · cases h
  · split at h
    · cases ha; cases hb; cases h; exact P.gt_int k
    · cases h
  · split at h
    · split at h
      · rename_i hs
        cases h
        exact SeqAt.in_list_reads rb ra (by rw [PyData.canLay0] at lb; exact lb) la (by omega) k
      · cases h
    · cases h
  · split at h
    · split at h
      · rename_i hs
        cases h
        exact SeqAt.notIn_list_reads rb ra (by rw [PyData.canLay0] at lb; exact lb) la (by omega) k
      · cases h
    · cases h
  · split at h
    · cases ha; cases hb; cases h; exact wpAny_bind (wpAny_pure (wpAny_pure k))
    · cases ha; cases hb; cases h; exact wpAny_bind (wpAny_pure (wpAny_pure k))
    · cases ha; cases hb; cases h; exact wpAny_bind (wpAny_pure (wpAny_pure k))
    · cases h
  · split at h
    · cases ha; cases hb; cases h; exact wpAny_bind (wpAny_pure (wpAny_pure k))
    · cases h
  · cases h
end

end Mine
end
section
open PySem PySem.W PyProof.Rows
set_option maxRecDepth 10000
namespace Mine
section
variable {prog : Program} {w : World} {h₀ : Heap} {A : Around} {E : Value → Shared → Prop} {s s' : Shared} {Z Z' : ZP} {ρ ρ' : List Addr} {σ σ' σ'' : Store} {env : Env} {φ : Frm} {n : Nat} {X : List Addr} {sc : Scope}

theorem Grow.back (g : Grow X Z ρ s Z' ρ' s') (B : Base prog w h₀ Z' ρ' σ' s') (hX : ∀ b ∈ X, ∃ o, s'.heap.get? b = some o) {b : Addr} (hb : s'.heap.get? b = none) : s.heap.get? b = none := by
  obtain ⟨l, e, hl⟩ := g.pre
  cases q : s.heap.get? b with
  | none => rfl
  | some o =>
    exfalso
    by_cases h1 : b ∈ ρ
    · obtain ⟨o', ho'⟩ := B.alive (a := b) (by rw [e]; exact List.mem_append_left _ h1)
      rw [hb] at ho'; cases ho'
    · by_cases h2 : b ∈ X
      · obtain ⟨o', ho'⟩ := hX b h2; rw [hb] at ho'; cases ho'
      · have := g.old b o h1 h2 q; rw [hb] at this; cases this
theorem Grow.back0 (g : Grow [] Z ρ s Z' ρ' s') (B : Base prog w h₀ Z' ρ' σ' s') {b : Addr} (hb : s'.heap.get? b = none) : s.heap.get? b = none := g.back B (fun _ h => nomatch h) hb

variable (prog w h₀) in
/-- a tree gives a new list, not frozen yet -/
def SndN (A : Around) (Z : ZP) (ρ : List Addr) (s : Shared) (t : Sem Value) (xs : List PyData) (σ' : Store) : Prop :=
  ∀ (E : Value → Shared → Prop) (Q : Value → Shared → Prop), (∀ a vs s' Z' ρ', Grow [] Z ρ s Z' ρ' s' → Base prog w h₀ Z' ρ' σ' s' → s.heap.get? a = none → s'.heap.PlainList a (List.toArray vs) → VDs Z' vs xs →
    (∀ o, ¬ Z' a o) → a ∉ ρ' → Q (.ref a) s') → wpAny (model prog w) A t Q E s

theorem SndN.toV {t : Sem Value} {xs : List PyData} (h : SndN prog w h₀ A Z ρ s t xs σ') : SndV prog w h₀ A Z ρ s t (.d (.list xs)) σ' := fun E Q k =>
  h E Q fun a vs s' Z' ρ' g B hn hp hv _ hr => by
    obtain ⟨m, ho⟩ := hp
    exact k (.ref a) s' _ ρ' (g.freeze (o := { cls := .type "list", data := .seq vs.toArray m }) hn) (B.freeze ho hr)
      (VD.list (ZAdd.here _ _ _) rfl rfl (by simpa using VDs.mono (ZAdd.sub _ _ _) hv))

variable (prog w h₀) in
def SndL (A : Around) (Z : ZP) (ρ : List Addr) (s : Shared) (t : Sem (List Value)) (pvs : List PV) (σ' : Store) : Prop :=
  ∀ (E : Value → Shared → Prop) (Q : List Value → Shared → Prop), (∀ vs s' Z' ρ', Grow [] Z ρ s Z' ρ' s' → Base prog w h₀ Z' ρ' σ' s' → All2 (VR Z' ρ') pvs vs → Q vs s') → wpAny (model prog w) A t Q E s

theorem starEach_cons {e : Expr} {es : List Expr} (h : ∀ x p, e ≠ .Starred x p) : starEach (e :: es) env = (false, eval e env) :: starEach es env := by
  cases e <;> first | rfl | exact absurd rfl (h _ _)

theorem VR.grow (g : Grow X Z ρ s Z' ρ' s') {pv : PV} {v : Value} (h : VR Z ρ pv v) : VR Z' ρ' pv v := by
  obtain ⟨l, e, _⟩ := g.pre
  rw [e]; exact VR.mono g.zz h

theorem snd_evs {r : Rec} (S : SoundR prog w h₀ r n) (hA : AOk n A) (hs : env.scope = sc) (pos : Pos) : ∀ {es : List Expr} {vs : List PV} {σ σ' : Store} {Z : ZP} {ρ : List Addr} {s : Shared},
    evs r sc φ es σ = some (vs, σ') → Base prog w h₀ Z ρ σ s → Loc Z ρ env φ s → SndL prog w h₀ A Z ρ s (spliced (backTo pos (starEach es env))) vs σ'
  | [], vs, σ, σ', Z, ρ, s, h, B, L => by
    unfold evs at h
    cases h
    intro E Q k
    exact Calls.spliced_nil (k [] s Z ρ (.refl ..) B .nil)
  | e :: es, vs, σ, σ', Z, ρ, s, h, B, L => by
    have hst : ∀ x p, e ≠ .Starred x p := fun x p q => by subst q; unfold evs at h; cases h
    have h' : (match r.ev sc φ e σ with
      | some (v, σ) => match evs r sc φ es σ with
        | some (vs, σ) => some (v :: vs, σ)
        | none => none
      | none => none) = some (vs, σ') := by
      cases e <;> first | exact h | exact absurd rfl (hst _ _)
    cases h1 : r.ev sc φ e σ with
    | none => rw [h1] at h'; cases h'
    | some p =>
      obtain ⟨v, σ₁⟩ := p
      rw [h1] at h'
      cases h2 : evs r sc φ es σ₁ with
      | none => simp only [h2] at h'; cases h'
      | some p =>
        obtain ⟨us, σ₂⟩ := p
        simp only [h2] at h'
        cases h'
        intro E Q k
        rw [starEach_cons hst]
        refine Calls.spliced_cons (S.ev h1 hA hs B L E _ fun v₁ s₁ Z₁ ρ₁ g₁ B₁ r₁ => ?_)
        refine snd_evs S hA hs pos h2 B₁ (L.grow g₁) E _ fun us₁ s₂ Z₂ ρ₂ g₂ B₂ r₂ => ?_
        exact k _ s₂ Z₂ ρ₂ (g₁.tr B₁ g₂) B₂ (.cons (r₁.grow g₂) r₂)

theorem datas_all2 : ∀ {pvs : List PV} {xs : List PyData} {vs : List Value}, datas? pvs = some xs → All2 (VR Z ρ) pvs vs → VDs Z vs xs
  | [], xs, _, h, .nil => by unfold datas? at h; cases h; exact .nil
  | .d x :: r, xs, _, h, .cons h1 h2 => by
    unfold datas? at h
    cases q : datas? r with
    | none => rw [q] at h; cases h
    | some ys => rw [q] at h; cases h; exact .cons h1 (datas_all2 q h2)
  | .ref _ :: _, _, _, h, _ => by unfold datas? at h; cases h
  | .rng .. :: _, _, _, h, _ => by unfold datas? at h; cases h

theorem evs_length {r : Rec} : ∀ {es : List Expr} {vs : List PV} {σ σ' : Store}, evs r sc φ es σ = some (vs, σ') → vs.length = es.length
  | [], vs, σ, σ', h => by unfold evs at h; cases h; rfl
  | e :: es, vs, σ, σ', h => by
    have hst : ∀ x p, e ≠ .Starred x p := fun x p q => by subst q; unfold evs at h; cases h
    have h' : (match r.ev sc φ e σ with
      | some (v, σ) => match evs r sc φ es σ with
        | some (vs, σ) => some (v :: vs, σ)
        | none => none
      | none => none) = some (vs, σ') := by
      cases e <;> first | exact h | exact absurd rfl (hst _ _)
    cases h1 : r.ev sc φ e σ with
    | none => rw [h1] at h'; cases h'
    | some p =>
      rw [h1] at h'
      cases h2 : evs r sc φ es p.2 with
      | none => simp only [h2] at h'; cases h'
      | some p =>
        simp only [h2] at h'
        cases h'
        rw [List.length_cons, List.length_cons, evs_length h2]

/-- a new object onto the heap, frozen -/
theorem push_frozen (B : Base prog w h₀ Z ρ σ s) (o : Obj) (hf : o.isFreed = false) :
    Grow [] Z ρ s (ZAdd Z s.heap.objs.size o) ρ { s with heap := s.heap.push o } ∧ Base prog w h₀ (ZAdd Z s.heap.objs.size o) ρ σ { s with heap := s.heap.push o } := by
  have hn : s.heap.get? s.heap.objs.size = none := none_size _ (Nat.le_refl _)
  have hk : ∀ b o', s.heap.get? b = some o' → (s.heap.push o).get? b = some o' := fun b o' e => Heap.get?_push_of_some _ e
  exact ⟨(Grow.ext (s' := { s with heap := s.heap.push o }) hk (Sh.heap _ _)).freeze hn, (B.ext (s' := { s with heap := s.heap.push o }) hk).freeze (Heap.get?_push_size _ hf) (B.notR hn)⟩
theorem push_cell (B : Base prog w h₀ Z ρ σ s) (o : Obj) (po : PO) (hf : OR prog w Z (ρ ++ [s.heap.objs.size]) (s.heap.push o) s.heap.objs.size po) :
    Grow [] Z ρ s Z (ρ ++ [s.heap.objs.size]) { s with heap := s.heap.push o } ∧ Base prog w h₀ Z (ρ ++ [s.heap.objs.size]) (σ ++ [po]) { s with heap := s.heap.push o } := by
  have hn : s.heap.get? s.heap.objs.size = none := none_size _ (Nat.le_refl _)
  have hk : ∀ b o', s.heap.get? b = some o' → (s.heap.push o).get? b = some o' := fun b o' e => Heap.get?_push_of_some _ e
  exact ⟨(Grow.ext (s' := { s with heap := s.heap.push o }) hk (Sh.heap _ _)).add hn, (B.ext (s' := { s with heap := s.heap.push o }) hk).add (B.notZ hn) (B.notR hn) hf⟩

theorem newList_snd {vs : List Value} {xs : List PyData} (B : Base prog w h₀ Z ρ σ s) (hv : VDs Z vs xs) (hsz : xs.length ≤ sizeLine) : SndN prog w h₀ A Z ρ s (newList vs) xs σ := fun E Q k => by
  have hn : s.heap.get? s.heap.objs.size = none := none_size _ (Nat.le_refl _)
  have hk : ∀ b o', s.heap.get? b = some o' → (s.heap.push { cls := .type "list", data := .seq vs.toArray }).get? b = some o' := fun b o' e => Heap.get?_push_of_some _ e
  refine wpAny_newList (k _ vs { s with heap := s.heap.push { cls := .type "list", data := .seq vs.toArray } } Z ρ (.ext hk (Sh.heap _ _)) (B.ext hk) hn ⟨_, Heap.get?_push_size _ rfl⟩ hv (B.notZ hn) (B.notR hn)) (by rw [hv.length]; exact hsz)
theorem newTuple_snd {vs : List Value} {xs : List PyData} (B : Base prog w h₀ Z ρ σ s) (hv : VDs Z vs xs) (hsz : xs.length ≤ sizeLine) : SndV prog w h₀ A Z ρ s (newTuple vs) (.d (.tuple xs)) σ := fun E Q k => by
  obtain ⟨g, B'⟩ := push_frozen B { cls := .type "tuple", data := .seq vs.toArray } rfl
  exact wpAny_newTuple (k _ _ _ _ g B' (VD.tuple (ZAdd.here _ _ _) rfl rfl (by simpa using VDs.mono (ZAdd.sub _ _ _) hv))) (by rw [hv.length]; exact hsz)

theorem SndV.then {t : Sem Value} {f : Value → Sem Value} {pv pv' : PV} {E : Value → Shared → Prop} {Q : Value → Shared → Prop} (h : SndV prog w h₀ A Z ρ s t pv σ')
    (hf : ∀ v s' Z' ρ', Grow [] Z ρ s Z' ρ' s' → Base prog w h₀ Z' ρ' σ' s' → VR Z' ρ' pv v → wpAny (model prog w) A (f v) Q E s') : wpAny (model prog w) A t (fun v s' => wpAny (model prog w) A (f v) Q E s') E s := h E _ hf

theorem lt_sizeLine {n : Nat} (h : n < 1000000) : n ≤ sizeLine := by rw [sizeLine_eq]; omega

theorem snd_list {r : Rec} (S : SoundR prog w h₀ r n) (hA : AOk n A) (hs : env.scope = sc) {elts : List Expr} {pos : Pos} {xs : List PyData} (h : evNew r sc φ (.List elts pos) σ = some (xs, σ')) (B : Base prog w h₀ Z ρ σ s) (L : Loc Z ρ env φ s) :
    SndN prog w h₀ A Z ρ s (eval (.List elts pos) env) xs σ' := by
  unfold evNew at h
  simp only at h
  split at h
  · rename_i hl
    cases h1 : evs r sc φ elts σ with
    | none => rw [h1] at h; cases h
    | some p =>
      obtain ⟨vs, σ₁⟩ := p
      rw [h1] at h
      cases h2 : datas? vs with
      | none => simp only [h2] at h; cases h
      | some ys =>
        simp only [h2] at h
        cases h
        intro E Q k
        refine List_ (snd_evs S hA hs pos h1 B L E _ fun us s₁ Z₁ ρ₁ g₁ B₁ r₁ => ?_)
        have hv := datas_all2 h2 r₁
        refine newList_snd B₁ hv ?_ E Q fun a vs' s₂ Z₂ ρ₂ g₂ B₂ hn hp hv₂ hz hr => k a vs' s₂ Z₂ ρ₂ (g₁.tr B₁ g₂) B₂ (g₁.back0 B₁ hn) hp hv₂ hz hr
        have e1 := evs_length h1
        have e2 := r₁.length
        have e3 := hv.length
        exact lt_sizeLine (by omega)
  · cases h

theorem snd_tuple {r : Rec} (S : SoundR prog w h₀ r n) (hA : AOk n A) (hs : env.scope = sc) {elts : List Expr} {kk : Nat} {pos : Pos} {vs : List PV} {xs : List PyData} (hl : elts.length < 1000) (h1 : evs r sc φ elts σ = some (vs, σ')) (h2 : datas? vs = some xs)
    (B : Base prog w h₀ Z ρ σ s) (L : Loc Z ρ env φ s) : SndV prog w h₀ A Z ρ s (eval (.Tuple elts kk pos) env) (.d (.tuple xs)) σ' := fun E Q k => by
  refine Tuple_ (snd_evs S hA hs pos h1 B L E _ fun us s₁ Z₁ ρ₁ g₁ B₁ r₁ => ?_)
  have hv := datas_all2 h2 r₁
  refine newTuple_snd B₁ hv ?_ E Q fun v s₂ Z₂ ρ₂ g₂ B₂ r₂ => k v s₂ Z₂ ρ₂ (g₁.tr B₁ g₂) B₂ r₂
  have e1 := evs_length h1
  have e2 := r₁.length
  have e3 := hv.length
  exact lt_sizeLine (by omega)

theorem IsL_of_VD {v : Value} {xs : List PyData} (B : Base prog w h₀ Z ρ σ s) (h : VD Z v (.list xs)) : ∃ a vs, v = .ref a ∧ s.heap.IsList a vs ∧ VDs Z vs.toList xs := by
  cases h with
  | list ha hc hd hs => exact ⟨_, _, rfl, ⟨_, B.keep _ _ ha, hc, _, hd⟩, hs⟩
end
end Mine
end
section
open PySem PySem.W PyProof.Rows
set_option maxRecDepth 10000
namespace Mine
section
variable {prog : Program} {w : World} {h₀ : Heap} {A : Around} {E : Value → Shared → Prop} {s s' : Shared} {Z Z' : ZP} {ρ ρ' : List Addr} {σ σ' σ'' : Store} {env : Env} {φ : Frm} {n : Nat} {X : List Addr} {sc : Scope}

theorem add_lists_base {l b : Addr} {vs ws : Array Value} {Q : Value → Shared → Prop} (hl : s.heap.IsList l vs) (hb : s.heap.IsList b ws)
    (h : Q (.ref s.heap.objs.size) { s with heap := s.heap.push { cls := .type "list", data := .seq (vs ++ ws) } }) (hsz : vs.size + ws.size ≤ sizeLine) :
    wpAny (model prog w) A (binaryOp .Add (.ref l) (.ref b)) Q E s := by
  obtain ⟨⟨cls, dd, data, sl⟩, ho, hc, n, hd⟩ := id hl
  obtain ⟨⟨cls2, dd2, data2, sl2⟩, ho2, hc2, n2, hd2⟩ := id hb
  simp only at hc hd hc2 hd2
  subst hc hd hc2 hd2
  exact concat_meets ⟨_, ho, rfl⟩ ⟨_, ho2, rfl⟩ noFill_list_add seq_list_add PySem.F.slot_list_add PySem.F.entry_list_add (PySem.F.args_list_add_2 _ _) (list_addW l b vs ws n n2 dd dd2 sl sl2 hsz) ⟨ho, ho2, h⟩

theorem add_fin {l b : Addr} {vs ws : Array Value} {xs ys : List PyData} (B : Base prog w h₀ Z ρ σ s) (hl : s.heap.IsList l vs) (hb : s.heap.IsList b ws) (h1 : VDs Z vs.toList xs) (h2 : VDs Z ws.toList ys) (hz : xs.length + ys.length < 1000000) :
    SndN prog w h₀ A Z ρ s (binaryOp .Add (.ref l) (.ref b)) (xs ++ ys) σ := fun E Q k => by
  have hn : s.heap.get? s.heap.objs.size = none := none_size _ (Nat.le_refl _)
  have hk : ∀ b' o', s.heap.get? b' = some o' → (s.heap.push { cls := .type "list", data := .seq (vs ++ ws) }).get? b' = some o' := fun b' o' e => Heap.get?_push_of_some _ e
  have hv := h1.append h2
  refine add_lists_base hl hb (k _ (vs.toList ++ ws.toList) { s with heap := s.heap.push { cls := .type "list", data := .seq (vs ++ ws) } } Z ρ (.ext hk (Sh.heap _ _)) (B.ext hk) hn ⟨0, ?_⟩ hv (B.notZ hn) (B.notR hn)) ?_
  · have e : (vs.toList ++ ws.toList).toArray = vs ++ ws := by simp
    rw [e]
    exact Heap.get?_push_size _ rfl
  · have e1 := h1.length
    have e2 := h2.length
    rw [Array.length_toList] at e1 e2
    rw [e1, e2]; exact lt_sizeLine hz

theorem snd_add {r : Rec} (S : SoundR prog w h₀ r n) (hA : AOk n A) (hs : env.scope = sc) {l rr : Expr} {pos : Pos} {xs : List PyData} (h : evNew r sc φ (.BinOp l .Add rr pos) σ = some (xs, σ')) (B : Base prog w h₀ Z ρ σ s) (L : Loc Z ρ env φ s) :
    SndN prog w h₀ A Z ρ s (eval (.BinOp l .Add rr pos) env) xs σ' := by
  unfold evNew at h
  simp only at h
  intro E Q k
  refine wpAny_BinOp ?_
  split at h
  · rename_i ys σ₁ h1
    split at h
    · rename_i zs σ₂ h2
      split at h
      · rename_i hlt
        cases h
        refine S.ev h1 hA hs B L E _ fun v₁ s₁ Z₁ ρ₁ g₁ B₁ r₁ => S.ev h2 hA hs B₁ (L.grow g₁) E _ fun v₂ s₂ Z₂ ρ₂ g₂ B₂ r₂ => ?_
        obtain ⟨a, va, rfl, ha, hva⟩ := IsL_of_VD B₂ (r₁.grow g₂)
        obtain ⟨b, vb, rfl, hb, hvb⟩ := IsL_of_VD B₂ r₂
        refine add_fin B₂ ha hb hva hvb hlt E Q fun a' vs' s₃ Z₃ ρ₃ g₃ B₃ hn hp hv hz hr => k a' vs' s₃ Z₃ ρ₃ ((g₁.tr B₁ g₂).tr B₂ g₃) B₃ ((g₁.tr B₁ g₂).back0 B₂ hn) hp hv hz hr
      · cases h
    · cases h
  · rename_i j σ₁ h1
    split at h
    · rename_i zs σ₂ h2
      split at h
      · rename_i ys hk
        split at h
        · rename_i hlt
          cases h
          refine S.ev h1 hA hs B L E _ fun v₁ s₁ Z₁ ρ₁ g₁ B₁ r₁ => S.ev h2 hA hs B₁ (L.grow g₁) E _ fun v₂ s₂ Z₂ ρ₂ g₂ B₂ r₂ => ?_
          obtain ⟨a, hja, rfl⟩ := r₁.grow g₂
          obtain ⟨va, hpa, hva⟩ := B₂.objs j a _ hja hk
          obtain ⟨b, vb, rfl, hb, hvb⟩ := IsL_of_VD B₂ r₂
          refine add_fin B₂ hpa.isList hb (by simpa using hva) hvb hlt E Q fun a' vs' s₃ Z₃ ρ₃ g₃ B₃ hn hp hv hz hr => k a' vs' s₃ Z₃ ρ₃ ((g₁.tr B₁ g₂).tr B₂ g₃) B₃ ((g₁.tr B₁ g₂).back0 B₂ hn) hp hv hz hr
        · cases h
      · cases h
    · cases h
  · cases h

/-- comparisons: what the store's part must show is asked of a premise -/
def CmpS (prog : Program) (w : World) (h₀ : Heap) (n : Nat) : Prop := ∀ {op : CmpOp} {a b : PV} {c : Bool} {va vb : Value} {A : Around} {s : Shared} {Z : ZP} {ρ : List Addr} {σ : Store} {E : Value → Shared → Prop} {Q : Value → Shared → Prop}, AOk n A → Base prog w h₀ Z ρ σ s →
  sCmp op a b σ = some c → VR Z ρ a va → VR Z ρ b vb → (∀ tk, Q (.bool c) { s with toks := tk }) → wpAny (model prog w) A (compareOp op va vb) Q E s

theorem snd_compare {r : Rec} (S : SoundR prog w h₀ r n) (C : CmpS prog w h₀ n) (hA : AOk n A) (hs : env.scope = sc) {l rr : Expr} {op : CmpOp} {pos : Pos} {a b : PV} {c : Bool} {σ₁ : Store} (hm : behindInMarks op rr = false)
    (h1 : r.ev sc φ l σ = some (a, σ₁)) (h2 : r.ev sc φ rr σ₁ = some (b, σ')) (h3 : sCmp op a b σ' = some c) (B : Base prog w h₀ Z ρ σ s) (L : Loc Z ρ env φ s) :
    SndV prog w h₀ A Z ρ s (eval (.Compare l [op] [rr] pos) env) (.d (.bool c)) σ' := fun E Q k =>
  wpAny_Compare1 (S.ev h1 hA hs B L E _ fun v₁ s₁ Z₁ ρ₁ g₁ B₁ r₁ => S.ev h2 hA hs B₁ (L.grow g₁) E _ fun v₂ s₂ Z₂ ρ₂ g₂ B₂ r₂ =>
    C hA B₂ h3 (r₁.grow g₂) r₂ fun tk => k _ _ Z₂ ρ₂ ((g₁.tr B₁ g₂).tr B₂ (.tok ..)) (B₂.tok tk) (.bool c)) hm
theorem snd_isCompare {r : Rec} (S : SoundR prog w h₀ r n) (C : CmpS prog w h₀ n) (hA : AOk n A) (hs : env.scope = sc) {l rr : Expr} {op : CmpOp} {pos : Pos} {a b : PV} {c : Bool} {σ₁ : Store} {wh : Sem Value} (hm : behindInMarks op rr = false)
    (h1 : r.ev sc φ l σ = some (a, σ₁)) (h2 : r.ev sc φ rr σ₁ = some (b, σ')) (h3 : sCmp op a b σ' = some c) (B : Base prog w h₀ Z ρ σ s) (L : Loc Z ρ env φ s) :
    SndB prog w h₀ A Z ρ s (isTrue (.Compare l [op] [rr] pos) env wh) c σ' := fun E Q k =>
  wpAny_isTrue_Compare1 (S.ev h1 hA hs B L E _ fun v₁ s₁ Z₁ ρ₁ g₁ B₁ r₁ => S.ev h2 hA hs B₁ (L.grow g₁) E _ fun v₂ s₂ Z₂ ρ₂ g₂ B₂ r₂ =>
    C hA B₂ h3 (r₁.grow g₂) r₂ fun tk => wpAny_truthy_bool (k _ Z₂ ρ₂ ((g₁.tr B₁ g₂).tr B₂ (.tok ..)) (B₂.tok tk))) hm

theorem snd_truthy {v : PV} {u : Value} {b : Bool} (B : Base prog w h₀ Z ρ σ s) (h : sTruthy v σ = some b) (hv : VR Z ρ v u) : SndB prog w h₀ A Z ρ s (truthy u) b σ := fun E Q k => by
  unfold sTruthy at h
  split at h
  · cases h; cases hv; exact wpAny_truthy_bool (k s Z ρ (.refl ..) B)
  · split at h
    · rename_i xs hk
      split at h
      · rename_i hlt
        cases h
        obtain ⟨a, hja, rfl⟩ := hv
        obtain ⟨va, hpa, hva⟩ := B.objs _ a _ hja hk
        have hl := hva.length
        refine wpAny_truthy_list hpa.isList (by rw [List.size_toArray, hl]; omega) ?_
        have e : (!va.toArray.isEmpty) = !xs.isEmpty := by
          rw [List.isEmpty_toArray]
          cases va <;> cases xs <;> simp_all
        rw [e]
        exact k _ Z ρ (.tok ..) (B.tok _)
      · cases h
    · cases h
  · cases h

theorem snd_boolOp {r : Rec} (S : SoundR prog w h₀ r n) (hA : AOk n A) (hs : env.scope = sc) {op : BoolOp} {pos : Pos} : ∀ {es : List Expr} {σ : Store} {pv : PV} {σ' : Store} {Z : ZP} {ρ : List Addr} {s : Shared}, evBool r op sc φ es σ = some (pv, σ') →
    Base prog w h₀ Z ρ σ s → Loc Z ρ env φ s → SndV prog w h₀ A Z ρ s (eval (.BoolOp op es pos) env) pv σ'
  | [], _, _, _, _, _, _, h, _, _ => by unfold evBool at h; cases h
  | [e], σ, pv, σ', Z, ρ, s, h, B, L => by
    unfold evBool at h
    exact fun E Q k => BoolOp_one (S.ev h hA hs B L E Q k)
  | e :: e₂ :: es, σ, pv, σ', Z, ρ, s, h, B, L => by
    unfold evBool at h
    cases h1 : r.ev sc φ e σ with
    | none => rw [h1] at h; cases h
    | some p =>
      obtain ⟨v, σ₁⟩ := p
      rw [h1] at h
      cases h2 : sTruthy v σ₁ with
      | none => simp only [h2] at h; cases h
      | some b =>
        simp only [h2] at h
        intro E Q k
        cases op <;> cases b <;> simp only at h
        · cases h
          refine BoolOp_and (S.ev h1 hA hs B L E _ fun v₁ s₁ Z₁ ρ₁ g₁ B₁ r₁ => snd_truthy B₁ h2 r₁ E _ fun s₂ Z₂ ρ₂ g₂ B₂ => ?_)
          exact k v₁ s₂ Z₂ ρ₂ (g₁.tr B₁ g₂) B₂ (r₁.grow g₂)
        · refine BoolOp_and (S.ev h1 hA hs B L E _ fun v₁ s₁ Z₁ ρ₁ g₁ B₁ r₁ => snd_truthy B₁ h2 r₁ E _ fun s₂ Z₂ ρ₂ g₂ B₂ => ?_)
          simp only [if_true]
          exact snd_boolOp S hA hs h B₂ (L.grow (g₁.tr B₁ g₂)) E Q fun v s₃ Z₃ ρ₃ g₃ B₃ r₃ => k v s₃ Z₃ ρ₃ ((g₁.tr B₁ g₂).tr B₂ g₃) B₃ r₃
        · refine BoolOp_or (S.ev h1 hA hs B L E _ fun v₁ s₁ Z₁ ρ₁ g₁ B₁ r₁ => snd_truthy B₁ h2 r₁ E _ fun s₂ Z₂ ρ₂ g₂ B₂ => ?_)
          simp only [Bool.false_eq_true, if_false]
          exact snd_boolOp S hA hs h B₂ (L.grow (g₁.tr B₁ g₂)) E Q fun v s₃ Z₃ ρ₃ g₃ B₃ r₃ => k v s₃ Z₃ ρ₃ ((g₁.tr B₁ g₂).tr B₂ g₃) B₃ r₃
        · cases h
          refine BoolOp_or (S.ev h1 hA hs B L E _ fun v₁ s₁ Z₁ ρ₁ g₁ B₁ r₁ => snd_truthy B₁ h2 r₁ E _ fun s₂ Z₂ ρ₂ g₂ B₂ => ?_)
          simp only [if_true]
          exact k v₁ s₂ Z₂ ρ₂ (g₁.tr B₁ g₂) B₂ (r₁.grow g₂)

theorem snd_ifexp {r : Rec} (S : SoundR prog w h₀ r n) (hA : AOk n A) (hs : env.scope = sc) {t b o : Expr} {pos : Pos} {c : Bool} {σ₁ : Store} {pv : PV} (h1 : r.tr sc φ t σ = some (c, σ₁)) (h2 : r.ev sc φ (if c then b else o) σ₁ = some (pv, σ'))
    (B : Base prog w h₀ Z ρ σ s) (L : Loc Z ρ env φ s) : SndV prog w h₀ A Z ρ s (eval (.IfExp t b o pos) env) pv σ' := fun E Q k =>
  wpAny_IfExp (S.tr h1 hA hs B L E _ fun s₁ Z₁ ρ₁ g₁ B₁ => by
    have x := S.ev h2 hA hs B₁ (L.grow g₁) E Q fun v s₂ Z₂ ρ₂ g₂ B₂ r₂ => k v s₂ Z₂ ρ₂ (g₁.tr B₁ g₂) B₂ r₂
    cases c <;> exact x)
theorem snd_isIfexp {r : Rec} (S : SoundR prog w h₀ r n) (hA : AOk n A) (hs : env.scope = sc) {t b o : Expr} {pos : Pos} {c c' : Bool} {σ₁ : Store} {wh : Sem Value} (h1 : r.tr sc φ t σ = some (c, σ₁)) (h2 : r.tr sc φ (if c then b else o) σ₁ = some (c', σ'))
    (B : Base prog w h₀ Z ρ σ s) (L : Loc Z ρ env φ s) : SndB prog w h₀ A Z ρ s (isTrue (.IfExp t b o pos) env wh) c' σ' := fun E Q k =>
  isTrue_IfExp (S.tr h1 hA hs B L E _ fun s₁ Z₁ ρ₁ g₁ B₁ => by
    have x := S.tr h2 hA hs B₁ (L.grow g₁) E Q fun s₂ Z₂ ρ₂ g₂ B₂ => k s₂ Z₂ ρ₂ (g₁.tr B₁ g₂) B₂
    cases c <;> exact x)

theorem snd_allTrue {r : Rec} (S : SoundR prog w h₀ r n) (hA : AOk n A) (hs : env.scope = sc) {op : BoolOp} : ∀ {es : List Expr} {σ : Store} {b : Bool} {σ' : Store} {Z : ZP} {ρ : List Addr} {s : Shared}, evAll r op sc φ es σ = some (b, σ') →
    Base prog w h₀ Z ρ σ s → Loc Z ρ env φ s → SndB prog w h₀ A Z ρ s (allTrue op es env) b σ'
  | [], σ, b, σ', Z, ρ, s, h, B, L => by
    unfold evAll at h
    cases h
    exact fun E Q k => wpAny_pure (k s Z ρ (.refl ..) B)
  | e :: es, σ, b, σ', Z, ρ, s, h, B, L => by
    unfold evAll at h
    cases h1 : r.tr sc φ e σ with
    | none => rw [h1] at h; cases h
    | some p =>
      obtain ⟨c, σ₁⟩ := p
      rw [h1] at h
      simp only at h
      intro E Q k
      rw [arm_allTrue_cons]
      refine wpAny_bind (S.tr h1 hA hs B L E _ fun s₁ Z₁ ρ₁ g₁ B₁ => ?_)
      cases op <;> cases c <;> simp only at h ⊢
      · cases h; exact wpAny_pure (k s₁ Z₁ ρ₁ g₁ B₁)
      · exact snd_allTrue S hA hs h B₁ (L.grow g₁) E Q fun s₂ Z₂ ρ₂ g₂ B₂ => k s₂ Z₂ ρ₂ (g₁.tr B₁ g₂) B₂
      · exact snd_allTrue S hA hs h B₁ (L.grow g₁) E Q fun s₂ Z₂ ρ₂ g₂ B₂ => k s₂ Z₂ ρ₂ (g₁.tr B₁ g₂) B₂
      · cases h; exact wpAny_pure (k s₁ Z₁ ρ₁ g₁ B₁)

theorem getItem_seq {v : Value} {xs : List PyData} {i : Int} {t : Tok} {x : PyData} (B : Base prog w h₀ Z ρ σ s) (hv : VD Z v (.list xs) ∨ VD Z v (.tuple xs)) (h : itemAt xs i = some x) {Q : Value → Shared → Prop} (k : ∀ u, VD Z u x → Q u s) :
    wpAny (model prog w) A (getItem v (.int i t)) Q E s := by
  unfold itemAt at h
  split at h
  · rename_i hlt
    rcases hv with hv | hv
    · cases hv with
      | list ha hc hd hs =>
        rename_i a o vs m
        have hl : s.heap.IsList a vs := ⟨_, B.keep _ _ ha, hc, _, hd⟩
        have len := hs.length
        rw [Array.length_toList] at len
        split at h
        · rename_i h0
          obtain ⟨u, hu, hr⟩ := hs.get h
          have hb := (List.getElem?_eq_some_iff.mp h).1
          exact wpAny_getItem_list hl h0 (by omega) (by simpa using hu) (k u hr)
        · rename_i h0
          split at h
          · rename_i h1
            obtain ⟨u, hu, hr⟩ := hs.get h
            refine wpAny_getItem_list_neg hl (by omega) (by omega) (by omega) ?_ (k u hr)
            rw [len]
            have : (i + (xs.length : Int)).toNat = ((xs.length : Int) + i).toNat := by congr 1; omega
            rw [this]; simpa using hu
          · cases h
    · cases hv with
      | tuple ha hc hd hs =>
        rename_i a o vs m
        have hl : IsTup s.heap a vs := ⟨_, B.keep _ _ ha, hc, _, hd⟩
        have len := hs.length
        rw [Array.length_toList] at len
        split at h
        · rename_i h0
          obtain ⟨u, hu, hr⟩ := hs.get h
          have hb := (List.getElem?_eq_some_iff.mp h).1
          refine getItem_tuple hl (j := i.toNat) (by omega) (by omega) ?_ (by simpa using hu) (k u hr)
          unfold seqIndex?
          simp only [show ¬ i < 0 by omega, if_false]
          rw [if_pos (by simp only [Bool.and_eq_true, decide_eq_true_eq]; omega)]
        · rename_i h0
          split at h
          · rename_i h1
            obtain ⟨u, hu, hr⟩ := hs.get h
            refine getItem_tuple hl (j := ((xs.length : Int) + i).toNat) (by omega) (by omega) ?_ (by simpa using hu) (k u hr)
            have := seqIndex_neg (k := i) (n := vs.size) (by omega) (by omega)
            rw [this, len]
            congr 2; omega
          · cases h
  · cases h
end
end Mine
end
section
open PySem PySem.W PyProof.Rows
set_option maxRecDepth 10000
set_option linter.all false
namespace Mine
section
variable {prog : Program} {w : World} {h₀ : Heap} {A : Around} {E : Value → Shared → Prop} {s s' : Shared} {Z Z' : ZP} {ρ ρ' : List Addr} {σ σ' σ'' : Store} {env : Env} {φ : Frm} {n : Nat} {X : List Addr} {sc : Scope}

theorem dict_at {R : PV → Value → Prop} {i : Int} {pv : PV} : ∀ {es : List (Int × PV)} {vs : List Value}, es.lookup i = some pv → All2 R (es.map (·.2)) vs → ∃ v, valueAt ((es.map (·.1)).zip vs) i = some v ∧ R pv v
  | [], _, h, _ => by simp at h
  | (k, u) :: r, _, h, .cons (b := b) (bs := bs) x xs => by
    simp only [List.map_cons, List.zip_cons_cons, valueAt, List.find?_cons]
    rw [List.lookup_cons] at h
    by_cases e : i = k
    · subst e
      simp at h
      subst h
      simp
      exact x
    · have e' : (i == k) = false := by simpa using e
      rw [e'] at h
      simp only [decide_eq_false fun q : k = i => e q.symm]
      exact dict_at h xs
theorem dict_none {R : PV → Value → Prop} {i : Int} : ∀ {es : List (Int × PV)} {vs : List Value}, es.lookup i = none → All2 R (es.map (·.2)) vs → valueAt ((es.map (·.1)).zip vs) i = none
  | [], _, h, .nil => by simp [valueAt]
  | (k, u) :: r, _, h, .cons (b := b) (bs := bs) x xs => by
    simp only [List.map_cons, List.zip_cons_cons, valueAt, List.find?_cons]
    rw [List.lookup_cons] at h
    by_cases e : i = k
    · subst e
      simp at h
    · have e' : (i == k) = false := by simpa using e
      rw [e'] at h
      simp only [decide_eq_false fun q : k = i => e q.symm]
      exact dict_none h xs
theorem dict_isSome {R : PV → Value → Prop} {i : Int} {es : List (Int × PV)} {vs : List Value} (h : All2 R (es.map (·.2)) vs) : (valueAt ((es.map (·.1)).zip vs) i).isSome = (es.lookup i).isSome := by
  cases q : es.lookup i with
  | none => rw [dict_none q h]; rfl
  | some pv => obtain ⟨v, e, _⟩ := dict_at q h; rw [e]; rfl
theorem zip_len {R : PV → Value → Prop} {es : List (Int × PV)} {vs : List Value} (h : All2 R (es.map (·.2)) vs) : ((es.map (·.1)).zip vs).length = es.length := by
  have := h.length
  rw [List.length_map] at this
  rw [List.length_zip, List.length_map]; omega

theorem item_any {o i : PV} {r : PV} {vo vi : Value} {value slice : Expr} (hns : ∀ a b c p, slice ≠ .Slice a b c p) (B : Base prog w h₀ Z ρ σ s) (h : sItem o i σ = some r) (ho : VR Z ρ o vo) (hi : VR Z ρ i vi) {Q : Value → Shared → Prop}
    (k : ∀ v tk, VR Z ρ r v → Q v { s with toks := tk }) : wpAny (model prog w) A (subscriptTail value slice vo vi) Q E s := by
  have hs : ∀ a b, subscripted slice false a b = operate [a, b] (getItem a b) := by
    intro a b
    cases slice <;> first | rfl | exact absurd rfl (hns _ _ _ _)
  unfold sItem at h
  split at h
  · rename_i xs j
    cases q : itemAt xs j with
    | none => rw [q] at h; cases h
    | some x =>
      rw [q] at h; cases h
      obtain ⟨t, rfl⟩ : ∃ t, vi = .int j t := by cases hi; exact ⟨_, rfl⟩
      obtain ⟨a, vs, rfl, hl, _⟩ := IsL_of_VD B ho
      exact tail_any hl.typeIs slot_list_getitem.lookup (getItem_seq B (.inl ho) q fun u hu => k u s.toks hu) (hs _ _)
  · rename_i xs j
    cases q : itemAt xs j with
    | none => rw [q] at h; cases h
    | some x =>
      rw [q] at h; cases h
      obtain ⟨t, rfl⟩ : ∃ t, vi = .int j t := by cases hi; exact ⟨_, rfl⟩
      obtain ⟨a, vs, rfl, hl, _⟩ : ∃ a vs, vo = .ref a ∧ IsTup s.heap a vs ∧ VDs Z vs.toList xs := by
        cases ho with
        | tuple ha hc hd hs => exact ⟨_, _, rfl, ⟨_, B.keep _ _ ha, hc, _, hd⟩, hs⟩
      exact tail_any hl.typeIs slot_tuple_getitem.lookup (getItem_seq B (.inr ho) q fun u hu => k u s.toks hu) (hs _ _)
  · rename_i kk j
    obtain ⟨t, rfl⟩ : ∃ t, vi = .int j t := by cases hi; exact ⟨_, rfl⟩
    obtain ⟨a, hja, rfl⟩ := ho
    split at h
    · rename_i xs hk
      cases q : itemAt xs j with
      | none => rw [q] at h; cases h
      | some x =>
        rw [q] at h; cases h
        obtain ⟨va, hpa, hva⟩ := B.objs _ a _ hja hk
        obtain ⟨m, hob⟩ := id hpa
        have hd : VD (ZAdd Z a { cls := .type "list", data := .seq va.toArray m }) (.ref a) (.list xs) := VD.list (ZAdd.here _ _ _) rfl rfl (by simpa using VDs.mono (ZAdd.sub _ _ _) hva)
        refine tail_any hpa.isList.typeIs slot_list_getitem.lookup ?_ (hs _ _)
        unfold itemAt at q
        have len := hva.length
        split at q
        · rename_i hlt
          split at q
          · rename_i h0
            obtain ⟨u, hu, hr⟩ := hva.get q
            have hb := (List.getElem?_eq_some_iff.mp q).1
            exact wpAny_getItem_list hpa.isList h0 (by omega) (by simpa using hu) (k u s.toks hr)
          · rename_i h0
            split at q
            · rename_i h1
              obtain ⟨u, hu, hr⟩ := hva.get q
              refine wpAny_getItem_list_neg hpa.isList (by first | omega | (rw [List.size_toArray]; omega)) (by first | omega | (rw [List.size_toArray]; omega)) (by first | omega | (rw [List.size_toArray]; omega)) ?_ (k u s.toks hr)
              rw [List.size_toArray, len]
              have : (j + (xs.length : Int)).toNat = ((xs.length : Int) + j).toNat := by congr 1; omega
              rw [this]; simpa using hu
            · cases q
        · cases q
    · rename_i es hk
      obtain ⟨hsm, vs, hd, hv⟩ := B.objs _ a _ hja hk
      obtain ⟨v, hv1, hv2⟩ := dict_at h hv
      exact tail_any hd.typeIs slot_dict_getitem.lookup (wpAny_getItem_of (knd := intKind prog w) (k := j) (by simp [intKind, Value.isInt]) hd.mapOf hv1 (k v _ hv2)) (hs _ _)
    · cases h
  · cases h

theorem snd_item {r : Rec} (S : SoundR prog w h₀ r n) (hA : AOk n A) (hs : env.scope = sc) {o i : Expr} {pos : Pos} {a b c : PV} {σ₁ : Store} (hns : ∀ a b c p, i ≠ .Slice a b c p)
    (h1 : r.ev sc φ o σ = some (a, σ₁)) (h2 : r.ev sc φ i σ₁ = some (b, σ')) (h3 : sItem a b σ' = some c) (B : Base prog w h₀ Z ρ σ s) (L : Loc Z ρ env φ s) :
    SndV prog w h₀ A Z ρ s (eval (.Subscript o i pos) env) c σ' := fun E Q k =>
  Subscript_ (S.ev h1 hA hs B L E _ fun v₁ s₁ Z₁ ρ₁ g₁ B₁ r₁ => S.ev h2 hA hs B₁ (L.grow g₁) E _ fun v₂ s₂ Z₂ ρ₂ g₂ B₂ r₂ =>
    item_any hns B₂ h3 (r₁.grow g₂) r₂ fun v tk hv => k v _ Z₂ ρ₂ ((g₁.tr B₁ g₂).tr B₂ (.tok ..)) (B₂.tok tk) hv)

theorem int_kind_scannable (i : Int) (t : Tok) : (Value.int i t).scannable = true := rfl

theorem rise_len : ∀ {xs : List Int} {a : Int}, xs.Pairwise (· < ·) → (∀ x ∈ xs, a ≤ x ∧ x < 5) → a ≤ 5 → (xs.length : Int) ≤ 5 - a
  | [], a, _, _, h => by simp; omega
  | x :: xs, a, hp, hr, h => by
    have h1 := hr x (.head _)
    have := rise_len (xs := xs) (a := x + 1) (List.pairwise_cons.mp hp).2 (fun y hy => ⟨(List.pairwise_cons.mp hp).1 y hy, (hr y (.tail _ hy)).2⟩) (by omega)
    rw [List.length_cons]; omega
theorem rise_len5 {xs : List Int} (h : Rise xs) : xs.length ≤ 5 := by
  have := rise_len h.1 h.2 (by omega); omega
/-- sets: what in / not in / len ask -/
theorem setAt_setOf {a : Addr} {xs : List Int} (h : SetAt w s.heap a xs) : s.heap.SetOf (intKind prog w) a (fun k => xs.contains k) xs.length := by
  obtain ⟨es, ep, ho, ⟨ts, he, hl⟩, hp, hr⟩ := h
  have hlen : es.size = xs.length := by
    rw [← Array.length_toList, he, List.length_map, List.length_zip]; omega
  have hx5 : xs.length ≤ 5 := rise_len5 ⟨hp, hr⟩
  refine ⟨_, es, ep, _, ho, ⟨rfl, rfl, rfl⟩, rfl, fun e he' => ?_, fun k => ⟨fun hk => ?_, fun ⟨e, he', hk⟩ => ?_⟩, ?_, ?_, hlen⟩
  · rw [he] at he'
    obtain ⟨⟨x, t⟩, hm, rfl⟩ := List.mem_map.mp he'
    have hx := hr x (List.of_mem_zip hm).1
    refine ⟨⟨x, by simp [intKind, Value.isInt], ?_⟩, rfl⟩
    show x = hashInt x
    have : x = 0 ∨ x = 1 ∨ x = 2 ∨ x = 3 ∨ x = 4 := by omega
    rcases this with q | q | q | q | q <;> subst q <;> decide
  · have hk' : k ∈ xs := by simpa using hk
    obtain ⟨j, hj, e⟩ := List.getElem_of_mem hk'
    have hjt : j < ts.length := by omega
    refine ⟨(k, .int k ts[j]), ?_, by simp [intKind, Value.isInt]⟩
    rw [he]
    refine List.mem_map.mpr ⟨(k, ts[j]), ?_, rfl⟩
    have hz : j < (xs.zip ts).length := by rw [List.length_zip]; omega
    have := List.getElem_mem hz
    rw [List.getElem_zip, e] at this
    exact this
  · rw [he] at he'
    obtain ⟨⟨x, t⟩, hm, rfl⟩ := List.mem_map.mp he'
    have : k = x := by
      have : Value.isInt k (.int x t) = true := hk
      (simp [Value.isInt] at this; exact this.symm)
    subst this
    simpa using (List.of_mem_zip hm).1
  · rw [hlen]; unfold scanBound; omega
  · unfold tabS SetTable.fits
    rw [hlen]
    simp [SetTable.fill]
    split <;> omega
theorem cmpS : CmpS prog w h₀ n := fun {op a b c va vb A s Z ρ σ E Q} hA B h ha hb k => by
  unfold sCmp at h
  split at h
  · exact cmp_data hA B h ha hb (k s.toks)
  · rename_i x kk
    obtain ⟨t, rfl⟩ : ∃ t, va = .int x t := by cases ha; exact ⟨_, rfl⟩
    obtain ⟨a, hja, rfl⟩ := hb
    have hki : (intKind prog w).is x (.int x t) = true := by simp [intKind, Value.isInt]
    split at h
    · rename_i xs hk
      split at h
      · cases h; exact wpAny_inSet_of hki rfl (setAt_setOf (B.objs _ a _ hja hk)) (k _)
      · cases h
    · rename_i xs hk
      split at h
      · cases h; exact wpAny_notInSet_of hki rfl (setAt_setOf (B.objs _ a _ hja hk)) (k _)
      · cases h
    · rename_i xs hk
      split at h
      · cases h; exact wpAny_inSet_of hki rfl (B.objs _ a _ hja hk).2.2 (k _)
      · cases h
    · rename_i xs hk
      split at h
      · cases h; exact wpAny_notInSet_of hki rfl (B.objs _ a _ hja hk).2.2 (k _)
      · cases h
    · rename_i es hk
      cases h
      obtain ⟨hsm, vs, hd, hv⟩ := B.objs _ a _ hja hk
      exact wpAny_in_of hki (by simpa using hsm) hd.mapOf (by rw [dict_isSome hv]; exact k _)
    · rename_i es hk
      cases h
      obtain ⟨hsm, vs, hd, hv⟩ := B.objs _ a _ hja hk
      exact wpAny_notIn_of hki (by simpa using hsm) hd.mapOf (by rw [dict_isSome hv]; exact k _)
    · cases h
  · cases h

theorem snd_usub {r : Rec} (S : SoundR prog w h₀ r n) (hA : AOk n A) (hs : env.scope = sc) {x : Expr} {pos : Pos} {a : Int} (h1 : r.ev sc φ x σ = some (.d (.int a), σ')) (B : Base prog w h₀ Z ρ σ s) (L : Loc Z ρ env φ s) :
    SndV prog w h₀ A Z ρ s (eval (.UnaryOp .USub x pos) env) (.d (.int (-a))) σ' := fun E Q k => by
  refine wpAny_UnaryOp (S.ev h1 hA hs B L E _ fun v₁ s₁ Z₁ ρ₁ g₁ B₁ r₁ => ?_)
  cases r₁
  exact P.neg_int (k _ _ Z₁ ρ₁ (g₁.tr B₁ (.tok ..)) (B₁.tok _) (.int _ _))


theorem slice_fin {value : Expr} {u : Expr} {p : Pos} {v vu : Value} {hi : Option Int} {xs ys : List PyData} (B : Base prog w h₀ Z ρ σ s) (hv : VD Z v (.list xs)) (hlen : xs.length < 1000000) (pu : IsPart vu hi)
    (hp : ∀ vs : List Value, vs.length = xs.length → ∃ vs', slicePick vs.toArray none hi none = List.toArray vs' ∧ (VDs Z vs xs → VDs Z vs' ys)) {Q : Value → Shared → Prop}
    (k : ∀ v s' Z' ρ', Grow [] Z ρ s Z' ρ' s' → Base prog w h₀ Z' ρ' σ s' → VR Z' ρ' (.d (.list ys)) v → Q v s') :
    wpAny (model prog w) A (subscriptTail value (.Slice none (some u) none p) v (.ref s.heap.objs.size)) Q E { s with heap := s.heap.push { cls := .type "slice", data := .fields #[.none, vu, .none] } } := by
  obtain ⟨a, vs, rfl, hl, hvs⟩ := IsL_of_VD B hv
  have len := hvs.length
  rw [Array.length_toList] at len
  obtain ⟨vs', e, hr⟩ := hp vs.toList (by simpa using len)
  have hr' := hr hvs
  have e' : slicePick vs none hi none = vs'.toArray := by simpa using e
  refine tail_any (T := "list") (Heap.IsList.typeIs (s := { s with heap := s.heap.push { cls := .type "slice", data := .fields #[.none, vu, .none] } }) (hl.push _)) list_getitem_lookup
    (wpAny_getItem_list_slice (hl.push _) (Heap.IsSliceOf.new ..) .none pu .none (by simp) ?_ (lt_sizeLine (by omega))) rfl
  have hk1 : ∀ b o, s.heap.get? b = some o → (s.heap.push { cls := .type "slice", data := .fields #[.none, vu, .none] }).get? b = some o := fun b o q => Heap.get?_push_of_some _ q
  have hk : ∀ b o, s.heap.get? b = some o → ((s.heap.push { cls := .type "slice", data := .fields #[.none, vu, .none] }).push { cls := .type "list", data := .seq (slicePick vs none hi none) }).get? b = some o := fun b o q => Heap.get?_push_of_some _ (hk1 _ _ q)
  have hn : s.heap.get? (s.heap.objs.size + 1) = none := none_size _ (Nat.le_succ _)
  have hsz : (s.heap.push { cls := .type "slice", data := .fields #[.none, vu, .none] }).objs.size = s.heap.objs.size + 1 := Heap.size_push ..
  show Q (.ref (s.heap.push _).objs.size) _
  rw [hsz]
  have B' : Base prog w h₀ Z ρ σ { s with heap := (s.heap.push { cls := .type "slice", data := .fields #[.none, vu, .none] }).push { cls := .type "list", data := .seq (slicePick vs none hi none) } } := B.ext hk
  have ha : ((s.heap.push { cls := .type "slice", data := .fields #[.none, vu, .none] }).push { cls := .type "list", data := .seq (slicePick vs none hi none) }).get? (s.heap.objs.size + 1) = some { cls := .type "list", data := .seq (slicePick vs none hi none) } := by
    rw [← hsz]; exact Heap.get?_push_size _ rfl
  refine k _ _ (ZAdd Z (s.heap.objs.size + 1) { cls := .type "list", data := .seq (slicePick vs none hi none) }) ρ ((Grow.ext hk (Sh.heap _ _)).freeze hn) (B'.freeze ha (B.notR hn)) ?_
  rw [e']
  exact VD.list (ZAdd.here _ _ _) rfl rfl (by simpa using VDs.mono (ZAdd.sub _ _ _) hr')

theorem snd_slice {r : Rec} (S : SoundR prog w h₀ r n) (hA : AOk n A) (hs : env.scope = sc) {o u : Expr} {p pos : Pos} {xs : List PyData} {i : Int} {x : PyData} {σ₁ : Store}
    (h1 : r.ev sc φ o σ = some (.d (.list xs), σ₁)) (h2 : r.ev sc φ u σ₁ = some (.d (.int i), σ')) (h3 : sliceTo xs i = some x) (B : Base prog w h₀ Z ρ σ s) (L : Loc Z ρ env φ s) :
    SndV prog w h₀ A Z ρ s (eval (.Subscript o (.Slice none (some u) none p) pos) env) (.d x) σ' := fun E Q k => by
  refine Subscript_ (S.ev h1 hA hs B L E _ fun v₁ s₁ Z₁ ρ₁ g₁ B₁ r₁ => wpAny_Slice ?_)
  rw [evalPart_none]
  refine wpAny_pure ?_
  refine S.ev h2 hA hs B₁ (L.grow g₁) E _ fun v₂ s₂ Z₂ ρ₂ g₂ B₂ r₂ => ?_
  refine wpAny_pure ?_
  cases r₂
  unfold sliceTo at h3
  split at h3
  · rename_i hlt
    have r₁' := r₁.grow g₂
    split at h3
    · rename_i h0
      split at h3
      · cases h3
        refine slice_fin (ys := xs.take i.toNat) B₂ r₁' hlt (.int _ _) (fun vs hvs => ⟨vs.take i.toNat, ?_, fun h => h.take _⟩) fun v s' Z' ρ' g B r => k v s' Z' ρ' ((g₁.tr B₁ g₂).tr B₂ g) B r
        obtain ⟨j, rfl⟩ := Int.eq_ofNat_of_zero_le h0
        have := slicePick_upto' vs.toArray j
        simpa using this
      · cases h3
    · split at h3
      · rename_i h1
        cases h3
        refine slice_fin (ys := xs.take (xs.length - 1)) B₂ r₁' hlt (.int _ _) (fun vs hvs => ⟨vs.take (vs.length - 1), ?_, fun h => by rw [hvs]; exact h.take _⟩) fun v s' Z' ρ' g B r => k v s' Z' ρ' ((g₁.tr B₁ g₂).tr B₂ g) B r
        have := slicePick_butLast vs.toArray 1 (by omega)
        rw [h1]
        simpa using this
      · cases h3
  · cases h3
end
end Mine
end
section
open PySem PySem.W PyProof.Rows
set_option maxRecDepth 10000
set_option linter.all false
namespace Mine

def addOk (led : Bool) (xs : List Int) (x : Int) : Bool :=
  match (tabS led xs).freeSlot x with
  | some (slot, false) =>
    let t' := ((tabS led xs).put slot).1
    let p := ((tabS led xs).put slot).2
    decide (xs.take p ++ x :: xs.drop p = addS x xs) && decide (p ≤ xs.length) && t'.fits (xs.length + 1) && t'.plain &&
    (if t'.tooFull then match t'.relaid (addS x xs).toArray (SetTable.grown (xs.length + 1)) with
      | some (t2, order) => decide (t2 = tabS led (addS x xs)) && decide (order = Array.range (xs.length + 1)) && t2.fits (xs.length + 1)
      | none => false
    else decide (t' = tabS led (addS x xs)))
  | _ => false

def subs5 : List (List Int) := [0, 1, 2, 3, 4].foldr (fun x acc => acc.map (x :: ·) ++ acc) [[]]
theorem addOk_all : ∀ led : Bool, ∀ xs ∈ subs5, ∀ x ∈ [(0 : Int), 1, 2, 3, 4], xs.contains x = false → addOk led xs x = true := by decide +kernel
theorem addS_mem : ∀ xs ∈ subs5, ∀ x ∈ [(0 : Int), 1, 2, 3, 4], addS x xs ∈ subs5 ∧ (xs.contains x = true → addS x xs = xs) := by decide +kernel
theorem subs5_rise : ∀ xs ∈ subs5, Rise xs := by
  have : ∀ xs ∈ subs5, xs.Pairwise (· < ·) ∧ ∀ x ∈ xs, 0 ≤ x ∧ x < 5 := by decide +kernel
  exact this
theorem rise_mem : ∀ (l : List Int) (xs : List Int), l.Pairwise (· < ·) → xs.Pairwise (· < ·) → (∀ x ∈ xs, x ∈ l) → xs ∈ l.foldr (fun x acc => acc.map (x :: ·) ++ acc) [[]]
  | [], xs, _, _, h => by
    cases xs with
    | nil => simp
    | cons x _ => exact absurd (h x (.head _)) (by simp)
  | y :: l, xs, hl, hp, h => by
    rw [List.foldr_cons]
    rw [List.mem_append]
    cases xs with
    | nil => exact .inr (rise_mem l [] (List.pairwise_cons.mp hl).2 hp (by simp))
    | cons x xs =>
      by_cases e : x = y
      · subst e
        refine .inl (List.mem_map.mpr ⟨xs, rise_mem l xs (List.pairwise_cons.mp hl).2 (List.pairwise_cons.mp hp).2 (fun z hz => ?_), rfl⟩)
        rcases List.mem_cons.mp (h z (.tail _ hz)) with q | q
        · have := (List.pairwise_cons.mp hp).1 z hz; omega
        · exact q
      · refine .inr (rise_mem l (x :: xs) (List.pairwise_cons.mp hl).2 hp (fun z hz => ?_))
        have hx : x ∈ l := (List.mem_cons.mp (h x (.head _))).resolve_left e
        have hxy := (List.pairwise_cons.mp hl).1 x hx
        rcases List.mem_cons.mp (h z hz) with q | q
        · exfalso
          rcases List.mem_cons.mp hz with q' | q'
          · omega
          · have := (List.pairwise_cons.mp hp).1 z q'; omega
        · exact q
theorem rise_subs {xs : List Int} (h : Rise xs) : xs ∈ subs5 := rise_mem _ xs (by decide) h.1 fun x hx => by
  obtain ⟨h1, h2⟩ := h.2 x hx
  have : x = 0 ∨ x = 1 ∨ x = 2 ∨ x = 3 ∨ x = 4 := by omega
  simp; exact this
theorem five {x : Int} (h : small5 x = true) : x ∈ [(0 : Int), 1, 2, 3, 4] := by
  unfold small5 at h
  simp only [Bool.and_eq_true, decide_eq_true_eq] at h
  have : x = 0 ∨ x = 1 ∨ x = 2 ∨ x = 3 ∨ x = 4 := by omega
  simp; exact this
theorem hash5 {x : Int} (h : x ∈ [(0 : Int), 1, 2, 3, 4]) : hashInt x = x := by
  simp at h
  rcases h with q | q | q | q | q <;> subst q <;> decide

theorem insertAt_toList {α : Type} (xs : Array α) (p : Nat) (x : α) (hp : p ≤ xs.size) : (SetTable.insertAt xs p x).toList = xs.toList.take p ++ x :: xs.toList.drop p := by
  unfold SetTable.insertAt
  rw [Array.toList_append, Array.toList_push, Array.toList_extract, Array.toList_extract, List.append_assoc]
  simp [List.extract]
  rw [List.take_of_length_le (by simp)]
theorem filterMap_range {α : Type} (es : Array α) : (Array.range es.size).filterMap (es[·]?) = es := by
  apply Array.toList_inj.mp
  rw [Array.toList_filterMap, Array.toList_range]
  have := pick_run es 0 es.size
  have e : es.toList.take es.size = es.toList := List.take_of_length_le (by simp)
  simpa [e] using this

def mkE (p : Int × Tok) : Int × Value := (p.1, Value.int p.1 p.2)
theorem EntI.insert {es : Array (Int × Value)} {xs : List Int} (h : EntI es.toList xs) {p : Nat} (hp : p ≤ xs.length) (x : Int) (t : Tok) : EntI (SetTable.insertAt es p (x, .int x t)).toList (xs.take p ++ x :: xs.drop p) := by
  obtain ⟨ts, he, hl⟩ := h
  have hsz : es.size = xs.length := by rw [← Array.length_toList, he, List.length_map, List.length_zip]; omega
  refine ⟨ts.take p ++ t :: ts.drop p, ?_, ?_⟩
  · rw [insertAt_toList _ _ _ (by omega), he]
    rw [List.zip_append (by rw [List.length_take, List.length_take]; omega), List.map_append, List.zip_cons_cons, List.map_cons]
    rw [← List.map_take, ← List.map_drop, List.zip_eq_zipWith, List.zip_eq_zipWith, List.zip_eq_zipWith, List.take_zipWith, List.drop_zipWith]
  · rw [List.length_append, List.length_append, List.length_cons, List.length_cons, List.length_take, List.length_drop, List.length_take, List.length_drop]; omega
theorem EntI.fst {es : Array (Int × Value)} {xs : List Int} (h : EntI es.toList xs) : es.map (·.1) = xs.toArray := by
  obtain ⟨ts, he, hl⟩ := h
  apply Array.toList_inj.mp
  rw [Array.toList_map, he, List.map_map]
  have : ((fun x => x.1) ∘ fun p : Int × Tok => (p.1, Value.int p.1 p.2)) = Prod.fst := rfl
  rw [this, List.map_fst_zip (by omega)]
theorem EntI.size {es : Array (Int × Value)} {xs : List Int} (h : EntI es.toList xs) : es.size = xs.length := by
  obtain ⟨ts, he, hl⟩ := h
  rw [← Array.length_toList, he, List.length_map, List.length_zip]; omega

section
variable {prog : Program} {w : World} {h₀ : Heap} {A : Around} {E : Value → Shared → Prop} {s s' : Shared} {Z Z' : ZP} {ρ ρ' : List Addr} {σ σ' σ'' : Store} {env : Env} {φ : Frm} {n : Nat} {X : List Addr} {sc : Scope}

theorem EntI.elems {es : Array (Int × Value)} {xs : List Int} (h : EntI es.toList xs) (hr : Rise xs) : ElemsOf (intKind prog w) es.toList := by
  obtain ⟨ts, he, hl⟩ := h
  intro e he'
  rw [he] at he'
  obtain ⟨⟨x, t⟩, hm, rfl⟩ := List.mem_map.mp he'
  have hx := hr.2 x (List.of_mem_zip hm).1
  refine ⟨⟨x, by simp [intKind, Value.isInt], ?_⟩, rfl⟩
  show x = hashInt x
  have : x = 0 ∨ x = 1 ∨ x = 2 ∨ x = 3 ∨ x = 4 := by omega
  rcases this with q | q | q | q | q <;> subst q <;> decide
theorem EntI.find {es : Array (Int × Value)} {xs : List Int} (h : EntI es.toList xs) (x : Int) : (es.toList.findIdx? (fun e => (intKind prog w).is x e.2)).isSome = xs.contains x := by
  obtain ⟨ts, he, hl⟩ := h
  rw [he]
  clear he
  induction xs generalizing ts with
  | nil => simp
  | cons y ys ih =>
    cases ts with
    | nil => simp at hl
    | cons t ts =>
      rw [List.zip_cons_cons, List.map_cons, List.findIdx?_cons]
      by_cases q : x = y
      · subst q; simp [intKind, Value.isInt]
      · have : (intKind prog w).is x (Value.int y t) = false := by
          show (y == x) = false
          simpa using fun e : y = x => q e.symm
        rw [this]
        simp only [Bool.false_eq_true, if_false, Option.isSome_map]
        rw [ih ts (by simpa using hl)]
        simp [q]

theorem setStore_at {h : Heap} {a : Addr} {es : Array (Int × Value)} {ep : Nat} {t : SetTable} (ho : h.get? a = some { cls := .type "set", data := .set es ep t }) (es' : Array (Int × Value)) (t' : SetTable) :
    (h.update a (Obj.putSet es' t')).get? a = some { cls := .type "set", data := .set es' (ep + 1) t' } := Heap.get?_update_self (Obj.putSet es' t') ho rfl

theorem layNew_can {led : Bool} {es : Array (Int × Value)} {xs : List Int} {x : Int} (hE : EntI es.toList xs) (hR : Rise xs) (h5 : x ∈ [(0 : Int), 1, 2, 3, 4]) (hc : xs.contains x = false) (t : Tok) :
    ∃ es' t', layNew (tabS led xs) es x (.int x t) = (es', t', false, false) ∧ EntI es'.toList (addS x xs) ∧ t'.fits es'.size = true ∧ t'.plain = true ∧
      (t'.tooFull = false ∧ t' = tabS led (addS x xs) ∨ t'.tooFull = true ∧ relayAll t' es' (SetTable.grown es'.size) = (es', tabS led (addS x xs), false)) := by
  have hok := addOk_all led xs (rise_subs hR) x h5 hc
  unfold addOk at hok
  unfold layNew
  split at hok
  · rename_i slot hfree
    rw [hfree]
    dsimp only at hok ⊢
    simp only [Bool.and_eq_true, decide_eq_true_eq] at hok
    obtain ⟨⟨⟨⟨h1, h2⟩, h3⟩, h4⟩, h6⟩ := hok
    have hE' := hE.insert h2 x t
    rw [h1] at hE'
    have hlen : (addS x xs).length = xs.length + 1 := by rw [← h1, List.length_append, List.length_cons, List.length_take, List.length_drop]; omega
    have hsz' := hE'.size
    rw [hlen] at hsz'
    have hor : ((tabS led xs).put slot).1.orStandIn (SetTable.insertAt es ((tabS led xs).put slot).2 (x, .int x t)).size = ((tabS led xs).put slot).1 := by unfold SetTable.orStandIn; rw [if_pos (by rw [hsz']; exact h3)]
    refine ⟨SetTable.insertAt es ((tabS led xs).put slot).2 (x, .int x t), ((tabS led xs).put slot).1, ?_, hE', by rw [hsz']; exact h3, h4, ?_⟩
    · rw [hor, hsz', h3]; rfl
    · rw [hsz']
      cases htf : ((tabS led xs).put slot).1.tooFull with
      | false =>
        rw [htf] at h6
        simp only [Bool.false_eq_true, if_false, decide_eq_true_eq] at h6
        exact .inl ⟨rfl, h6⟩
      | true =>
        rw [htf] at h6
        simp only [if_true] at h6
        refine .inr ⟨rfl, ?_⟩
        unfold relayAll
        rw [hE'.fst, hsz']
        split at h6
        · rename_i t2 order hrl
          simp only [Bool.and_eq_true, decide_eq_true_eq] at h6
          obtain ⟨⟨q1, q2⟩, q3⟩ := h6
          rw [hrl]
          dsimp only
          subst q2
          have hfm : (Array.range (xs.length + 1)).filterMap ((SetTable.insertAt es ((tabS led xs).put slot).2 (x, .int x t))[·]?) = SetTable.insertAt es ((tabS led xs).put slot).2 (x, .int x t) := by rw [← hsz']; exact filterMap_range _
          have hcov : coversAll (Array.range (xs.length + 1)) (xs.length + 1) = true := by
            unfold coversAll
            rw [Array.toList_range, List.isPerm_iff]
          rw [hfm, hsz', hcov, q3]
          simp only [Bool.and_self, if_true]
          rw [q1]
        · cases h6
  · cases hok

theorem set_add_can {a : Addr} {xs : List Int} {x : Int} {t : Tok} (hS : SetAt w s.heap a xs) (hx : small5 x = true) {Q : Bool → Shared → Prop}
    (k : ∀ h' b, Heap.SameBut a s.heap h' → SetAt w h' a (addS x xs) → Q b { s with heap := h' }) : wpAny (model prog w) A (setAddHashed a (.int x t) x) Q E s := by
  obtain ⟨es, ep, ho, hE, hR⟩ := id hS
  have hm := rise_subs hR
  have h5 := five hx
  have hel : ElemsOf (intKind prog w) es.toList := hE.elems hR
  have hsz := hE.size
  have hx5 := rise_len5 hR
  have hf : (tabS (!w.params.followText "set-order") xs).fits es.size = true := by
    unfold tabS SetTable.fits
    rw [hsz]
    simp [SetTable.fill]
    split <;> omega
  have hki : (intKind prog w).is x (.int x t) = true := by simp [intKind, Value.isInt]
  have hb : es.size < scanBound := by rw [hsz]; unfold scanBound; omega
  unfold setAddHashed setAddHashedIn
  refine wpAny_holding (wpAny_bind (wpAny_setState_of ho rfl hf ?_))
  dsimp only
  rw [byScan_of (knd := intKind prog w) (x := .int x t) rfl hb hel]
  simp only [↓reduceIte]
  unfold setAddByScan
  refine wpAny_bind ?_
  refine wpAny_bind (wpAny_rule ?_)
  have hh : (intKind prog w).hash x = x := hash5 h5
  have scan : ∀ Q : ScanMet → Shared → Prop, _ → wpAny (model prog w) A (setScan a (.int x t) ((intKind prog w).hash x) true es) Q E s := fun Q h => wpAny_setScan_of (prog := prog) (w := w) (A := A) (E := E) (s := s) (adding := true) (Q := Q) hki ho rfl hf hel h
  rw [hh] at scan
  refine wpAny_bind (scan _ ?_)
  cases hr : List.findIdx? (fun e => (intKind prog w).is x e.2) es.toList with
  | some j =>
    dsimp only
    have hc : xs.contains x = true := by rw [← hE.find (prog := prog) (w := w) x, hr]; rfl
    refine wpAny_pure (wpAny_pure ?_)
    have e : s = { s with heap := s.heap } := by cases s; rfl
    rw [e]
    refine k s.heap false (Heap.SameBut.refl a s.heap) ?_
    rw [(addS_mem xs hm x h5).2 hc]; exact hS
  | none =>
    dsimp only
    have hc : xs.contains x = false := by rw [← hE.find (prog := prog) (w := w) x, hr]; rfl
    obtain ⟨es', t', hL, hE', h3, h4, h6⟩ := layNew_can (led := !w.params.followText "set-order") hE hR h5 hc t
    have hnew := (addS_mem xs hm x h5).1
    rw [hL]
    dsimp only
    refine wpAny_bind (wpAny_pure ?_)
    rw [h4]
    simp only [if_true]
    refine wpAny_bind ?_
    rw [hashByValue_scannable 8 (x := .int x t) rfl]
    refine wpAny_pure ?_
    simp only [plainKind, if_true]
    have hx5' := rise_len5 (subs5_rise _ hnew)
    have hzl : es'.size ≤ sizeLine := fits_of_scanBound (by rw [hE'.size]; unfold scanBound; omega)
    refine wpAny_bind (wpAny_storeSet_of ho rfl ?_ hzl)
    have ho1 := setStore_at ho es' t'
    have hsb1 := Heap.SameBut.update s.heap a (Obj.putSet es' t')
    rcases h6 with ⟨q1, q2⟩ | ⟨q1, q2⟩
    · rw [q1]
      simp only [Bool.and_false, Bool.false_eq_true, if_false]
      have fin : SetAt w (s.heap.update a (Obj.putSet es' t')) a (addS x xs) := ⟨es', ep + 1, by rw [← q2]; exact ho1, hE', subs5_rise _ hnew⟩
      exact wpAny_pure (wpAny_pure (k _ true hsb1 fin))
    · rw [q1, q2]
      simp only [Bool.not_false, Bool.and_self, if_true]
      refine wpAny_bind (wpAny_pure ?_)
      refine wpAny_bind (wpAny_storeSet_of ho1 rfl ?_ hzl)
      exact wpAny_pure (wpAny_pure (k _ true (hsb1.trans (Heap.SameBut.update _ a _)) (show SetAt w _ a (addS x xs) from ⟨es', _, setStore_at ho1 _ _, hE', subs5_rise _ hnew⟩)))
end
end Mine
end
section
open PySem PySem.W PyProof.Rows
set_option maxRecDepth 10000
set_option linter.all false
namespace Mine

theorem VDs_ints {Z : ZP} : ∀ {vs : List Value} {xs : List PyData} {ns : List Int}, ints? xs = some ns → VDs Z vs xs → ∃ ts : List Tok, ts.length = ns.length ∧ vs = (ns.zip ts).map fun p => .int p.1 p.2
  | _, [], ns, h, .nil => by unfold ints? at h; cases h; exact ⟨[], rfl, rfl⟩
  | _, .int i :: r, ns, h, .cons hv hs => by
    unfold ints? at h
    cases q : ints? r with
    | none => rw [q] at h; cases h
    | some ms =>
      rw [q] at h; cases h
      obtain ⟨ts, h1, h2⟩ := VDs_ints q hs
      cases hv with
      | int _ t => exact ⟨t :: ts, by simp [h1], by simp [h2]⟩
  | _, .none :: _, _, h, _ => by unfold ints? at h; cases h
  | _, .bool _ :: _, _, h, _ => by unfold ints? at h; cases h
  | _, .list _ :: _, _, h, _ => by unfold ints? at h; cases h
  | _, .tuple _ :: _, _, h, _ => by unfold ints? at h; cases h
theorem ints_IntsAre {Z : ZP} : ∀ {vs : List Value} {xs : List PyData} {ns : List Int}, ints? xs = some ns → VDs Z vs xs → IntsAre vs ns
  | _, [], ns, h, .nil => by unfold ints? at h; cases h; exact .nil
  | _, .int i :: r, ns, h, .cons hv hs => by
    unfold ints? at h
    cases q : ints? r with
    | none => rw [q] at h; cases h
    | some ms =>
      rw [q] at h; cases h
      cases hv with
      | int _ t => exact .cons _ _ (ints_IntsAre q hs)
  | _, .none :: _, _, h, _ => by unfold ints? at h; cases h
  | _, .bool _ :: _, _, h, _ => by unfold ints? at h; cases h
  | _, .list _ :: _, _, h, _ => by unfold ints? at h; cases h
  | _, .tuple _ :: _, _, h, _ => by unfold ints? at h; cases h
theorem IntsAre_VDs {Z : ZP} : ∀ {vs : List Value} {ns : List Int}, IntsAre vs ns → VDs Z vs (ns.map .int)
  | _, _, .nil => .nil
  | _, _, .cons n t h => .cons (.int n t) (IntsAre_VDs h)
theorem ints_len : ∀ {xs : List PyData} {ns : List Int}, ints? xs = some ns → xs.length = ns.length
  | [], ns, h => by unfold ints? at h; cases h; rfl
  | .int i :: r, ns, h => by
    unfold ints? at h
    cases q : ints? r with
    | none => rw [q] at h; cases h
    | some ms => rw [q] at h; cases h; rw [List.length_cons, List.length_cons, ints_len q]
  | .none :: _, _, h => by unfold ints? at h; cases h
  | .bool _ :: _, _, h => by unfold ints? at h; cases h
  | .list _ :: _, _, h => by unfold ints? at h; cases h
  | .tuple _ :: _, _, h => by unfold ints? at h; cases h

theorem insI_perm (x : Int) : ∀ l : List Int, (insI x l).Perm (x :: l)
  | [] => .refl _
  | y :: r => by
    unfold insI
    split
    · exact .refl _
    · exact (List.Perm.cons y (insI_perm x r)).trans (List.Perm.swap x y r)
theorem sortI_perm : ∀ l : List Int, (sortI l).Perm l
  | [] => .refl _
  | x :: r => (insI_perm x _).trans (List.Perm.cons x (sortI_perm r))
theorem insI_sorted (x : Int) : ∀ {l : List Int}, l.Pairwise (· ≤ ·) → (insI x l).Pairwise (· ≤ ·)
  | [], _ => by simp [insI]
  | y :: r, h => by
    unfold insI
    obtain ⟨h1, h2⟩ := List.pairwise_cons.mp h
    split
    · rename_i hle
      refine List.pairwise_cons.mpr ⟨fun z hz => ?_, h⟩
      rcases List.mem_cons.mp hz with e | q
      · omega
      · have := h1 z q; omega
    · rename_i hgt
      refine List.pairwise_cons.mpr ⟨fun z hz => ?_, insI_sorted x h2⟩
      rcases List.mem_cons.mp ((insI_perm x r).mem_iff.mp hz) with e | q
      · omega
      · exact h1 z q
theorem sortI_sorted : ∀ l : List Int, (sortI l).Pairwise (· ≤ ·)
  | [] => .nil
  | x :: r => insI_sorted x (sortI_sorted r)
theorem sorted_unique {l l' : List Int} (p : l.Perm l') (h : l.Pairwise (· ≤ ·)) (h' : l'.Pairwise (· ≤ ·)) : l = l' :=
  p.eq_of_pairwise (le := (· ≤ ·)) (fun a b _ _ x y => Int.le_antisymm x y) h h'
theorem foldl_max_spec : ∀ (ns : List Int) (n : Int), (ns.foldl max n ∈ n :: ns) ∧ ∀ a ∈ n :: ns, a ≤ ns.foldl max n
  | [], n => by simp
  | m :: ns, n => by
    obtain ⟨h1, h2⟩ := foldl_max_spec ns (max n m)
    rw [List.foldl_cons]
    refine ⟨?_, fun a ha => ?_⟩
    · rcases List.mem_cons.mp h1 with e | q
      · rcases Int.le_total n m with hle | hle
        · rw [e, Int.max_eq_right hle]; simp
        · rw [e, Int.max_eq_left hle]; simp
      · exact .tail _ (.tail _ q)
    · have hm := h2 (max n m) (.head _)
      rcases List.mem_cons.mp ha with e | q
      · have := Int.le_max_left n m; omega
      · rcases List.mem_cons.mp q with e | q
        · have := Int.le_max_right n m; omega
        · exact h2 a (.tail _ q)

section
variable {prog : Program} {w : World} {h₀ : Heap} {A : Around} {E : Value → Shared → Prop} {s s' : Shared} {Z Z' : ZP} {ρ ρ' : List Addr} {σ σ' σ'' : Store} {env : Env} {φ : Frm} {n : Nat} {X : List Addr} {sc : Scope}

theorem list_fresh {a : Addr} {h' : Heap} {tk : Nat} {vs : List Value} {xs : List PyData} {m : Nat} (B : Base prog w h₀ Z ρ σ s) (hk : ∀ b o, s.heap.get? b = some o → h'.get? b = some o) (hn : s.heap.get? a = none)
    (ho : h'.get? a = some { cls := .type "list", dict := none, data := .seq vs.toArray m, slots := #[] }) (hv : VDs Z vs xs) :
    ∃ Z' ρ', Grow [] Z ρ s Z' ρ' { s with heap := h', toks := tk } ∧ Base prog w h₀ Z' ρ' σ { s with heap := h', toks := tk } ∧ VR Z' ρ' (.d (.list xs)) (.ref a) :=
  ⟨ZAdd Z a { cls := .type "list", data := .seq vs.toArray m }, ρ, (Grow.ext hk (Sh.heap _ _)).freeze hn, (B.ext (s' := { s with heap := h', toks := tk }) hk).freeze ho (B.notR hn),
    VD.list (ZAdd.here _ _ _) rfl rfl (by simpa using VDs.mono (ZAdd.sub _ _ _) hv)⟩

theorem snd_len {args : List PV} {vals : List Value} {pv : PV} (h : pFun "len" args σ = some pv) (B : Base prog w h₀ Z ρ σ s) (hv : All2 (VR Z ρ) args vals) : SndV prog w h₀ A Z ρ s (call (.builtin "len") vals) pv σ := by
  unfold pFun at h
  rw [if_pos rfl] at h
  refine SndV.ofPure B fun E Q k => ?_
  split at h
  · rename_i xs
    split at h
    · rename_i hlt
      cases h
      obtain ⟨hv1, hv2⟩ : ∃ v, vals = [v] ∧ VR Z ρ (.d (.list xs)) v := by cases hv with | cons x y => cases y; exact ⟨_, rfl, x⟩
      obtain ⟨rfl, hv2⟩ := hv2
      obtain ⟨a, vs, rfl, hl, hvs⟩ := IsL_of_VD B hv2
      have len := hvs.length
      rw [Array.length_toList] at len
      refine Calls.call_len_list hl (by omega) ?_
      rw [len]; exact k _ _ (.int _ _)
    · cases h
  · rename_i kk
    obtain ⟨v, rfl, hv2⟩ : ∃ v, vals = [v] ∧ VR Z ρ (.ref kk) v := by cases hv with | cons x y => cases y; exact ⟨_, rfl, x⟩
    obtain ⟨a, hja, rfl⟩ := hv2
    split at h
    · rename_i xs hk
      split at h
      · rename_i hlt
        cases h
        obtain ⟨va, hpa, hva⟩ := B.objs _ a _ hja hk
        have len := hva.length
        refine Calls.call_len_list hpa.isList (by rw [List.size_toArray]; omega) ?_
        rw [List.size_toArray, len]; exact k _ _ (.int _ _)
      · cases h
    · rename_i xs hk
      cases h
      obtain ⟨o, es, ep, t, ho, hex, hd, hel, hmem, hb, hf, hn⟩ := setAt_setOf (prog := prog) (B.objs _ a _ hja hk)
      refine call_len_set ho hex hd hf (by unfold scanBound at hb; omega) ?_
      rw [hn]; exact k _ _ (.int _ _)
    · rename_i xs hk
      cases h
      obtain ⟨o, es, ep, t, ho, hex, hd, hel, hmem, hb, hf, hn⟩ := (B.objs _ a _ hja hk).2.2
      refine call_len_set ho hex hd hf (by unfold scanBound at hb; omega) ?_
      rw [hn]; exact k _ _ (.int _ _)
    · rename_i es hk
      split at h
      · rename_i hlt
        cases h
        obtain ⟨hsm, vs, hd, hvv⟩ := B.objs _ a _ hja hk
        have hz := zip_len hvv
        refine call_len_dict (by simpa using hsm) hd (by omega) ?_
        rw [hz]; exact k _ _ (.int _ _)
      · cases h
    · cases h
  · cases h

theorem snd_sorted_list {xs : List PyData} {ns : List Int} {v : Value} (hlt : xs.length < 64) (hi : ints? xs = some ns) (B : Base prog w h₀ Z ρ σ s) (hv : VR Z ρ (.d (.list xs)) v) :
    SndV prog w h₀ A Z ρ s (call (.builtin "sorted") [v]) (.d (.list ((sortI ns).map .int))) σ := fun E Q k => by
  obtain ⟨a, vs, rfl, hl, hvs⟩ := IsL_of_VD B hv
  have len := hvs.length
  have hl' : s.heap.IsList a vs.toList.toArray := by simpa using hl
  refine sorted_ints hl' (ints_IntsAre hi hvs) (by omega) fun out ns' a1 a2 a3 => ?_
  obtain ⟨e, he⟩ := sortedAll_at s.heap vs.toList out
  have en : ns' = sortI ns := sorted_unique (a2.trans (sortI_perm ns).symm) a3 (sortI_sorted ns)
  subst en
  have he' : (sortedAll s.heap vs.toList out).get? (s.heap.objs.size + 1) = some { cls := .type "list", dict := none, data := .seq out.toList.toArray e, slots := #[] } := by
    rw [he]
  obtain ⟨Z', ρ', g, B', r⟩ := list_fresh (tk := s.toks) B (fun _ _ => sortedAll_old) (none_size _ (Nat.le_succ _)) he' (IntsAre_VDs (Z := Z) a1)
  exact k _ _ _ _ g B' r

theorem snd_max {xs : List PyData} {m : Int} {ns : List Int} {v : Value} (hA : AOk n A) (hi : ints? xs = some (m :: ns)) (B : Base prog w h₀ Z ρ σ s) (hv : VR Z ρ (.d (.list xs)) v) :
    SndV prog w h₀ A Z ρ s (call (.builtin "max") [v]) (.d (.int (ns.foldl max m))) σ := fun E Q k => by
  obtain ⟨a, vs, rfl, hl, hvs⟩ := IsL_of_VD B hv
  obtain ⟨ts, h1, h2⟩ := VDs_ints hi hvs
  have e : vs = intItems ((m :: ns).zip ts).toArray := by
    apply Array.toList_inj.mp
    rw [h2]; simp [intItems]
  rw [e] at hl
  have hnum : (((m :: ns).zip ts).toArray.toList.map (·.1)) = m :: ns := by
    have : (((m :: ns).zip ts).toArray.toList.map (·.1)) = ((m :: ns).zip ts).map Prod.fst := by simp
    rw [this, List.map_fst_zip (by omega)]
  have hsz : ((m :: ns).zip ts).toArray.size = ns.length + 1 := by rw [List.size_toArray, List.length_zip, h1, List.length_cons]; omega
  refine max_intList hA.hh hl (by omega) fun v h' tk hv' hk => ?_
  obtain ⟨t, rfl⟩ := intItems_at hv'
  obtain ⟨q1, q2⟩ := argBest_gt (numAt ((m :: ns).zip ts).toArray) (((m :: ns).zip ts).toArray.size - 1)
  generalize argBest (fun i j => decide (numAt ((m :: ns).zip ts).toArray i > numAt ((m :: ns).zip ts).toArray j)) (((m :: ns).zip ts).toArray.size - 1) = b at q1 q2 ⊢
  have hb : numAt ((m :: ns).zip ts).toArray b = ns.foldl max m := by
    obtain ⟨p1, p2⟩ := foldl_max_spec ns m
    apply Int.le_antisymm
    · refine p2 _ ?_
      rw [numAt_eq, hnum]; exact getD_mem (by rw [List.length_cons]; omega)
    · obtain ⟨j, hj, ej⟩ := mem_getD p1
      rw [List.length_cons] at hj
      have := q2 j (by omega)
      rw [numAt_eq _ j, hnum, ej] at this
      exact this
  rw [hb]
  exact k _ _ _ _ (.ext hk (Sh.heap _ _)) (B.ext hk) (.int _ _)

theorem sum_small : ∀ {ns : List Int}, small ns = true → ns.length < 1000 → -(1000000 * ns.length : Int) ≤ ns.sum ∧ ns.sum ≤ 1000000 * ns.length
  | [], _, _ => by simp
  | x :: ns, h, hl => by
    unfold small at h
    rw [List.all_cons, Bool.and_eq_true, decide_eq_true_eq] at h
    rw [List.length_cons] at hl
    have := sum_small (ns := ns) h.2 (by omega)
    rw [List.sum_cons, List.length_cons]
    omega
theorem small_take {ns : List Int} (h : small ns = true) (j : Nat) : small (ns.take j) = true := by
  unfold small at h ⊢
  rw [List.all_eq_true] at h ⊢
  exact fun x hx => h x (List.mem_of_mem_take hx)
theorem snd_sum {xs : List PyData} {ns : List Int} {v : Value} (hA : AOk n A) (hi : ints? xs = some ns) (hs : small ns = true) (hl1 : ns.length < 1000) (B : Base prog w h₀ Z ρ σ s) (hv : VR Z ρ (.d (.list xs)) v) :
    SndV prog w h₀ A Z ρ s (call (.builtin "sum") [v]) (.d (.int ns.sum)) σ := fun E Q k => by
  obtain ⟨a, vs, rfl, hl, hvs⟩ := IsL_of_VD B hv
  obtain ⟨ts, h1, h2⟩ := VDs_ints hi hvs
  have e : vs = intItems (ns.zip ts).toArray := by
    apply Array.toList_inj.mp
    rw [h2]; simp [intItems]
  rw [e] at hl
  have hnum : ((ns.zip ts).toArray.toList.map (·.1)) = ns := by
    have : ((ns.zip ts).toArray.toList.map (·.1)) = (ns.zip ts).map Prod.fst := by simp
    rw [this, List.map_fst_zip (by omega)]
  have hsz : (ns.zip ts).toArray.size = ns.length := by rw [List.size_toArray, List.length_zip, h1]; omega
  refine sum_intList hA.hh hl (fun j hj => ?_) fun h' tk t' hk => ?_
  · rw [hsz] at hj
    rw [numAt_eq, preSum_eq, hnum]
    have a1 := sum_small (small_take hs (j + 1)) (by rw [List.length_take]; omega)
    have a2 : ns.getD j 0 ∈ ns := getD_mem hj
    unfold small at hs
    have a3 := List.all_eq_true.mp hs _ a2
    rw [decide_eq_true_eq] at a3
    rw [List.length_take] at a1
    unfold InLong
    omega
  · rw [preSum_eq, hnum, hsz, List.take_length]
    exact k _ _ _ _ (.ext hk (Sh.heap _ _)) (B.ext hk) (.int _ _)
end
end Mine
end
section
open PySem PySem.W PyProof.Rows
set_option maxRecDepth 100000
set_option linter.all false
namespace Mine

theorem slot_sit_next : Slot "set_iterator" "__next__" "set_iterator.__next__" :=
  .of (owner := "set_iterator") (n := "__next__") (by rw [typeLookup_type, builtinLookup_eq_fast]; kernel_rfl) (by decide +kernel) (by decide +kernel) (by decide +kernel)
    (by first | exact .inl (by decide +kernel) | exact .inr (by decide +kernel)) (by rw [isSubtype_type]; kernel_rfl)
theorem entry_sit_next : entryFor table "set_iterator.__next__" = some Builtin.«set_iterator.__next__» := entryFor_of_tree (by kernel_rfl)
theorem args_sit_next (a : Value) : argsOk "set_iterator.__next__" ⟨[a], []⟩ := by unfold argsOk; kernel_rfl
theorem entry_set_iter' : entryFor table "set.__iter__" = some Builtin.«frozenset.__iter__» :=
  entryFor_alias (id' := "frozenset.__iter__") (by kernel_rfl) rfl (by decide +kernel) (by kernel_rfl)

theorem erase_perm {α : Type} : ∀ {l : List α} {i : Nat} (h : i < l.length), (l[i] :: l.eraseIdx i).Perm l
  | x :: l, 0, _ => by simp
  | x :: l, i + 1, h => by
    rw [List.getElem_cons_succ, List.eraseIdx_cons_succ]
    exact (List.Perm.swap x _ _).trans (List.Perm.cons x (erase_perm (by simpa using h)))
theorem pickOrder_go {α : Type} (next : Nat → Nat) : ∀ (fuel k : Nat) (left : List α) (out : Array α), left.length = fuel → (pickOrder.go next fuel k left out).toList.Perm (out.toList ++ left)
  | 0, k, left, out, h => by
    have : left = [] := List.length_eq_zero_iff.mp h
    subst this
    unfold pickOrder.go
    simp
  | fuel + 1, k, left, out, h => by
    unfold pickOrder.go
    have hi : next k % left.length < left.length := Nat.mod_lt _ (by omega)
    rw [List.getElem?_eq_getElem hi]
    dsimp only
    refine (pickOrder_go next fuel (k + 1) _ _ (by rw [List.length_eraseIdx, if_pos hi]; omega)).trans ?_
    rw [Array.toList_push, List.append_assoc]
    exact List.Perm.append_left _ (erase_perm hi)
theorem pickOrder_perm {α : Type} (next : Nat → Nat) (xs : Array α) : (pickOrder next xs).toList.Perm xs.toList := by
  unfold pickOrder
  have := pickOrder_go next xs.size 0 xs.toList #[] (by simp)
  simpa using this

def ordS (w : World) (a : Addr) (ep : Nat) (es : Array (Int × Value)) : Array (Int × Value) := if w.params.followText "set-order" then pickOrder (w.params.setOrder a ep) es else es
theorem ordS_perm (w : World) (a : Addr) (ep : Nat) (es : Array (Int × Value)) : (ordS w a ep es).toList.Perm es.toList := by
  unfold ordS
  split
  · exact pickOrder_perm _ _
  · exact .refl _

def plS (xs : List Int) : Array Nat := (xs.map Int.toNat).toArray
theorem below_ok : ∀ xs ∈ subs5, SetTable.below (plS xs) 0 = 0 ∧ ∀ i ∈ List.range xs.length, SetTable.below (plS xs) ((plS xs).getD i 0 + 1) = i + 1 := by decide +kernel

abbrev IsSit (h : Heap) (I a : Addr) (slot i n ep : Nat) : Prop := h.get? I = some { cls := .type "set_iterator", dict := none, data := .fields #[rawInt slot, rawInt i, .ref a, rawInt n, rawInt ep], slots := #[] }
def SlotOk (w : World) (xs : List Int) (slot i : Nat) : Prop := w.params.followText "set-order" = true ∨ SetTable.below (plS xs) slot = i
abbrev SetIs (w : World) (h : Heap) (a : Addr) (es : Array (Int × Value)) (ep : Nat) (xs : List Int) : Prop := h.get? a = some { cls := .type "set", data := .set es ep (tabS (!w.params.followText "set-order") xs) }

section
variable {prog : Program} {w : World} {h₀ : Heap} {A : Around} {E : Value → Shared → Prop} {s s' : Shared} {I a : Addr} {es : Array (Int × Value)} {ep slot i n : Nat} {xs : List Int}

theorem tabS_fits (hE : EntI es.toList xs) (hR : Rise xs) (led : Bool) : (tabS led xs).fits es.size = true := by
  have hsz := hE.size
  have hx5 := rise_len5 hR
  unfold tabS SetTable.fits
  rw [hsz]
  simp [SetTable.fill]
  split <;> omega

theorem setNext_item {Q : Option (Value × Nat) → Shared → Prop} (ho : SetIs w s.heap a es ep xs) (hE : EntI es.toList xs) (hR : Rise xs) (hs : SlotOk w xs slot i) {e : Int × Value} (he : (ordS w a ep es)[i]? = some e)
    (h : ∀ next, SlotOk w xs next (i + 1) → Q (some (e.2, next)) s) : wpAny (model prog w) A (setNext a slot i ep) Q E s := by
  have hf := tabS_fits hE hR (!w.params.followText "set-order")
  have hsz := hE.size
  unfold setNext
  refine wpAny_bind (wpAny_setState_of ho rfl hf ?_)
  dsimp only
  unfold setsByText
  refine wpAny_bind (wpAny_bind (wpAny_askSetting (wpAny_pure ?_)))
  unfold ordS at he
  show wpAny _ _ (if w.params.followText "set-order" = true then _ else _) _ _ _
  by_cases hb : w.params.followText "set-order" = true
  · rw [if_pos hb] at he ⊢
    rw [if_neg (by simp)]
    unfold setWalk setsByText
    refine wpAny_bind (wpAny_bind (wpAny_setState_of ho rfl hf ?_))
    dsimp only
    refine wpAny_bind (wpAny_bind (wpAny_askSetting (wpAny_pure ?_)))
    show wpAny _ _ (if w.params.followText "set-order" = true then _ else _) _ _ _
    rw [if_pos hb]
    refine wpAny_bind (wpAny_askSetting (wpAny_pure ?_))
    show wpAny _ _ (pure ((((pickOrder (w.params.setOrder a ep) es))[i]?).map fun e => (e.2, slot))) _ _ _
    rw [he]
    exact wpAny_pure (h slot (.inl hb))
  · rw [if_neg hb] at he ⊢
    have hb' : w.params.followText "set-order" = false := by simpa using hb
    have hbl : SetTable.below (plS xs) slot = i := hs.resolve_left hb
    have hi : i < xs.length := by
      have := (Array.getElem?_eq_some_iff.mp he).1; omega
    have hpl : (tabS (!w.params.followText "set-order") xs).place = plS xs := rfl
    refine wpAny_bind ?_
    rw [hb']
    refine wpAny_pure ?_
    have hled : (tabS true xs).place = plS xs := rfl
    simp only [Bool.not_false, hled, hbl]
    rw [he]
    have hpi : (plS xs)[i]? = some ((plS xs).getD i 0) := by
      have : i < (plS xs).size := by unfold plS; simpa using hi
      simp [this]
    rw [hpi]
    exact wpAny_pure (h _ (.inr ((below_ok xs (rise_subs hR)).2 i (List.mem_range.mpr hi))))
theorem setNext_end {Q : Option (Value × Nat) → Shared → Prop} (ho : SetIs w s.heap a es ep xs) (hE : EntI es.toList xs) (hR : Rise xs) (hs : SlotOk w xs slot xs.length)
    (h : Q none s) : wpAny (model prog w) A (setNext a slot xs.length ep) Q E s := by
  have hf := tabS_fits hE hR (!w.params.followText "set-order")
  have hsz := hE.size
  have hos : (ordS w a ep es).size = xs.length := by rw [← Array.length_toList, (ordS_perm w a ep es).length_eq, Array.length_toList]; exact hsz
  unfold setNext
  refine wpAny_bind (wpAny_setState_of ho rfl hf ?_)
  dsimp only
  unfold setsByText
  refine wpAny_bind (wpAny_bind (wpAny_askSetting (wpAny_pure ?_)))
  unfold ordS at hos
  show wpAny _ _ (if w.params.followText "set-order" = true then _ else _) _ _ _
  by_cases hb : w.params.followText "set-order" = true
  · rw [if_pos hb] at hos ⊢
    rw [if_neg (by simp)]
    unfold setWalk setsByText
    refine wpAny_bind (wpAny_bind (wpAny_setState_of ho rfl hf ?_))
    dsimp only
    refine wpAny_bind (wpAny_bind (wpAny_askSetting (wpAny_pure ?_)))
    show wpAny _ _ (if w.params.followText "set-order" = true then _ else _) _ _ _
    rw [if_pos hb]
    refine wpAny_bind (wpAny_askSetting (wpAny_pure ?_))
    show wpAny _ _ (pure ((((pickOrder (w.params.setOrder a ep) es))[xs.length]?).map fun e => (e.2, slot))) _ _ _
    rw [Array.getElem?_eq_none (by omega)]
    exact wpAny_pure h
  · rw [if_neg hb] at hos ⊢
    have hb' : w.params.followText "set-order" = false := by simpa using hb
    have hbl : SetTable.below (plS xs) slot = xs.length := hs.resolve_left hb
    refine wpAny_bind ?_
    rw [hb']
    refine wpAny_pure ?_
    have hled : (tabS true xs).place = plS xs := rfl
    simp only [Bool.not_false, hled, hbl]
    rw [Array.getElem?_eq_none (by omega)]
    exact wpAny_pure h

theorem sit_item {Q : Option Value → Shared → Prop} (hne : a ≠ I) (hit : IsSit s.heap I a slot i xs.length ep) (ho : SetIs w s.heap a es ep xs) (hE : EntI es.toList xs) (hR : Rise xs) (hs : SlotOk w xs slot i) {e : Int × Value} (he : (ordS w a ep es)[i]? = some e)
    (h : ∀ h' next, SlotOk w xs next (i + 1) → IsSit h' I a next (i + 1) xs.length ep → Heap.SameBut I s.heap h' → Q (some e.2) { s with heap := h' }) : wpAny (model prog w) A (pyNext (.ref I)) Q E s := by
  have hT : s.TypeIs (.ref I) "set_iterator" := ⟨_, hit, rfl⟩
  have hf := tabS_fits hE hR (!w.params.followText "set-order")
  have hsz := hE.size
  unfold pyNext
  refine wpAny_bind (wpAny_attempt (wpAny_callSpecial?_slot (name := Str.ofString "__next__") hT slot_sit_next
    (wpAny_call_entry slot_sit_next hT entry_sit_next ?_ (args_sit_next _))))
  show wpAny _ _ (fieldsOf (.ref I) >>= _) _ _ s
  refine wpAny_bind (wpAny_fieldsOf hit rfl ?_)
  show wpAny _ _ (setEntries a >>= _) _ _ s
  refine wpAny_bind (wpAny_setEntries_of ho rfl hf ?_)
  rw [if_neg (by rw [hsz]; simp)]
  show wpAny _ _ (setNext a slot i ep >>= _) _ _ s
  refine wpAny_bind (setNext_item ho hE hR hs he fun next hn => ?_)
  show wpAny _ _ (setField (.ref I) 0 (rawInt next) >>= _) _ _ s
  refine wpAny_bind (wpAny_setField_rec hit (by simp) fun h1 ho1 hb1 => ?_)
  refine wpAny_bind (wpAny_setField_rec (s := { s with heap := h1 }) ho1 (by simp) fun h2 ho2 hb2 => ?_)
  have e : ((i + 1 : Nat) : Int) = (i : Int) + 1 := rfl
  have ho3 : IsSit h2 I a next (i + 1) xs.length ep := by
    show h2.get? I = _
    rw [e]
    simpa using ho2
  exact wpAny_pure ⟨_, rfl, wpAny_pure (h h2 next hn ho3 (hb1.trans hb2))⟩

theorem sit_end {Q : Option Value → Shared → Prop} (hh : A.handled = none) (hne : a ≠ I) (hit : IsSit s.heap I a slot xs.length xs.length ep) (ho : SetIs w s.heap a es ep xs) (hE : EntI es.toList xs) (hR : Rise xs) (hs : SlotOk w xs slot xs.length)
    (h : ∀ h', Heap.ExtBut I s.heap h' → Q none { s with heap := h' }) : wpAny (model prog w) A (pyNext (.ref I)) Q E s := by
  have hT : s.TypeIs (.ref I) "set_iterator" := ⟨_, hit, rfl⟩
  have hf := tabS_fits hE hR (!w.params.followText "set-order")
  have hsz := hE.size
  unfold pyNext
  refine wpAny_bind (wpAny_attempt (wpAny_callSpecial?_slot (name := Str.ofString "__next__") hT slot_sit_next
    (wpAny_call_entry slot_sit_next hT entry_sit_next ?_ (args_sit_next _))))
  show wpAny _ _ (fieldsOf (.ref I) >>= _) _ _ s
  refine wpAny_bind (wpAny_fieldsOf hit rfl ?_)
  show wpAny _ _ (setEntries a >>= _) _ _ s
  refine wpAny_bind (wpAny_setEntries_of ho rfl hf ?_)
  rw [if_neg (by rw [hsz]; simp)]
  show wpAny _ _ (setNext a slot xs.length ep >>= _) _ _ s
  refine wpAny_bind (setNext_end ho hE hR hs ?_)
  show wpAny _ _ (setField (.ref I) 2 .none >>= _) _ _ s
  refine wpAny_bind (wpAny_setField_rec hit (by simp) fun h1 ho1 hb1 => ?_)
  refine wpAny_bind ?_
  simp only [newExc, newTuple]
  refine wpAny_bind (wpAny_newObj_type ?_ (by size_fits))
  refine wpAny_bind (m := firstArgMember _ _) (wpAny_of_eq (a := Value.none) (by first | rfl | (simp only [firstArgMember]; rfl)) ?_)
  refine wpAny_newObj_type ?_ (by size_fits)
  simp only [raiseNew]
  refine wpAny_bind (wpAny_handled ?_)
  first | rw [show A.in1.handled = none from hh] | rw [hh]
  refine wpAny_bind (wpAny_pure (wpAny_throw ?_))
  refine wpAny_bind (wpAny_isInstance (T := "StopIteration") (b := true) ⟨_, Heap.get?_push_size _ rfl, rfl⟩ isSubtype_stop ?_)
  exact wpAny_pure (h _ ((hb1.extBut.push _).push _))
end
end Mine
end
section
open PySem PySem.W PyProof.Rows
set_option maxRecDepth 100000
set_option linter.all false
namespace Mine

theorem slot_sit_iter' : Slot "set_iterator" "__iter__" "set_iterator.__iter__" :=
  .of (owner := "set_iterator") (n := "__iter__") (by rw [typeLookup_type, builtinLookup_eq_fast]; kernel_rfl) (by decide +kernel) (by decide +kernel) (by decide +kernel)
    (by first | exact .inl (by decide +kernel) | exact .inr (by decide +kernel)) (by rw [isSubtype_type]; kernel_rfl)
theorem entry_sit_iter : entryFor table "set_iterator.__iter__" = some Builtin.«dict_keyiterator.__iter__» :=
  entryFor_alias (id' := "dict_keyiterator.__iter__") (by kernel_rfl) (by first | rfl | decide +kernel | (unfold String.splitOn; simp +decide [String.splitOnAux])) (by decide +kernel) (by kernel_rfl)
theorem args_sit_iter (a : Value) : argsOk "set_iterator.__iter__" ⟨[a], []⟩ := by unfold argsOk; kernel_rfl

section
variable {prog : Program} {w : World} {h₀ : Heap} {A : Around} {E : Value → Shared → Prop} {s s' : Shared} {Z Z' : ZP} {ρ ρ' : List Addr} {σ σ' : Store} {env : Env} {φ : Frm} {I a : Addr} {es : Array (Int × Value)} {ep slot i n : Nat} {xs : List Int}

theorem iter_sit {Q : Value → Shared → Prop} (hit : IsSit s.heap I a slot i n ep) (h : Q (.ref I) s) : wpAny (model prog w) A (pyIter (.ref I)) Q E s := by
  have hT : s.TypeIs (.ref I) "set_iterator" := ⟨_, hit, rfl⟩
  refine wpAny_pyIter_slot hT slot_sit_iter' (wpAny_call_entry slot_sit_iter' hT entry_sit_iter ?_ (args_sit_iter _))
  show wpAny _ _ (ret (.ref I)) _ _ s
  exact wpAny_pure ⟨_, rfl, "set_iterator", _, hT, slot_sit_next.lookup, h⟩

theorem iter_set {Q : Value → Shared → Prop} (ho : SetIs w s.heap a es ep xs) (hE : EntI es.toList xs) (hR : Rise xs)
    (h : Q (.ref s.heap.objs.size) { s with heap := s.heap.push { cls := .type "set_iterator", data := .fields #[rawInt 0, rawInt 0, .ref a, rawInt es.size, rawInt ep] } }) : wpAny (model prog w) A (pyIter (.ref a)) Q E s := by
  have hT : s.TypeIs (.ref a) "set" := ⟨_, ho, rfl⟩
  have hf := tabS_fits hE hR (!w.params.followText "set-order")
  refine wpAny_pyIter_slot hT F.slot_set_iter (wpAny_call_entry F.slot_set_iter hT entry_set_iter' ?_ (F.args_set_iter_1 _))
  show wpAny _ _ (Builtin.Frozenset.sizeOf a >>= _) _ _ s
  unfold Builtin.Frozenset.sizeOf
  refine wpAny_bind (wpAny_bind (wpAny_setEntries_of ho rfl hf (wpAny_pure ?_)))
  dsimp only
  unfold setDrawn setsByText
  refine wpAny_bind ?_
  refine wpAny_bind (wpAny_setState_of ho rfl hf ?_)
  dsimp only
  refine wpAny_bind (wpAny_bind (wpAny_askSetting (wpAny_pure (wpAny_pure ?_))))
  have hd : (!w.params.followText "set-order" && (!(tabS (!w.params.followText "set-order") xs).plain && decide (es.size > 1))) = false := by simp [tabS]
  show wpAny _ _ (if (!w.params.followText "set-order" && (!(tabS (!w.params.followText "set-order") xs).plain && decide (es.size > 1))) = true then _ else _) _ _ _
  rw [hd, if_neg Bool.false_ne_true]
  refine wpAny_bind (wpAny_pure ?_)
  refine wpAny_bind (wpAny_setEpoch_of ho rfl hf ?_)
  refine wpAny_bind (wpAny_newObj_type (wpAny_pure ⟨_, rfl, "set_iterator", _, ⟨_, Heap.get?_push_size _ rfl, rfl⟩, slot_sit_next.lookup, ?_⟩) (by size_fits))
  exact h

theorem Walks.set (hh : A.handled = none) (hne : a ≠ I) (hE : EntI es.toList xs) (hR : Rise xs) :
    Walks prog w A I [I, a] [I] xs.length (fun i v => ((ordS w a ep es)[i]?).map (·.2) = some v) (fun i h => (∃ slot, SlotOk w xs slot i ∧ IsSit h I a slot i xs.length ep) ∧ SetIs w h a es ep xs) where
  sub := fun b hb => by simp at hb; simp [hb]
  frame := fun i h h' st hk => let ⟨⟨slot, h1, h2⟩, h3⟩ := st; ⟨⟨slot, h1, hk I (by simp) _ h2⟩, hk a (by simp) _ h3⟩
  item := fun i s Q E hi st hQ => by
    obtain ⟨⟨slot, h1, h2⟩, h3⟩ := st
    have hos : (ordS w a ep es).size = xs.length := by rw [← Array.length_toList, (ordS_perm w a ep es).length_eq, Array.length_toList]; exact hE.size
    have he : (ordS w a ep es)[i]? = some (ordS w a ep es)[i] := Array.getElem?_eq_getElem (by omega)
    refine sit_item hne h2 h3 hE hR h1 he fun h' next hn hit' hsb => ?_
    exact hQ _ h' s.toks (by rw [he]; rfl) ⟨⟨next, hn, hit'⟩, (hsb.2 a hne).trans h3⟩ fun b o hb e => hsb.extBut b o (fun h => hb (by simp [h])) e
  done := fun s Q E st hQ => by
    obtain ⟨⟨slot, h1, h2⟩, h3⟩ := st
    exact sit_end hh hne h2 h3 hE hR h1 fun h' he' => hQ h' s.toks fun b o hb e => he' b o (fun h => hb (by simp [h])) e
  self := fun i s Q E st hQ => let ⟨⟨slot, h1, h2⟩, h3⟩ := st; iter_sit h2 hQ

theorem len_hint_set (hT : s.TypeIs (.ref a) "set") {Q : Bool → Shared → Prop} (h : Q false s) : wpAny (model prog w) A (Builtin.List.listLengthHint (.ref a)) Q E s := by
  unfold Builtin.List.listLengthHint
  refine wpAny_bind (wpAny_specialOf hT F.slot_set_len.lookup ?_)
  generalize hid : ("set.__len__" : String) = id0
  wp_delta
  rw [show splitId id0 = some ("set", "__len__") from by subst hid; decide +kernel]
  subst hid
  refine wpAny_bind (wpAny_isInstance (T := "set") (b := true) hT (by rw [isSubtype_type]; kernel_rfl) ?_)
  refine wpAny_ite_split (fun hab => absurd hab (by decide)) (fun _ => ?_)
  refine wpAny_ite_split (fun _ => ?_) (fun hab => absurd (by decide +kernel) hab)
  refine wpAny_bind (wpAny_typeOf hT ?_)
  exact wpAny_pure h

theorem collect_set (hh : A.handled = none) (ho : SetIs w s.heap a es ep xs) (hE : EntI es.toList xs) (hR : Rise xs) {Q : List Value → Shared → Prop}
    (h : ∀ vs h' tk, vs = (ordS w a ep es).toList.map (·.2) → (∀ b o, s.heap.get? b = some o → h'.get? b = some o) → Q vs { s with heap := h', toks := tk }) : wpAny (model prog w) A (collect (.ref a)) Q E s := by
  have hlt : a < s.heap.objs.size := Heap.lt_size ho
  have hx5 := rise_len5 hR
  have hos : (ordS w a ep es).size = xs.length := by rw [← Array.length_toList, (ordS_perm w a ep es).length_eq, Array.length_toList]; exact hE.size
  unfold collect
  refine wpAny_bind (wpAny_runValue (codeAny_builtin F.entry_proto_collect ?_))
  rw [Around.under_plainId F.plain_proto_collect _]
  show wpAny _ A.in1 (newList [] >>= fun l => again (.builtin "list.__iadd__" ⟨[l, .ref a], []⟩)) _ _ s
  refine wpAny_bind (wpAny_newObj_type ?_)
  refine wpAny_pure ⟨plainId_quiet F.plain_list_iadd _, codeAny_builtin F.entry_list_iadd ?_⟩
  rw [Around.under_plainId F.plain_list_iadd _]
  have ho1 : SetIs w (s.heap.push { cls := .type "list", data := .seq ([] : List Value).toArray }) a es ep xs := Heap.get?_push_of_some _ ho
  show wpAny _ A.in1 (Builtin.List.listExtendWith (.ref s.heap.objs.size) (.ref a) (.ref s.heap.objs.size)) _ _ _
  unfold Builtin.List.listExtendWith
  refine wpAny_bind (wpAny_typeOf (T := "set") ⟨_, ho1, rfl⟩ ?_)
  have h1 : Builtin.List.listSameRef (.ref s.heap.objs.size) (.ref a) = false := by simp [Builtin.List.listSameRef]; exact Nat.ne_of_gt hlt
  have h2 : (Value.type "set" == Value.type "list") = false := by decide
  have h3 : (Value.type "set" == Value.type "tuple") = false := by decide
  simp only [h1, h2, h3, Bool.or_false, Bool.false_eq_true, if_false]
  refine wpAny_bind (iter_set ho1 hE hR ?_)
  generalize hS : s.heap.objs.size = S at hlt ⊢
  have n1 : a ≠ S := Nat.ne_of_lt hlt
  have n2 : a ≠ S + 1 := Nat.ne_of_lt (Nat.lt_succ_of_lt hlt)
  have n3 : S + 1 ≠ S := Nat.succ_ne_self S
  have hsz1 : (s.heap.push { cls := .type "list", data := .seq ([] : List Value).toArray }).objs.size = S + 1 := by rw [Heap.size_push, hS]
  rw [hsz1]
  have hI : IsSit ((s.heap.push { cls := .type "list", data := .seq ([] : List Value).toArray }).push { cls := .type "set_iterator", data := .fields #[rawInt 0, rawInt 0, .ref a, rawInt es.size, rawInt ep] }) (S + 1) a 0 0 xs.length ep := by
    rw [← hsz1, ← hE.size]; exact Heap.get?_push_size _ rfl
  have hL : ((s.heap.push { cls := .type "list", data := .seq ([] : List Value).toArray }).push { cls := .type "set_iterator", data := .fields #[rawInt 0, rawInt 0, .ref a, rawInt es.size, rawInt ep] }).get? S = some { cls := .type "list", data := .seq #[] } := by
    refine Heap.get?_push_of_some _ ?_
    rw [← hS]; exact Heap.get?_push_size _ rfl
  have hk : ∀ b o, s.heap.get? b = some o → ((s.heap.push { cls := .type "list", data := .seq ([] : List Value).toArray }).push { cls := .type "set_iterator", data := .fields #[rawInt 0, rawInt 0, .ref a, rawInt es.size, rawInt ep] }).get? b = some o :=
    fun b o e => Heap.get?_push_of_some _ (Heap.get?_push_of_some _ e)
  generalize ((s.heap.push { cls := .type "list", data := .seq ([] : List Value).toArray }).push { cls := .type "set_iterator", data := .fields #[rawInt 0, rawInt 0, .ref a, rawInt es.size, rawInt ep] }) = H at hI hL hk ⊢
  have ho2 : SetIs w H a es ep xs := hk _ _ ho
  refine wpAny_bind (wpAny_holding (len_hint_set (s := { s with heap := H }) ⟨_, ho2, rfl⟩ ?_))
  rw [if_pos (by decide +kernel)]
  refine wpAny_bind (wpAny_rule ?_)
  refine wpAny_bind ?_
  show wpAny _ _ (updateSeq S (·.push .none) >>= fun _ => updateSeq S (·.pop)) _ _ _
  refine wpAny_bind (wpAny_updateSeq (s := { s with heap := H }) hL rfl ?_)
  have hL2 := Heap.get?_update_self (Obj.mapSeq (·.push Value.none)) hL rfl
  refine wpAny_updateSeq (hz := by seq_fits) hL2 rfl ?_
  have hL3 := Heap.get?_update_self (Obj.mapSeq (·.pop)) hL2 rfl
  have oth : ∀ b o, b ≠ S → H.get? b = some o → ((H.update S (Obj.mapSeq (·.push .none))).update S (Obj.mapSeq (·.pop))).get? b = some o :=
    fun b o hb e => (Heap.get?_update_other _ _ (Ne.symm hb)).trans ((Heap.get?_update_other _ _ (Ne.symm hb)).trans e)
  have W := (Walks.set (prog := prog) (w := w) (A := A.in1) (I := S + 1) (a := a) (es := es) (ep := ep) (xs := xs) hh n2 hE hR).toS
  have hSf : S ∉ [S + 1, a] := fun h => by
    rcases List.mem_cons.mp h with e | h
    · exact n3 e.symm
    · exact n1 (List.mem_singleton.mp h).symm
  refine wpAny_pure ⟨plainId_quiet F.plain_extend_loop _, codeAny_extend_loopS W (lt_sizeLine (by omega)) S hSf _ xs.length 0 _ #[] _ rfl (Nat.zero_le _) ⟨⟨0, .inr (below_ok xs (rise_subs hR)).1, oth _ _ n3 hI⟩, oth _ _ n1 ho2⟩ hL3 (ItemsOf.nil _) fun s₂ acc' c' hm hS' hacc => ?_⟩
  refine wpAny_bind (wpAny_load hS' ?_)
  rw [Moved.eq_with hm]
  refine wpAny_pure (h _ _ _ ?_ fun b o e => hm.heap b o ?_ (oth b o ?_ (hk b o e)))
  · apply List.ext_getElem?
    intro j
    rw [List.getElem?_map, Array.getElem?_toList, Array.getElem?_toList]
    by_cases hj : j < xs.length
    · have hj' : j < acc'.size := by rw [hacc.1]; exact hj
      have : acc'[j]? = some acc'[j] := Array.getElem?_eq_getElem hj'
      rw [this, hacc.2 j _ this]
    · have q1 : acc'.size ≤ j := by rw [hacc.1]; exact Nat.le_of_not_lt hj
      have q2 : (ordS w a ep es).size ≤ j := by rw [hos]; exact Nat.le_of_not_lt hj
      rw [Array.getElem?_eq_none q1, Array.getElem?_eq_none q2]; rfl
  · have := Heap.lt_size e
    rw [hS] at this
    intro hm
    rcases List.mem_cons.mp hm with q | q
    · exact Nat.ne_of_lt this q
    · exact Nat.ne_of_lt (Nat.lt_succ_of_lt this) (List.mem_singleton.mp q)
  · have := Heap.lt_size e
    rw [hS] at this
    exact Nat.ne_of_lt this

theorem ord_ints {prog : Program} (hE : EntI es.toList xs) : ∃ ns : List Int, IntsAre ((ordS w a ep es).toList.map (·.2)) ns ∧ ns.Perm xs := by
  have key : ∀ (l : List (Int × Value)), (∀ e ∈ l, ∃ t, e.2 = .int e.1 t) → IntsAre (l.map (·.2)) (l.map (·.1)) := by
    intro l
    induction l with
    | nil => intro _; exact .nil
    | cons e l ih =>
      intro h
      obtain ⟨t, ht⟩ := h e (.head _)
      rw [List.map_cons, List.map_cons, ht]
      exact .cons _ _ (ih fun e' he' => h e' (.tail _ he'))
  have hp := ordS_perm w a ep es
  refine ⟨(ordS w a ep es).toList.map (·.1), key _ fun e he => ?_, ?_⟩
  · have := hp.mem_iff.mp he
    obtain ⟨ts, h1, h2⟩ := hE
    rw [h1] at this
    obtain ⟨⟨x, t⟩, _, rfl⟩ := List.mem_map.mp this
    exact ⟨t, rfl⟩
  · have := hp.map (·.1)
    have e2 := hE.fst
    have e3 : es.toList.map (·.1) = xs := by
      have := congrArg Array.toList e2
      rw [Array.toList_map] at this
      exact this
    rw [e3] at this
    exact this

theorem snd_sorted_set {k : Nat} {v : Value} {xs : List Int} (hA : AOk n A) (hk : σ[k]? = some (.set xs)) (B : Base prog w h₀ Z ρ σ s) (hv : VR Z ρ (.ref k) v) :
    SndV prog w h₀ A Z ρ s (call (.builtin "sorted") [v]) (.d (.list (xs.map .int))) σ := fun E Q kk => by
  obtain ⟨a, hja, rfl⟩ := hv
  obtain ⟨es, ep, ho, hE, hR⟩ := B.objs _ a _ hja hk
  refine Calls.call_function_entry kind_sorted plain_sorted entry_sorted (args_sorted1 _) ?_
  unfold Builtin.«sorted»
  refine wpAny_bind (m := checkCount "sorted" 1 1 _) (wpAny_pure ?_)
  refine wpAny_bind (collect_set (A := A.in1) hA.hh ho hE hR fun vs h' tk hvs hk' => ?_)
  obtain ⟨ns, hI, hp⟩ := ord_ints (prog := prog) (w := w) (a := a) (ep := ep) hE
  rw [← hvs] at hI
  have hvl : vs.length < 64 := by
    have h1 : vs.length = xs.length := by rw [hvs, List.length_map, (ordS_perm w a ep es).length_eq, Array.length_toList]; exact hE.size
    have := rise_len5 hR
    omega
  refine wpAny_bind (wpAny_newList ?_)
  have hoL : (h'.push (seqObj "list" vs.toArray 0)).get? h'.objs.size = some (seqObj "list" vs.toArray 0) := Heap.get?_push_size _ rfl
  show wpAny _ _ _ _ _ { s with heap := h'.push (seqObj "list" vs.toArray 0), toks := tk }
  have step := list_sort_tree (prog := prog) (w := w) (A := A.in1.in1) (E := fun e s' => E e s') (s := { s with heap := h'.push (seqObj "list" vs.toArray 0), toks := tk }) (P := fun fin s' => ∃ r, fin = .done (.ret r) ∧ (∃ out ns', IntsAre out.toList ns' ∧ ns'.Perm ns ∧ ns'.Pairwise (· ≤ ·) ∧ s'.heap = sortedHeap (h'.push (seqObj "list" vs.toArray 0)) h'.objs.size vs out ∧ s' = { s with heap := s'.heap, toks := tk })) hoL hI hvl fun out ns' a1 a2 a3 => ⟨_, rfl, out, ns', a1, a2, a3, rfl, rfl⟩
  refine wpAny_bind (wpAny_holding (wpAny_call_entry slot_list_sort ⟨_, hoL, rfl⟩ entry_list_sort (wpAny_mono step (fun fin s' hs => ?_) fun _ _ e => e) (args_list_sort _)))
  obtain ⟨r, rfl, out, ns', a1, a2, a3, a4, a5⟩ := hs
  refine ⟨r, rfl, wpAny_pure ⟨_, rfl, ?_⟩⟩
  have en : ns' = xs := sorted_unique (a2.trans hp) a3 (hR.1.imp fun h => Int.le_of_lt h)
  subst en
  obtain ⟨e, he⟩ := sortedHeap_at (out := out) hoL
  have hk2 : ∀ b o, s.heap.get? b = some o → s'.heap.get? b = some o := fun b o q => by
    have q1 := hk' b o q
    have hlt := Heap.lt_size q1
    rw [a4, sortedHeap_old (Nat.ne_of_lt hlt) (by rw [size_push']; exact Nat.lt_succ_of_lt hlt)]
    exact Heap.get?_push_of_some _ q1
  have hnone : s.heap.get? h'.objs.size = none := by
    cases q : s.heap.get? h'.objs.size with
    | none => rfl
    | some o => exact absurd (Heap.lt_size (hk' _ _ q)) (Nat.lt_irrefl _)
  have he' : s'.heap.get? h'.objs.size = some { cls := .type "list", dict := none, data := .seq out.toList.toArray e, slots := #[] } := by
    rw [a4, he]
  obtain ⟨Z', ρ', g, B', r⟩ := list_fresh (tk := tk) B hk2 hnone he' (IntsAre_VDs (Z := Z) a1)
  rw [a5]
  exact kk _ _ _ _ g B' r
end
end Mine
end
section
open PySem PySem.W PyProof.Rows
set_option maxRecDepth 100000
set_option linter.all false
namespace Mine

def layersN : Nat → List (List Int)
  | 0 => [[]]
  | n + 1 => (layersN n).flatMap fun l => ([(0 : Int), 1, 2, 3, 4].filter fun x => !l.contains x).map (· :: l)
theorem layers_mem : ∀ {l : List Int}, l.Nodup → (∀ x ∈ l, 0 ≤ x ∧ x < 5) → l ∈ layersN l.length
  | [], _, _ => by simp [layersN]
  | x :: l, hn, hr => by
    obtain ⟨h1, h2⟩ := List.nodup_cons.mp hn
    have ih := layers_mem h2 fun y hy => hr y (.tail _ hy)
    have hx := hr x (.head _)
    have h5 : x ∈ [(0 : Int), 1, 2, 3, 4] := by
      have : x = 0 ∨ x = 1 ∨ x = 2 ∨ x = 3 ∨ x = 4 := by omega
      simp; exact this
    rw [List.length_cons, layersN]
    exact List.mem_flatMap.mpr ⟨l, ih, List.mem_map.mpr ⟨x, List.mem_filter.mpr ⟨h5, by simpa using h1⟩, rfl⟩⟩
theorem layers_six : layersN 6 = [] := by decide +kernel
theorem layers_none : ∀ n, layersN (n + 6) = []
  | 0 => layers_six
  | n + 1 => by show (layersN (n + 6)).flatMap _ = []; rw [layers_none n]; rfl
theorem nodup5_len {l : List Int} (hn : l.Nodup) (hr : ∀ x ∈ l, 0 ≤ x ∧ x < 5) : l.length ≤ 5 := by
  have h := layers_mem hn hr
  rcases Nat.lt_or_ge l.length 6 with q | q
  · omega
  · obtain ⟨m, e⟩ := Nat.exists_eq_add_of_le' q
    rw [e, layers_none] at h
    cases h

def layOk (mask : Nat) (l : List Int) : Bool :=
  match SetTable.laid mask 0 0 true true l.toArray with
  | some (t, o) => o.toList.isPerm (List.range l.length) && t.fits l.length
  | none => false
theorem lay_7_0 : ∀ l ∈ layersN 0, layOk 7 l = true := by decide +kernel
theorem lay_7_1 : ∀ l ∈ layersN 1, layOk 7 l = true := by decide +kernel
theorem lay_7_2 : ∀ l ∈ layersN 2, layOk 7 l = true := by decide +kernel
theorem lay_7_3 : ∀ l ∈ layersN 3, layOk 7 l = true := by decide +kernel
theorem lay_7_4_0 : ∀ l ∈ layersN 3, l.contains 0 = false → layOk 7 (0 :: l) = true := by decide +kernel
theorem lay_7_4_1 : ∀ l ∈ layersN 3, l.contains 1 = false → layOk 7 (1 :: l) = true := by decide +kernel
theorem lay_7_4_2 : ∀ l ∈ layersN 3, l.contains 2 = false → layOk 7 (2 :: l) = true := by decide +kernel
theorem lay_7_4_3 : ∀ l ∈ layersN 3, l.contains 3 = false → layOk 7 (3 :: l) = true := by decide +kernel
theorem lay_7_4_4 : ∀ l ∈ layersN 3, l.contains 4 = false → layOk 7 (4 :: l) = true := by decide +kernel
theorem lay_7_5_0 : ∀ l ∈ layersN 4, l.contains 0 = false → layOk 7 (0 :: l) = true := by decide +kernel
theorem lay_7_5_1 : ∀ l ∈ layersN 4, l.contains 1 = false → layOk 7 (1 :: l) = true := by decide +kernel
theorem lay_7_5_2 : ∀ l ∈ layersN 4, l.contains 2 = false → layOk 7 (2 :: l) = true := by decide +kernel
theorem lay_7_5_3 : ∀ l ∈ layersN 4, l.contains 3 = false → layOk 7 (3 :: l) = true := by decide +kernel
theorem lay_7_5_4 : ∀ l ∈ layersN 4, l.contains 4 = false → layOk 7 (4 :: l) = true := by decide +kernel
theorem lay_15_0 : ∀ l ∈ layersN 0, layOk 15 l = true := by decide +kernel
theorem lay_15_1 : ∀ l ∈ layersN 1, layOk 15 l = true := by decide +kernel
theorem lay_15_2 : ∀ l ∈ layersN 2, layOk 15 l = true := by decide +kernel
theorem lay_15_3 : ∀ l ∈ layersN 3, layOk 15 l = true := by decide +kernel
theorem lay_15_4_0 : ∀ l ∈ layersN 3, l.contains 0 = false → layOk 15 (0 :: l) = true := by decide +kernel
theorem lay_15_4_1 : ∀ l ∈ layersN 3, l.contains 1 = false → layOk 15 (1 :: l) = true := by decide +kernel
theorem lay_15_4_2 : ∀ l ∈ layersN 3, l.contains 2 = false → layOk 15 (2 :: l) = true := by decide +kernel
theorem lay_15_4_3 : ∀ l ∈ layersN 3, l.contains 3 = false → layOk 15 (3 :: l) = true := by decide +kernel
theorem lay_15_4_4 : ∀ l ∈ layersN 3, l.contains 4 = false → layOk 15 (4 :: l) = true := by decide +kernel
theorem lay_15_5_0 : ∀ l ∈ layersN 4, l.contains 0 = false → layOk 15 (0 :: l) = true := by decide +kernel
theorem lay_15_5_1 : ∀ l ∈ layersN 4, l.contains 1 = false → layOk 15 (1 :: l) = true := by decide +kernel
theorem lay_15_5_2 : ∀ l ∈ layersN 4, l.contains 2 = false → layOk 15 (2 :: l) = true := by decide +kernel
theorem lay_15_5_3 : ∀ l ∈ layersN 4, l.contains 3 = false → layOk 15 (3 :: l) = true := by decide +kernel
theorem lay_15_5_4 : ∀ l ∈ layersN 4, l.contains 4 = false → layOk 15 (4 :: l) = true := by decide +kernel
theorem lay_31_0 : ∀ l ∈ layersN 0, layOk 31 l = true := by decide +kernel
theorem lay_31_1 : ∀ l ∈ layersN 1, layOk 31 l = true := by decide +kernel
theorem lay_31_2 : ∀ l ∈ layersN 2, layOk 31 l = true := by decide +kernel
theorem lay_31_3 : ∀ l ∈ layersN 3, layOk 31 l = true := by decide +kernel
theorem lay_31_4_0 : ∀ l ∈ layersN 3, l.contains 0 = false → layOk 31 (0 :: l) = true := by decide +kernel
theorem lay_31_4_1 : ∀ l ∈ layersN 3, l.contains 1 = false → layOk 31 (1 :: l) = true := by decide +kernel
theorem lay_31_4_2 : ∀ l ∈ layersN 3, l.contains 2 = false → layOk 31 (2 :: l) = true := by decide +kernel
theorem lay_31_4_3 : ∀ l ∈ layersN 3, l.contains 3 = false → layOk 31 (3 :: l) = true := by decide +kernel
theorem lay_31_4_4 : ∀ l ∈ layersN 3, l.contains 4 = false → layOk 31 (4 :: l) = true := by decide +kernel
theorem lay_31_5_0 : ∀ l ∈ layersN 4, l.contains 0 = false → layOk 31 (0 :: l) = true := by decide +kernel
theorem lay_31_5_1 : ∀ l ∈ layersN 4, l.contains 1 = false → layOk 31 (1 :: l) = true := by decide +kernel
theorem lay_31_5_2 : ∀ l ∈ layersN 4, l.contains 2 = false → layOk 31 (2 :: l) = true := by decide +kernel
theorem lay_31_5_3 : ∀ l ∈ layersN 4, l.contains 3 = false → layOk 31 (3 :: l) = true := by decide +kernel
theorem lay_31_5_4 : ∀ l ∈ layersN 4, l.contains 4 = false → layOk 31 (4 :: l) = true := by decide +kernel
theorem lay_7_4 (l : List Int) (h : l ∈ layersN 4) : layOk 7 l = true := by
  obtain ⟨r, hr, h⟩ := List.mem_flatMap.mp h
  obtain ⟨x, hx, rfl⟩ := List.mem_map.mp h
  obtain ⟨hx, hc⟩ := List.mem_filter.mp hx
  have hc' : r.contains x = false := by simpa using hc
  simp only [List.mem_cons, List.not_mem_nil, or_false] at hx
  rcases hx with rfl | rfl | rfl | rfl | rfl
  · exact lay_7_4_0 r hr hc'
  · exact lay_7_4_1 r hr hc'
  · exact lay_7_4_2 r hr hc'
  · exact lay_7_4_3 r hr hc'
  · exact lay_7_4_4 r hr hc'
theorem lay_7_5 (l : List Int) (h : l ∈ layersN 5) : layOk 7 l = true := by
  obtain ⟨r, hr, h⟩ := List.mem_flatMap.mp h
  obtain ⟨x, hx, rfl⟩ := List.mem_map.mp h
  obtain ⟨hx, hc⟩ := List.mem_filter.mp hx
  have hc' : r.contains x = false := by simpa using hc
  simp only [List.mem_cons, List.not_mem_nil, or_false] at hx
  rcases hx with rfl | rfl | rfl | rfl | rfl
  · exact lay_7_5_0 r hr hc'
  · exact lay_7_5_1 r hr hc'
  · exact lay_7_5_2 r hr hc'
  · exact lay_7_5_3 r hr hc'
  · exact lay_7_5_4 r hr hc'
theorem lay_15_4 (l : List Int) (h : l ∈ layersN 4) : layOk 15 l = true := by
  obtain ⟨r, hr, h⟩ := List.mem_flatMap.mp h
  obtain ⟨x, hx, rfl⟩ := List.mem_map.mp h
  obtain ⟨hx, hc⟩ := List.mem_filter.mp hx
  have hc' : r.contains x = false := by simpa using hc
  simp only [List.mem_cons, List.not_mem_nil, or_false] at hx
  rcases hx with rfl | rfl | rfl | rfl | rfl
  · exact lay_15_4_0 r hr hc'
  · exact lay_15_4_1 r hr hc'
  · exact lay_15_4_2 r hr hc'
  · exact lay_15_4_3 r hr hc'
  · exact lay_15_4_4 r hr hc'
theorem lay_15_5 (l : List Int) (h : l ∈ layersN 5) : layOk 15 l = true := by
  obtain ⟨r, hr, h⟩ := List.mem_flatMap.mp h
  obtain ⟨x, hx, rfl⟩ := List.mem_map.mp h
  obtain ⟨hx, hc⟩ := List.mem_filter.mp hx
  have hc' : r.contains x = false := by simpa using hc
  simp only [List.mem_cons, List.not_mem_nil, or_false] at hx
  rcases hx with rfl | rfl | rfl | rfl | rfl
  · exact lay_15_5_0 r hr hc'
  · exact lay_15_5_1 r hr hc'
  · exact lay_15_5_2 r hr hc'
  · exact lay_15_5_3 r hr hc'
  · exact lay_15_5_4 r hr hc'
theorem lay_31_4 (l : List Int) (h : l ∈ layersN 4) : layOk 31 l = true := by
  obtain ⟨r, hr, h⟩ := List.mem_flatMap.mp h
  obtain ⟨x, hx, rfl⟩ := List.mem_map.mp h
  obtain ⟨hx, hc⟩ := List.mem_filter.mp hx
  have hc' : r.contains x = false := by simpa using hc
  simp only [List.mem_cons, List.not_mem_nil, or_false] at hx
  rcases hx with rfl | rfl | rfl | rfl | rfl
  · exact lay_31_4_0 r hr hc'
  · exact lay_31_4_1 r hr hc'
  · exact lay_31_4_2 r hr hc'
  · exact lay_31_4_3 r hr hc'
  · exact lay_31_4_4 r hr hc'
theorem lay_31_5 (l : List Int) (h : l ∈ layersN 5) : layOk 31 l = true := by
  obtain ⟨r, hr, h⟩ := List.mem_flatMap.mp h
  obtain ⟨x, hx, rfl⟩ := List.mem_map.mp h
  obtain ⟨hx, hc⟩ := List.mem_filter.mp hx
  have hc' : r.contains x = false := by simpa using hc
  simp only [List.mem_cons, List.not_mem_nil, or_false] at hx
  rcases hx with rfl | rfl | rfl | rfl | rfl
  · exact lay_31_5_0 r hr hc'
  · exact lay_31_5_1 r hr hc'
  · exact lay_31_5_2 r hr hc'
  · exact lay_31_5_3 r hr hc'
  · exact lay_31_5_4 r hr hc'
theorem layOk_all (n : Nat) (hn : n ∈ List.range 6) (l : List Int) (hl : l ∈ layersN n) : layOk 7 l = true ∧ layOk 15 l = true ∧ layOk 31 l = true := by
  have hn := List.mem_range.mp hn
  match n, hn with
  | 0, _ => exact ⟨lay_7_0 l hl, lay_15_0 l hl, lay_31_0 l hl⟩
  | 1, _ => exact ⟨lay_7_1 l hl, lay_15_1 l hl, lay_31_1 l hl⟩
  | 2, _ => exact ⟨lay_7_2 l hl, lay_15_2 l hl, lay_31_2 l hl⟩
  | 3, _ => exact ⟨lay_7_3 l hl, lay_15_3 l hl, lay_31_3 l hl⟩
  | 4, _ => exact ⟨lay_7_4 l hl, lay_15_4 l hl, lay_31_4 l hl⟩
  | 5, _ => exact ⟨lay_7_5 l hl, lay_15_5 l hl, lay_31_5 l hl⟩
theorem laid_par (mask f m : Nat) (led plain : Bool) (hs : Array Int) : SetTable.laid mask f m led plain hs = (SetTable.laid mask 0 0 true true hs).map fun p => ({ p.1 with finger := f, moves := m, led := led, plain := plain }, p.2) := by
  unfold SetTable.laid
  cases SetTable.layClean mask hs <;> rfl
theorem laid_ok {mask f m : Nat} {led plain : Bool} {l : List Int} (hm : mask = 7 ∨ mask = 15 ∨ mask = 31) (hn : l.Nodup) (hr : ∀ x ∈ l, 0 ≤ x ∧ x < 5) :
    ∃ t o, SetTable.laid mask f m led plain l.toArray = some (t, o) ∧ o.toList.Perm (List.range l.length) ∧ t.fits l.length = true := by
  have hl := nodup5_len hn hr
  have hin : l.length ∈ List.range 6 := List.mem_range.mpr (by omega)
  obtain ⟨h1, h2, h3⟩ := layOk_all _ hin l (layers_mem hn hr)
  have hk : layOk mask l = true := by rcases hm with q | q | q <;> subst q <;> assumption
  unfold layOk at hk
  rw [laid_par]
  split at hk
  · rename_i t o e
    rw [Bool.and_eq_true] at hk
    rw [e]
    exact ⟨_, o, rfl, List.isPerm_iff.mp hk.1, hk.2⟩
  · cases hk

theorem perm_of_subset : ∀ {xs L : List Int}, xs.Nodup → (∀ x ∈ xs, x ∈ L) → L.length ≤ xs.length → L.Perm xs
  | [], L, _, _, h => by
    have : L = [] := List.length_eq_zero_iff.mp (by simpa using h)
    subst this; exact .refl _
  | x :: xs, L, hn, hs, h => by
    obtain ⟨h1, h2⟩ := List.nodup_cons.mp hn
    have hx := hs x (.head _)
    have p := List.perm_cons_erase hx
    refine p.trans (List.Perm.cons x (perm_of_subset h2 (fun y hy => ?_) ?_))
    · exact (List.mem_erase_of_ne fun e => h1 (by rw [← e]; exact hy)).mpr (hs y (.tail _ hy))
    · rw [List.length_erase_of_mem hx]; rw [List.length_cons] at h; omega

section
variable {prog : Program} {w : World} {h₀ : Heap} {A : Around} {E : Value → Shared → Prop} {s s' : Shared} {Z Z' : ZP} {ρ ρ' : List Addr} {σ σ' : Store} {env : Env} {φ : Frm} {I a b : Addr} {es : Array (Int × Value)} {ep n : Nat} {xs ys : List Int} {t : SetTable} {o : Obj}

theorem bag_hashes (hel : ElemsOf (intKind prog w) es.toList) (hmem : ∀ k, xs.contains k = true ↔ ∃ e ∈ es.toList, (intKind prog w).is k e.2 = true) (hn : es.size = xs.length) (hx : xs.Nodup) (hr : ∀ x ∈ xs, 0 ≤ x ∧ x < 5) :
    (es.toList.map (·.1)).Nodup ∧ ∀ x ∈ es.toList.map (·.1), 0 ≤ x ∧ x < 5 := by
  have h5 : ∀ x ∈ xs, x ∈ [(0 : Int), 1, 2, 3, 4] := fun x hx => by
    obtain ⟨h1, h2⟩ := hr x hx
    have : x = 0 ∨ x = 1 ∨ x = 2 ∨ x = 3 ∨ x = 4 := by omega
    simp; exact this
  have e1 : ∀ e ∈ es.toList, e.1 ∈ xs := fun e he => by
    obtain ⟨⟨k, hk, hh⟩, _⟩ := hel e he
    have hc : k ∈ xs := by simpa using (hmem k).mpr ⟨e, he, hk⟩
    have : hashInt k = k := hash5 (h5 k hc)
    have hh' : e.1 = hashInt k := hh
    rw [hh', this]; exact hc
  have sub : ∀ x ∈ xs, x ∈ es.toList.map (·.1) := fun x hx => by
    obtain ⟨e, he, hk⟩ := (hmem x).mp (by simpa using hx)
    obtain ⟨⟨k, hk', hh⟩, _⟩ := hel e he
    have : x = k := (intKind prog w).inj _ _ _ hk hk'
    subst this
    have hh' : e.1 = hashInt x := hh
    refine List.mem_map.mpr ⟨e, he, ?_⟩
    rw [hh']; exact hash5 (h5 x hx)
  have p := perm_of_subset hx sub (by rw [List.length_map, Array.length_toList]; omega)
  exact ⟨p.symm.nodup hx, fun x hx => hr x (p.mem_iff.mp hx)⟩

theorem reorder_perm {order : Array Nat} (hp : order.toList.Perm (List.range es.size)) : (order.filterMap (es[·]?)).toList.Perm es.toList := by
  rw [Array.toList_filterMap]
  have h1 := hp.filterMap (es[·]?)
  have h2 : (List.range es.size).filterMap (es[·]?) = es.toList := by
    have := pick_run es 0 es.size
    have e : es.toList.take es.size = es.toList := List.take_of_length_le (by simp)
    simpa [e] using this
  rw [h2] at h1
  exact h1

theorem roomFor_of {Q : Unit → Shared → Prop} (hS : s.heap.SetOf (intKind prog w) a (fun k => xs.contains k) xs.length) (hx : xs.Nodup) (hr : ∀ x ∈ xs, 0 ≤ x ∧ x < 5) {more : Nat} (hm : more ≤ 5)
    (h : ∀ h', Heap.SameBut a s.heap h' → h'.SetOf (intKind prog w) a (fun k => xs.contains k) xs.length → Q () { s with heap := h' }) : wpAny (model prog w) A (setRoomFor a more) Q E s := by
  obtain ⟨o, es, ep, t, ho, hex, hd, hel, hmem, hb, hf, hn⟩ := id hS
  have hl5 := nodup5_len hx hr
  obtain ⟨q1, q2⟩ := bag_hashes hel hmem hn hx hr
  unfold setRoomFor
  refine wpAny_bind (wpAny_setState_of ho hd hf ?_)
  dsimp only
  unfold SetTable.roomFor
  by_cases hc : (t.fill + more) * 5 ≥ t.mask * 3
  · rw [if_pos hc]
    dsimp only
    unfold setRelay
    refine wpAny_bind (wpAny_setState_of ho hd hf ?_)
    dsimp only
    have hps : t.place.size = es.size := by simp only [SetTable.fits, Bool.and_eq_true, beq_iff_eq] at hf; exact hf.1
    have hmask : SetTable.sizeAbove ((t.place.size + more) * 2) = 8 ∨ SetTable.sizeAbove ((t.place.size + more) * 2) = 16 ∨ SetTable.sizeAbove ((t.place.size + more) * 2) = 32 := by
      have : ∀ j, j ≤ 10 → SetTable.sizeAbove (j * 2) = 8 ∨ SetTable.sizeAbove (j * 2) = 16 ∨ SetTable.sizeAbove (j * 2) = 32 := by decide +kernel
      exact this _ (by omega)
    rw [if_neg (by have : sizeLine = 2 ^ 24 := sizeLine_eq
                   rcases hmask with q | q | q <;> rw [q, this] <;> decide)]
    have hrel : ∃ t' order, t.relaid (es.map (·.1)) ((t.place.size + more) * 2) = some (t', order) ∧ order.toList.Perm (List.range es.size) ∧ t'.fits es.size = true := by
      unfold SetTable.relaid
      have e1 : es.map (·.1) = (es.toList.map (·.1)).toArray := by
        apply Array.toList_inj.mp
        rw [Array.toList_map]
      rw [e1]
      have e2 : (es.toList.map (·.1)).length = es.size := by rw [List.length_map, Array.length_toList]
      rw [← e2]
      exact laid_ok (by rcases hmask with q | q | q <;> rw [q] <;> simp) q1 q2
    obtain ⟨t', order, hrl, hp, hft⟩ := hrel
    rw [hrl]
    have hper := reorder_perm (es := es) hp
    have hsz : (order.filterMap (es[·]?)).size = es.size := by rw [← Array.length_toList, hper.length_eq, Array.length_toList]
    refine wpAny_bind ?_
    show wpAny _ _ (if ((order.filterMap (es[·]?)).size != es.size) = true then _ else _) _ _ _
    rw [if_neg (by rw [hsz]; simp)]
    refine wpAny_pure ?_
    dsimp only
    have hb' : (order.filterMap (es[·]?)).size < scanBound := by rw [hsz]; exact hb
    refine wpAny_storeSet_of ho hd ?_ (fits_of_scanBound hb')
    obtain ⟨_, hS2⟩ := SetOf_store (knd := intKind prog w) (S' := fun k => xs.contains k) ho hex hd (hel.perm hper) (fun k => (hmem k).trans ⟨fun ⟨e, he, q⟩ => ⟨e, hper.mem_iff.mpr he, q⟩, fun ⟨e, he, q⟩ => ⟨e, hper.mem_iff.mp he, q⟩⟩) hb' (by rw [hsz]; exact hft)
    rw [hsz, hn] at hS2
    exact h _ (Heap.SameBut.update ..) hS2
  · rw [if_neg hc]
    have e : s = { s with heap := s.heap } := by cases s; rfl
    rw [e]
    exact wpAny_pure (h s.heap (Heap.SameBut.refl ..) hS)
end
end Mine
end
section
open PySem PySem.W PyProof.Rows
set_option maxRecDepth 100000
set_option linter.all false
namespace Mine
section
variable {prog : Program} {w : World} {h₀ : Heap} {A : Around} {E : Value → Shared → Prop} {s s' : Shared} {I a b : Addr} {es : Array (Int × Value)} {ep n : Nat} {xs ys : List Int} {t : SetTable} {o : Obj}

theorem setWalk_can {Q : Array (Int × Value) → Shared → Prop} (ho : SetIs w s.heap b es ep ys) (hE : EntI es.toList ys) (hR : Rise ys) (h : Q (ordS w b ep es) s) : wpAny (model prog w) A (setWalk b) Q E s := by
  have hf := tabS_fits hE hR (!w.params.followText "set-order")
  unfold setWalk setsByText
  refine wpAny_bind (wpAny_setState_of ho rfl hf ?_)
  dsimp only
  refine wpAny_bind (wpAny_bind (wpAny_askSetting (wpAny_pure ?_)))
  show wpAny _ _ (if w.params.followText "set-order" = true then _ else _) _ _ _
  unfold ordS at h
  by_cases hb : w.params.followText "set-order" = true
  · rw [if_pos hb] at h ⊢
    exact wpAny_bind (wpAny_askSetting (wpAny_pure h))
  · rw [if_neg hb] at h ⊢
    have hb' : w.params.followText "set-order" = false := by simpa using hb
    rw [hb']
    show wpAny _ _ (if (!(tabS (!false) ys).plain && decide (es.size > 1)) = true then _ else _) _ _ _
    have hd : (!(tabS (!false) ys).plain && decide (es.size > 1)) = false := by simp [tabS]
    rw [hd, if_neg Bool.false_ne_true]
    refine wpAny_bind ?_
    exact wpAny_pure (wpAny_pure h)
theorem setWalkUnseen_can {Q : Array (Int × Value) → Shared → Prop} {l : List Addr} {f : Option Addr} (ho : SetIs w s.heap b es ep ys) (hE : EntI es.toList ys) (hR : Rise ys) (h : Q (ordS w b ep es) s) : wpAny (model prog w) A (setWalkUnseen b l f) Q E s := by
  have hf := tabS_fits hE hR (!w.params.followText "set-order")
  unfold setWalkUnseen setsByText
  refine wpAny_bind (wpAny_setState_of ho rfl hf ?_)
  dsimp only
  refine wpAny_bind (wpAny_bind (wpAny_askSetting (wpAny_pure ?_)))
  show wpAny _ _ (if (w.params.followText "set-order" || ((tabS (!w.params.followText "set-order") ys).led && (tabS (!w.params.followText "set-order") ys).plain) || decide (es.size ≤ 1)) = true then _ else _) _ _ _
  rw [if_pos (by cases q : w.params.followText "set-order" <;> simp [tabS])]
  exact setWalk_can ho hE hR h

def BagInv (prog : Program) (w : World) (s : Shared) (a : Addr) (xs ys : List Int) (rest : List (Int × Value)) (s' : Shared) : Prop :=
  (∃ h' tk, s' = { s with heap := h', toks := tk } ∧ Heap.SameBut a s.heap h' ∧ ∃ cur : List Int, cur.Nodup ∧ (∀ x ∈ cur, 0 ≤ x ∧ x < 5) ∧ h'.SetOf (intKind prog w) a (fun k => cur.contains k) cur.length ∧
    ∀ k, (k ∈ cur ∨ k ∈ rest.map (·.1)) ↔ (k ∈ xs ∨ k ∈ ys)) ∧ ∀ e ∈ rest, (∃ t, e.2 = .int e.1 t) ∧ 0 ≤ e.1 ∧ e.1 < 5

theorem bag_same {h : Heap} {cur cur' : List Int} (hn : cur.Nodup) (hn' : cur'.Nodup) (hm : ∀ k, k ∈ cur ↔ k ∈ cur') (hS : h.SetOf (intKind prog w) a (fun k => cur.contains k) cur.length) : h.SetOf (intKind prog w) a (fun k => cur'.contains k) cur'.length := by
  have e1 : (fun k => cur.contains k) = fun k => cur'.contains k := funext fun k => by
    rw [Bool.eq_iff_iff]; simp [hm]
  have h1 : cur.length ≤ cur'.length := by
    rcases Nat.lt_or_ge cur'.length cur.length with q | q
    · have p := (perm_of_subset hn (fun x hx => (hm x).mp hx) (L := cur') (by omega)).length_eq
      omega
    · exact q
  have h2 : cur'.length ≤ cur.length := by
    rcases Nat.lt_or_ge cur.length cur'.length with q | q
    · have p := (perm_of_subset hn' (fun x hx => (hm x).mpr hx) (L := cur) (by omega)).length_eq
      omega
    · exact q
  rw [e1] at hS
  rwa [Nat.le_antisymm h1 h2] at hS

theorem merged_nodup (hx : xs.Nodup) (hy : ys.Nodup) : (xs ++ ys.filter fun y => !xs.contains y).Nodup := by
  rw [List.nodup_append]
  refine ⟨hx, hy.filter _, fun x h1 y h2 e => ?_⟩
  subst e
  have := (List.mem_filter.mp h2).2
  simp at this
  exact this h1
theorem merged_mem (k : Int) : k ∈ (xs ++ ys.filter fun y => !xs.contains y) ↔ (k ∈ xs ∨ k ∈ ys) := by
  rw [List.mem_append, List.mem_filter]
  constructor
  · rintro (q | q)
    · exact .inl q
    · exact .inr q.1
  · rintro (q | q)
    · exact .inl q
    · by_cases h : k ∈ xs
      · exact .inl h
      · exact .inr ⟨q, by simpa using h⟩

theorem merge_loop {each : Sem Unit} (ho : SetIs w s.heap b es ep ys) (hE : EntI es.toList ys) (hR : Rise ys) (hab : b ≠ a)
    (heach : ∀ (s' : Shared) (Q : Unit → Shared → Prop), SetIs w s'.heap b es ep ys → Q () s' → wpAny (model prog w) A each Q E s') {Q : PUnit → Shared → Prop}
    (hS : s.heap.SetOf (intKind prog w) a (fun k => xs.contains k) xs.length) (hxn : xs.Nodup) (hxr : ∀ x ∈ xs, 0 ≤ x ∧ x < 5)
    (fin : ∀ (h' : Heap) (tk : Nat) (cur : List Int), cur.Nodup → (∀ k, k ∈ cur ↔ (k ∈ xs ∨ k ∈ ys)) → Heap.SameBut a s.heap h' → h'.SetOf (intKind prog w) a (fun k => cur.contains k) cur.length → Q ⟨⟩ { s with heap := h', toks := tk })
    {f : Int × Value → PUnit → Sem (ForInStep PUnit)} (hf : ∀ e r, f e r = (do let _ ← holding [e.2] (setAddHashed a e.2 e.1); each; if (← setState b).2.1 != ep then (do unsupported "set.changed-during-merge"; pure (ForInStep.yield PUnit.unit)) else pure (ForInStep.yield PUnit.unit))) :
    wpAny (model prog w) A (forIn (ordS w b ep es) PUnit.unit f) Q E s := by
  have hft := tabS_fits hE hR (!w.params.followText "set-order")
  have hp := ordS_perm w b ep es
  obtain ⟨ts, he, hl⟩ := id hE
  refine forIn_array_ f (fun rest _ s' => BagInv prog w s a xs ys rest s') Q ?_ ?_ _ _ ?_
  · rintro ⟨x, v⟩ rest _ s' ⟨⟨h', tk, rfl, hsb, cur, c1, c2, c3, c4⟩, hrest⟩
    obtain ⟨⟨t, ht⟩, x1, x2⟩ := hrest _ (.head _)
    dsimp only at ht x1 x2
    subst ht
    have hx5 : x ∈ [(0 : Int), 1, 2, 3, 4] := five (by unfold small5; simp [x1, x2])
    have hb' : SetIs w h' b es ep ys := (hsb.2 b hab).trans ho
    rw [hf]
    have hh : (intKind prog w).hash x = x := hash5 hx5
    have hcl := nodup5_len c1 c2
    refine wpAny_bind (wpAny_holding ?_)
    dsimp only
    have eadd : setAddHashed a (.int x t) x = setAddHashed a (.int x t) ((intKind prog w).hash x) := by rw [hh]
    rw [eadd]
    refine wpAny_setAddHashed_of (knd := intKind prog w) (k := x) (by simp [intKind, Value.isInt]) rfl c3 (by unfold scanBound; omega) (fun h'' hsb2 hS2 => ?_)
    · have hb2 : SetIs w h'' b es ep ys := (hsb2.2 b hab).trans hb'
      refine wpAny_bind (heach _ _ hb2 ?_)
      refine wpAny_bind (wpAny_setState_of hb2 rfl hft ?_)
      rw [if_neg (by simp)]
      refine wpAny_pure ⟨⟨h'', tk, rfl, hsb.trans hsb2, if cur.contains x then cur else cur ++ [x], ?_, ?_, ?_, ?_⟩, fun e he => hrest e (.tail _ he)⟩
      · split
        · exact c1
        · rename_i hc
          rw [List.nodup_append]
          exact ⟨c1, by simp, fun p hp q hq e => by rw [List.mem_singleton.mp hq] at e; subst e; exact hc (by simpa using hp)⟩
      · intro y hy
        split at hy
        · exact c2 y hy
        · rcases List.mem_append.mp hy with q | q
          · exact c2 y q
          · rw [List.mem_singleton.mp q]; exact ⟨x1, x2⟩
      · have e1 : (fun k' => cur.contains k' || decide (k' = x)) = fun k => (if cur.contains x then cur else cur ++ [x]).contains k := funext fun k => by
          by_cases hc : cur.contains x = true
          · rw [if_pos hc]
            by_cases e : k = x
            · subst e; rw [hc]; rfl
            · simp [e]
          · rw [if_neg hc]; rw [Bool.eq_iff_iff]; simp
        have e2 : (if cur.contains x = true then cur.length else cur.length + 1) = (if cur.contains x then cur else cur ++ [x]).length := by
          split <;> simp
        rw [e1, e2] at hS2
        exact hS2
      · intro k
        rw [← c4 k, List.map_cons, List.mem_cons]
        by_cases hc : cur.contains x = true
        · rw [if_pos hc]
          have hc' : x ∈ cur := by simpa using hc
          constructor
          · rintro (q | q)
            · exact .inl q
            · exact .inr (.inr q)
          · rintro (q | q | q)
            · exact .inl q
            · exact .inl (q ▸ hc')
            · exact .inr q
        · rw [if_neg hc, List.mem_append, List.mem_singleton]
          constructor
          · rintro ((q | q) | q)
            · exact .inl q
            · exact .inr (.inl q)
            · exact .inr (.inr q)
          · rintro (q | q | q)
            · exact .inl (.inl q)
            · exact .inl (.inr q)
            · exact .inr q
  · rintro _ s' ⟨⟨h', tk, rfl, hsb, cur, c1, c2, c3, c4⟩, _⟩
    exact fin h' tk cur c1 (fun k => by have := c4 k; simpa using this) hsb c3
  · have e : s = { s with heap := s.heap, toks := s.toks } := by cases s; rfl
    refine ⟨⟨s.heap, s.toks, e, Heap.SameBut.refl .., xs, hxn, hxr, hS, fun k => ?_⟩, fun e he' => ?_⟩
    · have h1 := hp.map (·.1)
      have h2 : es.toList.map (·.1) = ys := by
        have := congrArg Array.toList hE.fst
        rw [Array.toList_map] at this
        exact this
      rw [h2] at h1
      rw [h1.mem_iff]
    · have hm := hp.mem_iff.mp he'
      rw [he] at hm
      obtain ⟨⟨x, t⟩, hm2, rfl⟩ := List.mem_map.mp hm
      have := hR.2 x (List.of_mem_zip hm2).1
      exact ⟨⟨t, rfl⟩, this.1, this.2⟩
end
end Mine
end
section
open PySem PySem.W PyProof.Rows
set_option maxRecDepth 100000
set_option linter.all false
namespace Mine
section
variable {prog : Program} {w : World} {h₀ : Heap} {A : Around} {E : Value → Shared → Prop} {s s' : Shared} {I a b : Addr} {es : Array (Int × Value)} {ep n : Nat} {xs ys : List Int} {t : SetTable} {o : Obj}

theorem elems_mem (hE : EntI es.toList ys) (k : Int) : ys.contains k = true ↔ ∃ e ∈ es.toList, (intKind prog w).is k e.2 = true := by
  obtain ⟨ts, he, hl⟩ := hE
  rw [he]
  constructor
  · intro hk
    have hk' : k ∈ ys := by simpa using hk
    obtain ⟨j, hj, e⟩ := List.getElem_of_mem hk'
    have hjt : j < ts.length := by omega
    refine ⟨(k, .int k ts[j]), List.mem_map.mpr ⟨(k, ts[j]), ?_, rfl⟩, by simp [intKind, Value.isInt]⟩
    have hz : j < (ys.zip ts).length := by rw [List.length_zip]; omega
    have := List.getElem_mem hz
    rw [List.getElem_zip, e] at this
    exact this
  · rintro ⟨e, he', hk⟩
    obtain ⟨⟨x, t⟩, hm, rfl⟩ := List.mem_map.mp he'
    have : k = x := by
      have : Value.isInt k (.int x t) = true := hk
      simp [Value.isInt] at this; exact this.symm
    subst this
    simpa using (List.of_mem_zip hm).1

theorem relaid_fresh (led : Bool) : SetTable.relaid (.fresh 0 0 led) ((#[] : Array (Int × Value)).map (·.1)) ((0 + 5) * 2) = some ({ mask := 15, place := #[], dummies := #[], finger := 0, led := led, moves := 1, plain := true }, #[]) := by
  cases led <;> decide +kernel

theorem setMerge_can {each : Sem Unit} (hB : BagAt prog w s.heap a xs) (ho : SetIs w s.heap b es ep ys) (hE : EntI es.toList ys) (hR : Rise ys) (hy : ys ≠ []) (hab : b ≠ a)
    (heach : ∀ (s' : Shared) (E : Value → Shared → Prop) (Q : Unit → Shared → Prop), SetIs w s'.heap b es ep ys → Q () s' → wpAny (model prog w) A each Q E s') {Q : Unit → Shared → Prop}
    (fin : ∀ (h' : Heap) (tk : Nat) (cur : List Int), cur.Nodup → (∀ k, k ∈ cur ↔ (k ∈ xs ∨ k ∈ ys)) → Heap.SameBut a s.heap h' → h'.SetOf (intKind prog w) a (fun k => cur.contains k) cur.length → Q () { s with heap := h', toks := tk }) :
    wpAny (model prog w) A (setMerge a b each) Q E s := by
  obtain ⟨hx0, ⟨hxr, hxn⟩, hSo⟩ := id hB
  have hf := tabS_fits hE hR (!w.params.followText "set-order")
  have hyn : ys.Nodup := hR.1.imp fun h => Int.ne_of_lt h
  have hy5 := rise_len5 hR
  have hsz := hE.size
  unfold setMerge
  have hne : (a == b) = false := by simpa using Ne.symm hab
  rw [hne, if_neg Bool.false_ne_true]
  refine wpAny_bind (wpAny_setState_of ho rfl hf ?_)
  dsimp only
  have hemp : es.isEmpty = false := by
    rw [Array.isEmpty_eq_false_iff]
    intro e
    rw [e] at hsz
    exact hy (List.length_eq_zero_iff.mp (by simpa using hsz.symm))
  rw [hemp, if_neg Bool.false_ne_true]
  by_cases hx : xs = []
  · subst hx
    obtain ⟨ep0, led0, ha⟩ := hx0 rfl
    have hfr : (SetTable.fresh 0 0 led0).fits (#[] : Array (Int × Value)).size = true := rfl
    have hex : Obj.ExactSet { cls := .type "set", data := .set #[] ep0 (.fresh 0 0 led0) } := ⟨rfl, rfl, rfl⟩
    by_cases h5 : ys.length < 5
    · unfold setRoomFor
      refine wpAny_bind ?_
      refine wpAny_bind (wpAny_setState_of ha rfl hfr ?_)
      dsimp only
      have hroom : (SetTable.fresh 0 0 led0).roomFor es.size = none := by
        unfold SetTable.roomFor
        rw [if_neg]
        show ¬ ((0 + es.size) * 5 ≥ 7 * 3)
        rw [hsz]; omega
      rw [hroom]
      refine wpAny_pure ?_
      refine wpAny_bind (wpAny_setState_of ha rfl hfr ?_)
      dsimp only
      have hroad : (SetTable.fresh 0 0 led0).road (tabS (!w.params.followText "set-order") ys) = .slotForSlot := by
        unfold SetTable.road
        rw [if_neg (by simp [SetTable.fresh, SetTable.fill])]
        rw [if_pos (by simp [SetTable.fresh, tabS, h5])]
      rw [hroad]
      dsimp only
      have hft' : SetTable.fits { tabS (!w.params.followText "set-order") ys with finger := (SetTable.fresh 0 0 led0).finger, led := (SetTable.fresh 0 0 led0).led && (tabS (!w.params.followText "set-order") ys).led, moves := (SetTable.fresh 0 0 led0).moves, plain := (SetTable.fresh 0 0 led0).plain && (tabS (!w.params.followText "set-order") ys).plain } es.size = true := hf
      have hbs : es.size < scanBound := by rw [hsz]; unfold scanBound; omega
      refine wpAny_storeSet_of ha rfl ?_ (fits_of_scanBound hbs)
      obtain ⟨_, hS2⟩ := SetOf_store (knd := intKind prog w) (S' := fun k => ys.contains k) ha hex rfl (hE.elems hR) (elems_mem hE) hbs hft'
      rw [hsz] at hS2
      exact fin _ s.toks ys hyn (fun k => by simp) (Heap.SameBut.update ..) hS2
    · have hl5 : ys.length = 5 := by omega
      unfold setRoomFor
      refine wpAny_bind ?_
      refine wpAny_bind (wpAny_setState_of ha rfl hfr ?_)
      dsimp only
      have hroom : (SetTable.fresh 0 0 led0).roomFor es.size = some ((0 + 5) * 2) := by
        unfold SetTable.roomFor
        rw [if_pos]
        · show some ((0 + es.size) * 2) = _
          rw [hsz, hl5]
        · show ((0 + es.size) * 5 ≥ 7 * 3)
          rw [hsz]; omega
      rw [hroom]
      dsimp only
      unfold setRelay
      refine wpAny_bind (wpAny_setState_of ha rfl hfr ?_)
      dsimp only
      rw [if_neg (by have : sizeLine = 2 ^ 24 := sizeLine_eq
                     rw [this]; decide +kernel)]
      rw [relaid_fresh]
      refine wpAny_bind (wpAny_of_eq (a := ((#[] : Array (Int × Value)), ({ mask := 15, place := #[], dummies := #[], finger := 0, led := led0, moves := 1, plain := true } : SetTable))) rfl ?_)
      dsimp only
      refine wpAny_storeSet_of ha rfl ?_ (by rw [sizeLine_eq]; decide)
      have ha1 := setStore_at ha (#[] : Array (Int × Value)) { mask := 15, place := #[], dummies := #[], finger := 0, led := led0, moves := 1, plain := true }
      have hsb1 := Heap.SameBut.update s.heap a (Obj.putSet (#[] : Array (Int × Value)) { mask := 15, place := #[], dummies := #[], finger := 0, led := led0, moves := 1, plain := true })
      refine wpAny_bind (wpAny_setState_of ha1 rfl rfl ?_)
      dsimp only
      have hroad : SetTable.road { mask := 15, place := #[], dummies := #[], finger := 0, led := led0, moves := 1, plain := true } (tabS (!w.params.followText "set-order") ys) = .clean := by
        unfold SetTable.road
        rw [if_neg (by simp [SetTable.fill])]
        rw [if_neg (by simp [tabS, hl5])]
      rw [hroad]
      dsimp only
      rw [hE.fst]
      obtain ⟨t', order, hrl, hp, hft⟩ := laid_ok (mask := 15) (f := 0) (m := 1) (led := led0 && (tabS (!w.params.followText "set-order") ys).led) (plain := true && (tabS (!w.params.followText "set-order") ys).plain) (.inr (.inl rfl)) hyn hR.2
      rw [hrl]
      rw [← hsz] at hp
      have hper := reorder_perm (es := es) hp
      have hsz2 : (order.filterMap (es[·]?)).size = es.size := by rw [← Array.length_toList, hper.length_eq, Array.length_toList]
      refine wpAny_bind ?_
      show wpAny _ _ (if ((order.filterMap (es[·]?)).size != es.size) = true then _ else _) _ _ _
      rw [if_neg (by rw [hsz2]; simp)]
      refine wpAny_pure ?_
      dsimp only
      have hb' : (order.filterMap (es[·]?)).size < scanBound := by rw [hsz2, hsz]; unfold scanBound; omega
      refine wpAny_storeSet_of ha1 rfl ?_ (fits_of_scanBound hb')
      obtain ⟨_, hS2⟩ := SetOf_store (knd := intKind prog w) (S' := fun k => ys.contains k) ha1 ⟨rfl, rfl, rfl⟩ rfl ((hE.elems hR).perm hper)
        (fun k => (elems_mem hE k).trans ⟨fun ⟨e, he, q⟩ => ⟨e, hper.mem_iff.mpr he, q⟩, fun ⟨e, he, q⟩ => ⟨e, hper.mem_iff.mp he, q⟩⟩) hb' (by rw [hsz2, hsz]; exact hft)
      rw [hsz2, hsz] at hS2
      exact fin _ s.toks ys hyn (fun k => by simp) (hsb1.trans (Heap.SameBut.update ..)) hS2
  · refine wpAny_bind (roomFor_of hSo hxn hxr (by rw [hsz]; exact hy5) fun h' hsb hS' => ?_)
    have ho' : SetIs w h' b es ep ys := (hsb.2 b hab).trans ho
    obtain ⟨o1, es1, ep1, t1, ho1, hex1, hd1, hel1, hmem1, hb1, hf1, hn1⟩ := id hS'
    refine wpAny_bind (wpAny_setState_of (s := { s with heap := h' }) ho1 hd1 hf1 ?_)
    dsimp only
    have hroad : t1.road (tabS (!w.params.followText "set-order") ys) = .oneByOne := by
      unfold SetTable.road
      rw [if_pos]
      have : t1.place.size = es1.size := by simp only [SetTable.fits, Bool.and_eq_true, beq_iff_eq] at hf1; exact hf1.1
      have hpos : 0 < xs.length := List.length_pos_iff.mpr hx
      show (t1.place.size + t1.dummies.size != 0) = true
      rw [bne_iff_ne]
      omega
    rw [hroad]
    dsimp only
    refine wpAny_bind (setWalkUnseen_can (s := { s with heap := h' }) ho' hE hR ?_)
    refine wpAny_bind (merge_loop (s := { s with heap := h' }) (each := each) ho' hE hR hab (fun s' Q h1 h2 => heach s' E Q h1 h2) hS' hxn hxr (fun h'' tk cur c1 c2 c3 c4 => ?_) (fun e r => rfl))
    exact wpAny_pure (fin h'' tk cur c1 c2 (hsb.trans c3) c4)

theorem updateFrom_can {id : String} (hB : BagAt prog w s.heap a xs) (hS : SetAt w s.heap b ys) (hy : ys ≠ []) (hab : b ≠ a) {Q : Unit → Shared → Prop}
    (h : ∀ h' tk, Heap.SameBut a s.heap h' → BagAt prog w h' a (xs ++ ys.filter fun y => !xs.contains y) → Q () { s with heap := h', toks := tk }) :
    wpAny (model prog w) A (Builtin.Frozenset.updateFrom id a (.ref b)) Q E s := by
  obtain ⟨es, ep, ho, hE, hR⟩ := hS
  obtain ⟨hx0, ⟨hxr, hxn⟩, hSo⟩ := _root_.id hB
  have hf := tabS_fits hE hR (!w.params.followText "set-order")
  have hyn : ys.Nodup := hR.1.imp fun h => Int.ne_of_lt h
  unfold Builtin.Frozenset.updateFrom Builtin.Frozenset.isAnySet
  refine wpAny_bind ?_
  refine wpAny_bind (m := isInstance (.ref b) (.type "set")) (wpAny_isInstance (T := "set") (b := true) ⟨_, ho, rfl⟩ (by rw [isSubtype_type]; kernel_rfl) (wpAny_pure ?_))
  rw [if_pos rfl]
  refine wpAny_bind (wpAny_pure ?_)
  unfold Builtin.Frozenset.merge
  refine wpAny_bind (wpAny_setEpoch_of ho rfl hf ?_)
  refine setMerge_can hB ho hE hR hy hab (fun s' E Q hs hq => ?_) fun h' tk cur hn hm hsb hS' => ?_
  · unfold Builtin.Frozenset.unchanged
    refine wpAny_bind (wpAny_setEpoch_of hs rfl hf ?_)
    rw [if_neg (by simp)]
    exact wpAny_pure hq
  · refine h h' tk hsb ⟨fun e => ?_, ⟨fun x hx => ?_, merged_nodup hxn hyn⟩, bag_same hn (merged_nodup hxn hyn) (fun k => (hm k).trans (merged_mem k).symm) hS'⟩
    · exfalso
      cases ys with
      | nil => exact hy rfl
      | cons y ys =>
        have : y ∈ xs ++ (y :: ys).filter fun y => !xs.contains y := (merged_mem y).mpr (.inr (.head _))
        rw [e] at this; cases this
    · rcases (merged_mem x).mp hx with q | q
      · exact hxr x q
      · exact hR.2 x q

theorem call_set_update {Q : Value → Shared → Prop} (hB : BagAt prog w s.heap a xs) (hS : SetAt w s.heap b ys) (hy : ys ≠ []) (hab : b ≠ a)
    (h : ∀ h' tk, Heap.SameBut a s.heap h' → BagAt prog w h' a (xs ++ ys.filter fun y => !xs.contains y) → Q .none { s with heap := h', toks := tk }) :
    wpAny (model prog w) A (call (.builtin "set.update") [.ref a, .ref b]) Q E s := by
  have hT : s.TypeIs (.ref a) "set" := hB.2.2.typeIs
  refine wpAny_call_entry F.slot_set_update hT F.entry_set_update ?_ (F.args_set_update_2 _ _)
  unfold Builtin.«set.update» Builtin.Frozenset.manyOthers
  refine wpAny_bind ?_
  show wpAny _ _ (Builtin.Frozenset.addrOf (.ref a) >>= _) _ _ _
  refine wpAny_bind (wpAny_pure (wpAny_pure ?_))
  dsimp only
  rw [List.forIn_cons]
  refine wpAny_bind (wpAny_bind (wpAny_bind (updateFrom_can hB hS hy hab fun h' tk hsb hB' => ?_)))
  refine wpAny_pure ?_
  dsimp only
  rw [List.forIn_nil]
  exact wpAny_pure (wpAny_pure ⟨_, rfl, h h' tk hsb hB'⟩)
end
end Mine
end
section
open PySem PySem.W PyProof.Rows
set_option maxRecDepth 100000
set_option linter.all false
namespace Mine

theorem typeCall_dict_0 : checkTypeCall "dict" ⟨[], []⟩ = pure () := by kernel_rfl
theorem newCall_dict_0 : checkBuiltinCall "dict.__new__" ⟨[.type "dict"], []⟩ = pure () := by kernel_rfl

section
variable {prog : Program} {w : World} {h₀ : Heap} {A : Around} {E : Value → Shared → Prop} {s s' : Shared} {Z Z' : ZP} {ρ ρ' : List Addr} {σ σ' σ'' : Store} {env : Env} {φ : Frm} {n : Nat} {X : List Addr} {sc : Scope}

theorem code_dict_new {Q₁ : Value → Shared → Prop} (h : Q₁ (.ref s.heap.objs.size) { s with heap := s.heap.push { cls := .type "dict", data := .dict #[] } }) :
    codeAny (model prog w) A (.call (.builtin "dict.__new__") ⟨[.type "dict"], []⟩) (wants Q₁ E) s := by
  refine codeAny_call_builtin F.kt_plain_dict_new F.kt_entry_dict_new (wpAny_of_eq newCall_dict_0 ?_)
  have hsub := F.kt_sub_dict
  have hmro := F.kt_mro_dict
  obtain ⟨hp, g, d, tk, os⟩ := s
  unfold Builtin.«dict.__new__»
  wp_walk
  exact h

theorem call_dict_0 {Q : Value → Shared → Prop} (h : Q (.ref s.heap.objs.size) { s with heap := s.heap.push { cls := .type "dict", data := .dict #[] } }) : wpAny (model prog w) A (call (.type "dict") []) Q E s := by
  refine callType_codes (Q₁ := fun obj s₁ => obj = .ref s.heap.objs.size ∧ s₁ = { s with heap := s.heap.push { cls := .type "dict", data := .dict #[] } }) F.kt_called_dict typeCall_dict_0 F.entry_dict_init (code_dict_new ⟨rfl, rfl⟩) ?_
  rintro obj s₁ ⟨rfl, rfl⟩
  have hT : Shared.TypeIs { s with heap := s.heap.push { cls := .type "dict", data := .dict #[] } } (.ref s.heap.objs.size) "dict" := ⟨_, Heap.get?_push_size _ rfl, rfl⟩
  refine ⟨hT, F.args_dict_init_1 _, ?_⟩
  unfold Builtin.«dict.__init__»
  refine wpAny_bind ?_
  unfold Builtin.Dict.selfAndRest
  refine wpAny_bind (wpAny_notOrdered_dict hT ?_)
  show wpAny _ _ (pure (s.heap.objs.size, [])) _ _ _
  refine wpAny_pure ?_
  show wpAny _ _ (Builtin.Dict.addKeywords s.heap.objs.size [] >>= _) _ _ _
  exact wpAny_bind (wpAny_pure (wpAny_pure ⟨rfl, h⟩))

/-- a new store object out of a push -/
theorem push_new {po : PO} {o : Obj} {tk : Nat} (B : Base prog w h₀ Z ρ σ s) (ho : OR prog w Z (ρ ++ [s.heap.objs.size]) (s.heap.push o) s.heap.objs.size po) :
    ∃ Z' ρ', Grow [] Z ρ s Z' ρ' { s with heap := s.heap.push o, toks := tk } ∧ Base prog w h₀ Z' ρ' (σ ++ [po]) { s with heap := s.heap.push o, toks := tk } ∧ VR Z' ρ' (.ref σ.length) (.ref s.heap.objs.size) := by
  have hn : s.heap.get? s.heap.objs.size = none := none_size _ (Nat.le_refl _)
  have hk : ∀ b o', s.heap.get? b = some o' → (s.heap.push o).get? b = some o' := fun b o' e => Heap.get?_push_of_some _ e
  refine ⟨Z, ρ ++ [s.heap.objs.size], (Grow.ext hk (Sh.heap _ _)).add hn, (B.ext (s' := { s with heap := s.heap.push o, toks := tk }) hk).add (B.notZ hn) (B.notR hn) ho, ?_⟩
  exact ⟨s.heap.objs.size, by rw [← B.len]; simp, rfl⟩

theorem dict_or (h : Heap) (B : Base prog w h₀ Z ρ σ s) (hs : h.objs.size ≠ sysModules) : OR prog w Z (ρ ++ [h.objs.size]) (h.push { cls := .type "dict", data := .dict #[] }) h.objs.size (.dict []) :=
  ⟨hs, [], Heap.DictOf.new h, .nil⟩

theorem big (hbig : sysModules < h₀.objs.size) (hold : ∃ a o, sysModules ≤ a ∧ h₀.get? a = some o) (B : Base prog w h₀ Z ρ σ s) : s.heap.objs.size ≠ sysModules := by
  obtain ⟨a, o, ha, ho⟩ := hold
  have := Heap.lt_size (B.h0 _ _ ho)
  exact fun e => Nat.not_lt.mpr ha (e ▸ this)

theorem newSet_can {Q : Value → Shared → Prop} (h : Q (.ref s.heap.objs.size) { s with heap := s.heap.push { cls := .type "set", data := .set #[] 0 (tabS (!w.params.followText "set-order") []) } }) : wpAny (model prog w) A (newSet (.type "set")) Q E s := by
  unfold newSet setsByText
  refine wpAny_bind (wpAny_bind (wpAny_askSetting (wpAny_pure ?_)))
  dsimp only
  simp only [newObj]
  exact wpAny_bind (wpAny_alloc (wpAny_pure h))

theorem setAdd_can {a : Addr} {xs : List Int} {x : Int} {t : Tok} (hS : SetAt w s.heap a xs) (hx : small5 x = true) {Q : Bool → Shared → Prop}
    (k : ∀ h' b tk, Heap.SameBut a s.heap h' → SetAt w h' a (addS x xs) → Q b { s with heap := h', toks := tk }) : wpAny (model prog w) A (setAdd a (.int x t)) Q E s := by
  unfold setAdd
  refine wpAny_holding ?_
  refine wpAny_bind ((intKind prog w).pyHash (k := x) (by simp [intKind, Value.isInt]) ?_)
  rw [show (intKind prog w).hash x = x from hash5 (five hx)]
  exact set_add_can (s := { s with toks := s.toks + 1 }) hS hx fun h' b hsb hS' => k h' b _ hsb hS'

theorem call_set_add_can {a : Addr} {xs : List Int} {x : Int} {t : Tok} (hS : SetAt w s.heap a xs) (hx : small5 x = true) {Q : Value → Shared → Prop}
    (k : ∀ h' tk, Heap.SameBut a s.heap h' → SetAt w h' a (addS x xs) → Q .none { s with heap := h', toks := tk }) : wpAny (model prog w) A (call (.builtin "set.add") [.ref a, .int x t]) Q E s := by
  obtain ⟨es, ep, ho, hE, hR⟩ := id hS
  have hT : s.TypeIs (.ref a) "set" := ⟨_, ho, rfl⟩
  refine wpAny_call_entry F.slot_set_add hT F.entry_set_add ?_ (F.args_set_add_2 _ _)
  unfold Builtin.«set.add» Builtin.Frozenset.oneOther
  simp only [List.isEmpty_nil, bind_assoc]
  unfold Builtin.Frozenset.addrOf
  refine wpAny_bind (wpAny_pure ?_)
  try dsimp only
  refine wpAny_bind (wpAny_pure ?_)
  try dsimp only
  refine wpAny_bind (setAdd_can hS hx fun h' b tk hsb hS' => ?_)
  show wpAny _ _ (ret Value.none) _ _ _
  exact wpAny_pure ⟨_, rfl, k h' tk hsb hS'⟩

theorem rng_add {a b c : Int} {t u v : Tok} {tk : Nat} (B : Base prog w h₀ Z ρ σ s) :
    ∃ Z' ρ', Grow [] Z ρ s Z' ρ' { s with heap := s.heap.push { cls := .type "range", data := .fields #[.int a t, .int b u, .int c v] }, toks := tk } ∧
      Base prog w h₀ Z' ρ' σ { s with heap := s.heap.push { cls := .type "range", data := .fields #[.int a t, .int b u, .int c v] }, toks := tk } ∧ VR Z' ρ' (.rng a b c) (.ref s.heap.objs.size) := by
  have hn : s.heap.get? s.heap.objs.size = none := none_size _ (Nat.le_refl _)
  have hk : ∀ b' o', s.heap.get? b' = some o' → (s.heap.push { cls := .type "range", data := .fields #[.int a t, .int b u, .int c v] }).get? b' = some o' := fun b' o' e => Heap.get?_push_of_some _ e
  exact ⟨ZAdd Z s.heap.objs.size { cls := .type "range", dict := none, data := .fields #[.int a t, .int b u, .int c v], slots := #[] }, ρ, (Grow.ext hk (Sh.heap _ _)).freeze hn,
    (B.ext (s' := { s with heap := s.heap.push { cls := .type "range", data := .fields #[.int a t, .int b u, .int c v] }, toks := tk }) hk).freeze (Heap.get?_push_size _ rfl) (B.notR hn), s.heap.objs.size, t, u, v, rfl, ZAdd.here _ _ _⟩

theorem items_vds {Z : ZP} {f : Nat → Int} : ∀ {acc : Array Value} {n : Nat}, ItemsOf (fun i v => ∃ t, v = .int (f i) t) acc n → VDs Z acc.toList ((List.range n).map fun i => .int (f i)) := by
  intro acc n h
  have key : ∀ (l : List Value) (k : Nat), (∀ j v, l[j]? = some v → ∃ t, v = Value.int (f (k + j)) t) → VDs Z l ((List.range l.length).map fun i => PyData.int (f (k + i))) := by
    intro l
    induction l with
    | nil => intro k _; exact .nil
    | cons v l ih =>
      intro k hk
      rw [List.length_cons, List.range_succ_eq_map, List.map_cons, List.map_map]
      obtain ⟨t, rfl⟩ := hk 0 v rfl
      refine .cons (.int _ _) ?_
      have := ih (k + 1) fun j v hj => by
        have := hk (j + 1) v (by simpa using hj)
        rwa [show k + (j + 1) = k + 1 + j by omega] at this
      have e : ((fun i => PyData.int (f (k + i))) ∘ Nat.succ) = fun i => PyData.int (f (k + 1 + i)) := funext fun i => by
        simp only [Function.comp]; congr 2; omega
      rw [e]; exact this
  have := key acc.toList 0 fun j v hj => by
    rw [Array.getElem?_toList] at hj
    have := h.2 j v hj
    simpa using this
  rw [Array.length_toList, h.1] at this
  simpa using this

theorem small_rng {a b : Int} (ha : a.natAbs < 1000000) (hb : b.natAbs < 1000000) : Builtin.Range.small a b 1 = true := small_one (by omega) (by omega) (by omega) (by omega)

theorem typ_snd {nm : String} {args : List PV} {vals : List Value} {pv : PV} (hA : AOk n A) (hold : ∃ a o, sysModules ≤ a ∧ h₀.get? a = some o) (h : pTyp nm args σ = some (pv, σ')) (B : Base prog w h₀ Z ρ σ s) (hv : All2 (VR Z ρ) args vals) :
    SndV prog w h₀ A Z ρ s (call (.type nm) vals) pv σ' := fun E Q k => by
  unfold pTyp at h
  split at h
  · rename_i e; subst e
    split at h
    · rename_i b
      cases h
      cases hv with | cons x y => cases y; cases x; exact call_range_1 (let ⟨Z', ρ', g, B', r⟩ := rng_add B; k _ _ Z' ρ' g B' r)
    · rename_i a b
      cases h
      cases hv with | cons x y => cases y with | cons y z => cases z; cases x; cases y; exact call_range_2 (let ⟨Z', ρ', g, B', r⟩ := rng_add B; k _ _ Z' ρ' g B' r)
    · rename_i a b c
      split at h
      · rename_i hc
        cases h
        cases hv with | cons x y => cases y with | cons y z => cases z with | cons z z' =>
          cases z'; cases x; cases y; cases z
          subst hc
          exact call_range_3 (by omega) (let ⟨Z', ρ', g, B', r⟩ := rng_add B; k _ _ Z' ρ' g B' r) (.inl (PyProof.noPylong_small (by decide)))
      · cases h
    · cases h
  · split at h
    · rename_i e; subst e
      split at h
      · rename_i a b
        split at h
        · rename_i hab
          cases h
          cases hv with | cons x y =>
          cases y
          obtain ⟨r, t, u, v, rfl, hz⟩ := x
          have hr := B.keep _ _ hz
          have hlen : Builtin.Range.rangeSize a b 1 = ((b - a).toNat : Nat) := by rw [rangeSize_one]; split <;> omega
          refine call_list_range hA.hh hr (small_rng hab.1 hab.2) hlen (by omega) fun h' tk acc' c' hk ho hit => ?_
          have hv := items_vds (Z := Z) (f := fun i => a + (i : Int) * 1) hit
          have e : ((List.range (b - a).toNat).map fun i : Nat => PyData.int (a + (i : Int) * 1)) = (List.range (b - a).toNat).map fun i : Nat => PyData.int (a + i) := by simp
          rw [e] at hv
          obtain ⟨Z', ρ', g, B', r⟩ := list_fresh (tk := tk) B hk (none_size _ (Nat.le_refl _)) (by simpa using ho) hv
          exact k _ _ _ _ g B' r
        · cases h
      · cases h
    · split at h
      · rename_i e; subst e
        split at h
        · cases h
          cases hv
          refine call_set_0 fun led => ?_
          have hn : s.heap.get? s.heap.objs.size = none := none_size _ (Nat.le_refl _)
          have ho : (s.heap.push { cls := .type "set", dict := none, data := .set #[] 0 (.fresh 0 0 led) }).get? s.heap.objs.size = some { cls := .type "set", data := .set #[] 0 (.fresh 0 0 led) } := Heap.get?_push_size _ rfl
          obtain ⟨Z', ρ', g, B', r⟩ := push_new (tk := s.toks) (po := .bag []) (o := { cls := .type "set", dict := none, data := .set #[] 0 (.fresh 0 0 led) }) B
            ⟨fun _ => ⟨0, led, ho⟩, ⟨by simp, List.nodup_nil⟩, ⟨_, #[], 0, _, ho, ⟨rfl, rfl, rfl⟩, rfl, fun e he => by simp at he, fun k => by simp, by decide, by rfl, rfl⟩⟩
          exact k _ _ _ _ g B' r
        · cases h
      · split at h
        · rename_i e; subst e
          split at h
          · cases h
            cases hv
            have hs : s.heap.objs.size ≠ sysModules := by
              obtain ⟨a, o, ha, ho⟩ := hold
              have := Heap.lt_size (B.h0 _ _ ho)
              exact fun e => Nat.not_lt.mpr ha (e ▸ this)
            obtain ⟨Z', ρ', g, B', r⟩ := push_new (tk := s.toks) (po := .dict []) (o := { cls := .type "dict", data := .dict #[] }) B (dict_or s.heap B hs)
            exact call_dict_0 (k _ _ _ _ g B' r)
          · cases h
        · cases h
end
end Mine
end
section
open PySem PySem.W PyProof.Rows
set_option maxRecDepth 100000
set_option linter.all false
namespace Mine

structure TOk (prog : Program) (w : World) (h₀ : Heap) (T : Txt) (n : Nat) : Prop where
  gl : GLoads prog w h₀ T.gv
  fn : ∀ C name f, T.ca C name = some (.ref f) → ∀ (A : Around) (s : Shared) (E : Value → Shared → Prop) (Q : Value × List Value → Shared → Prop) (x d : Addr) (o : Obj) (pl : Sem Bool), (∀ b o, h₀.get? b = some o → s.heap.get? b = some o) →
    s.heap.get? x = some { cls := .ref C, dict := some d } → s.heap.get? d = some o → lookIn name o = some none → Q (.ref f, [.ref x]) s → wpAny (model prog w) A (getMethod (.ref x) name pl) Q E s
  ty : ∀ C name nm, T.ca C name = some (.type nm) → ∀ (A : Around) (s : Shared) (E : Value → Shared → Prop) (Q : Value × List Value → Shared → Prop) (x d : Addr) (o : Obj) (pl : Sem Bool), (∀ b o, h₀.get? b = some o → s.heap.get? b = some o) →
    s.heap.get? x = some { cls := .ref C, dict := some d } → s.heap.get? d = some o → lookIn name o = some none → (∀ tk, Q (.type nm, []) { s with toks := tk }) → wpAny (model prog w) A (getMethod (.ref x) name pl) Q E s
  ow : ∀ C name, T.ow C name = true → ∀ (A : Around) (s : Shared) (E : Value → Shared → Prop) (Q : Value → Shared → Prop) (x d : Addr) (o : Obj) (v : Value), (∀ b o, h₀.get? b = some o → s.heap.get? b = some o) →
    s.heap.get? x = some { cls := .ref C, dict := some d } → s.heap.get? d = some o → lookIn name o = some (some v) → handedIn v = true → (∀ tk, Q v { s with toks := tk }) → wpAny (model prog w) A (getAttr (.ref x) name true) Q E s
  ks : ∀ a vs σ r, T.O a vs σ = some r → ∃ k, (k = Keeper.frame ∨ k = Keeper.machine ∨ k = Keeper.boundFrame) ∧ Looks (model prog w) h₀ (keeperOf (.ref a)) k
  call : ∀ a vs σ pv σ', T.O a vs σ = some (pv, σ') → ∀ (A : Around) (Z : ZP) (ρ : List Addr) (s : Shared) (vals : List Value), AOk n A → Base prog w h₀ Z ρ σ s → All2 (VR Z ρ) vs vals → SndV prog w h₀ A Z ρ s (PySem.call (.ref a) vals) pv σ'
  sm : ∃ a o, sysModules ≤ a ∧ h₀.get? a = some o

section
variable {prog : Program} {w : World} {h₀ : Heap} {A : Around} {E : Value → Shared → Prop} {s s' : Shared} {Z Z' : ZP} {ρ ρ' : List Addr} {σ σ' σ'' σ₁ : Store} {env : Env} {φ : Frm} {n : Nat} {X : List Addr} {sc : Scope} {T : Txt}

theorem same_ext {a : Addr} {h h' : Heap} (x : Heap.SameBut a h h') : ∀ b o, b ≠ a → h.get? b = some o → h'.get? b = some o := fun b o hb e => (x.2 b hb).trans e

theorem change_fin {k : Nat} {a : Addr} {po po0 : PO} {h' : Heap} {tk : Nat} (B : Base prog w h₀ Z ρ σ s) (hk : ρ[k]? = some a) (hσ : σ[k]? = some po0) (hnd : po0 ≠ .dead) (hsb : Heap.SameBut a s.heap h') (ho : OR prog w Z ρ h' a po) :
    Grow [] Z ρ s Z ρ { s with heap := h', toks := tk } ∧ Base prog w h₀ Z ρ (σ.set k po) { s with heap := h', toks := tk } :=
  ⟨Grow.change hk (same_ext hsb) (Sh.heap _ _), B.change (s' := { s with heap := h', toks := tk }) hk (B.zr k a po0 hk hσ hnd) (same_ext hsb) ho⟩

theorem bi_snd {id : String} {o pv : PV} {args : List PV} {vo : Value} {vals : List Value} (h : pBi id o args σ = some (pv, σ')) (B : Base prog w h₀ Z ρ σ s) (ho : VR Z ρ o vo) (hv : All2 (VR Z ρ) args vals) :
    SndV prog w h₀ A Z ρ s (call (.builtin id) (vo :: vals)) pv σ' := fun E Q k => by
  unfold pBi at h
  split at h
  · rename_i kk
    obtain ⟨a, hja, rfl⟩ := ho
    split at h
    · rename_i xs hk
      split at h
      · rename_i e; subst e
        split at h
        · rename_i x
          split at h
          · rename_i hlt
            cases h
            obtain ⟨v, rfl, hx⟩ : ∃ v, vals = [v] ∧ VD Z v x := by cases hv with | cons p q => cases q; exact ⟨_, rfl, p⟩
            obtain ⟨vs, hp, hvs⟩ := B.objs _ a _ hja hk
            have hlen := hvs.length
            refine wpAny_list_append_plain hp (fun h' hp' hsb => ?_) (by rw [List.size_toArray]; exact lt_sizeLine (by omega))
            have hor : OR prog w Z ρ h' a (.list (xs ++ [x])) := ⟨vs ++ [v], by simpa using hp', hvs.append (.cons hx .nil)⟩
            obtain ⟨g, B'⟩ := change_fin (tk := s.toks) B hja hk (fun q => nomatch q) hsb hor
            exact k _ _ _ _ g B' .none
          · cases h
        · cases h
      · cases h
    · rename_i xs hk
      split at h
      · rename_i e; subst e
        split at h
        · rename_i x
          split at h
          · rename_i h5
            cases h
            obtain ⟨t, rfl⟩ : ∃ t, vals = [.int x t] := by cases hv with | cons p q => cases q; cases p; exact ⟨_, rfl⟩
            refine call_set_add_can (B.objs _ a _ hja hk) h5 fun h' tk hsb hS => ?_
            obtain ⟨g, B'⟩ := change_fin (tk := tk) (po := .set (addS x xs)) B hja hk (fun q => nomatch q) hsb hS
            exact k _ _ _ _ g B' .none
          · cases h
        · cases h
      · cases h
    · rename_i xs hk
      split at h
      · rename_i e; subst e
        split at h
        · rename_i j
          split at h
          · cases h
          · rename_i hjk
            split at h
            · rename_i y ys hj
              cases h
              obtain ⟨b, rfl, hb⟩ : ∃ b, vals = [.ref b] ∧ ρ[j]? = some b := by
                cases hv with | cons p q => cases q; obtain ⟨b, hb, rfl⟩ := p; exact ⟨b, rfl, hb⟩
              have hab : b ≠ a := fun e => hjk (nodup_at B.nd (e ▸ hb) hja)
              refine call_set_update (B.objs _ a _ hja hk) (B.objs _ b _ hb hj) (by simp) hab fun h' tk hsb hB => ?_
              obtain ⟨g, B'⟩ := change_fin (tk := tk) (po := .bag (xs ++ (y :: ys).filter fun y => !xs.contains y)) B hja hk (fun q => nomatch q) hsb hB
              exact k _ _ _ _ g B' .none
            · cases h
        · cases h
      · cases h
    · rename_i es hk
      obtain ⟨hsm, vs, hd, hvv⟩ := B.objs _ a _ hja hk
      split at h
      · rename_i e; subst e
        split at h
        · rename_i i dflt
          cases h
          obtain ⟨t, u, rfl, hu⟩ : ∃ t u, vals = [.int i t, u] ∧ VR Z ρ dflt u := by
            cases hv with | cons p q => cases q with | cons q r => cases r; cases p; exact ⟨_, _, rfl, q⟩
          refine call_meetsIn F.slot_dict_get hd.typeIs F.entry_dict_get (F.args_dict_get_3 _ _ _) (meets_dict_get_default (k := i) (intKind prog w) a (by simp [intKind, Value.isInt]) (by simpa using hsm) u) ⟨_, hd.mapOf, ?_⟩
          cases q : es.lookup i with
          | none =>
            rw [dict_none q hvv]
            exact k _ _ Z ρ (.tok ..) (B.tok _) (by rw [q]; exact hu)
          | some pv =>
            obtain ⟨v, e, hr⟩ := dict_at q hvv
            rw [e]
            exact k _ _ Z ρ (.tok ..) (B.tok _) (by rw [q]; exact hr)
        · cases h
      · split at h
        · rename_i e; subst e
          split at h
          · rename_i j
            split at h
            · cases h
            · rename_i hjk
              split at h
              · rename_i hj
                split at h
                · rename_i hlt
                  cases h
                  obtain ⟨b, rfl, hb⟩ : ∃ b, vals = [.ref b] ∧ ρ[j]? = some b := by
                    cases hv with | cons p q => cases q; obtain ⟨b, hb, rfl⟩ := p; exact ⟨b, rfl, hb⟩
                  have hab : a ≠ b := fun e => hjk (nodup_at B.nd hb (e ▸ hja))
                  obtain ⟨hsm2, vs2, hd2, hvv2⟩ := B.objs _ b _ hb hj
                  have hz := zip_len hvv
                  refine call_meetsIn F.slot_dict_update hd.typeIs F.entry_dict_update (F.args_dict_update_2 _ _) (meets_dict_update (intKind prog w) a b hab (by simpa using hsm2)) ⟨_, _, hd, hd2, ?_, fun h' hd' _ hsb => ?_⟩
                  · rw [hz]
                    have : ((([] : List (Int × PV)).map (·.1)).zip vs2).length = 0 := by simp
                    rw [this]
                    exact lt_sizeLine (by omega)
                  · have e2 : (([] : List (Int × PV)).map (·.1)).zip vs2 = [] := by simp
                    rw [e2] at hd'
                    have hor : OR prog w Z ρ h' a (.dict es) := ⟨hsm, vs, hd', hvv⟩
                    obtain ⟨g, B'⟩ := change_fin (tk := s.toks) B hja hk (fun q => nomatch q) hsb hor
                    have e3 : σ.set kk (.dict es) = σ := by
                      apply List.ext_getElem?
                      intro i
                      by_cases hi : i = kk
                      · subst hi
                        rw [List.getElem?_set_self (List.getElem?_eq_some_iff.mp hk).1, hk]
                      · rw [List.getElem?_set_ne (Ne.symm hi)]
                    rw [e3] at B'
                    exact k _ _ _ _ g B' .none
                · cases h
              · cases h
          · cases h
        · cases h
    · cases h
  · cases h
end
end Mine
end
section
open PySem PySem.W PyProof.Rows
set_option maxRecDepth 100000
set_option linter.all false
namespace Mine

section
variable {prog : Program} {w : World} {h₀ : Heap} {A : Around} {E : Value → Shared → Prop} {s s' : Shared} {Z Z' : ZP} {ρ ρ' : List Addr} {σ σ' σ'' σ₁ : Store} {env : Env} {φ : Frm} {n : Nat} {X : List Addr} {sc : Scope} {T : Txt}

theorem evs_plain {r : Rec} : ∀ {es : List Expr} {vs : List PV} {σ σ' : Store}, evs r sc φ es σ = some (vs, σ') → (backTo pos (starEach es env)).any (·.1) = false
  | [], _, _, _, _ => rfl
  | e :: es, vs, σ, σ', h => by
    have hst : ∀ x p, e ≠ .Starred x p := fun x p q => by subst q; unfold evs at h; cases h
    have h' : (match r.ev sc φ e σ with
      | some (v, σ) => match evs r sc φ es σ with
        | some (vs, σ) => some (v :: vs, σ)
        | none => none
      | none => none) = some (vs, σ') := by
      cases e <;> first | exact h | exact absurd rfl (hst _ _)
    cases h1 : r.ev sc φ e σ with
    | none => rw [h1] at h'; cases h'
    | some p =>
      obtain ⟨v, σ₁⟩ := p
      rw [h1] at h'
      cases h2 : evs r sc φ es σ₁ with
      | none => simp only [h2] at h'; cases h'
      | some p =>
        obtain ⟨us, σ₂⟩ := p
        rw [starEach_cons hst]
        show (false || (backTo pos (starEach es env)).any (·.1)) = false
        rw [evs_plain h2]; rfl

theorem evalArgs_any {f : Value} {args : List (Bool × Sem Value)} (hp : args.any (·.1) = false) {Q : Args → Shared → Prop} (h : wpAny (model prog w) A (spliced args) (fun vs s' => Q ⟨vs, []⟩ s') E s) : wpAny (model prog w) A (evalArgs f true args []) Q E s := by
  cases args with
  | nil =>
    unfold evalArgs
    show wpAny _ A (spliced [] >>= _) Q E s
    refine wpAny_bind (wpAny_mono h (fun vs s' h' => ?_) fun _ _ x => x)
    refine wpAny_holding ?_
    exact wpAny_bind (wpAny_pure (wpAny_bind (wpAny_pure (wpAny_pure h'))))
  | cons p rest =>
    obtain ⟨b, x⟩ := p
    have hb : b = false := by
      rw [List.any_cons, Bool.or_eq_false_iff] at hp; exact hp.1
    subst hb
    exact Calls.evalArgs_plain h

/-- a call whose callee stands, with plain arguments -/
theorem callW {f : Value} {first : List Value} {es : List Expr} {pos : Pos} {vs : List PV} {pv : PV} {r : Rec} (S : SoundR prog w h₀ r n) (hA : AOk n A) (hs : env.scope = sc)
    (hk : ∃ k, (k = Keeper.frame ∨ k = Keeper.machine ∨ k = Keeper.boundFrame) ∧ Looks (model prog w) h₀ (keeperOf f) k)
    (hev : evs r sc φ es σ = some (vs, σ₁)) (B : Base prog w h₀ Z ρ σ s) (L : Loc Z ρ env φ s)
    (hc : ∀ vals s₁ Z₁ ρ₁, Grow [] Z ρ s Z₁ ρ₁ s₁ → Base prog w h₀ Z₁ ρ₁ σ₁ s₁ → All2 (VR Z₁ ρ₁) vs vals → SndV prog w h₀ A Z₁ ρ₁ s₁ (call f (first ++ vals)) pv σ') :
    SndV prog w h₀ A Z ρ s (callWith pos f first (backTo pos (starEach es env)) []) pv σ' := fun E Q k => by
  obtain ⟨kp, hkp, Lk⟩ := hk
  have hpl : (backTo pos (starEach es env)).any (·.1) = false := evs_plain (pos := pos) (env := env) hev
  refine callWith_of (P := fun h => ∀ b o, h₀.get? b = some o → h.get? b = some o) (by rw [hpl]; rfl) (fun h hP => ⟨kp, hkp, Lk.keeps hP⟩) (evalArgs_any hpl ?_)
  refine snd_evs S hA hs pos hev B L E _ fun vals s₁ Z₁ ρ₁ g₁ B₁ r₁ => ⟨B₁.h0, ?_⟩
  exact hc vals s₁ Z₁ ρ₁ g₁ B₁ r₁ E Q fun v s₂ Z₂ ρ₂ g₂ B₂ r₂ => k v s₂ Z₂ ρ₂ (g₁.tr B₁ g₂) B₂ r₂

theorem keep_builtin (id : String) : ∃ k, (k = Keeper.frame ∨ k = Keeper.machine ∨ k = Keeper.boundFrame) ∧ Looks (model prog w) h₀ (keeperOf (.builtin id)) k := ⟨.machine, .inr (.inl rfl), Looks.of_pure rfl⟩
theorem keep_type (n : String) : ∃ k, (k = Keeper.frame ∨ k = Keeper.machine ∨ k = Keeper.boundFrame) ∧ Looks (model prog w) h₀ (keeperOf (.type n)) k := ⟨.machine, .inr (.inl rfl), Looks.of_pure rfl⟩

theorem fun_snd {id : String} {args : List PV} {vals : List Value} {pv : PV} (hA : AOk n A) (h : pFun id args σ = some pv) (B : Base prog w h₀ Z ρ σ s) (hv : All2 (VR Z ρ) args vals) : SndV prog w h₀ A Z ρ s (call (.builtin id) vals) pv σ := by
  by_cases e : id = "len"
  · subst e; exact snd_len h B hv
  · unfold pFun at h
    rw [if_neg e] at h
    split at h
    · rename_i e; subst e
      split at h
      · rename_i xs
        split at h
        · rename_i hlt
          cases q : ints? xs with
          | none => rw [q] at h; cases h
          | some ns =>
            rw [q] at h; cases h
            cases hv with | cons p r => cases r; exact snd_sorted_list hlt q B p
        · cases h
      · rename_i kk
        split at h
        · rename_i xs hk
          cases h
          cases hv with | cons p r => cases r; exact snd_sorted_set hA hk B p
        · cases h
      · cases h
    · split at h
      · rename_i e; subst e
        split at h
        · rename_i xs
          split at h
          · rename_i m ns q
            split at h
            · cases h
              cases hv with | cons p r => cases r; exact snd_max hA q B p
            · cases h
          · cases h
        · cases h
      · split at h
        · rename_i e; subst e
          split at h
          · rename_i xs
            split at h
            · rename_i ns q
              split at h
              · rename_i hc
                cases h
                rw [Bool.and_eq_true, decide_eq_true_eq] at hc
                cases hv with | cons p r => cases r; exact snd_sum hA q hc.1 hc.2 B p
              · cases h
            · cases h
          · cases h
        · cases h

theorem callN_snd {r : Rec} (S : SoundR prog w h₀ r n) (TT : TOk prog w h₀ T n) (hA : AOk n A) (hs : env.scope = sc) {f : Str} {p pos : Pos} {es : List Expr} {vs : List PV} {pv : PV}
    (h1 : evs r sc φ es σ = some (vs, σ₁)) (h2 : evCallN T sc f vs σ₁ = some (pv, σ')) (B : Base prog w h₀ Z ρ σ s) (L : Loc Z ρ env φ s) :
    SndV prog w h₀ A Z ρ s (eval (.Call (.Name f p) es [] pos) env) pv σ' := by
  unfold evCallN at h2
  split at h2
  · rename_i hf
    have name : ∀ (v : Value), T.gv f = some v → ∀ (E : Value → Shared → Prop) (Q : Value → Shared → Prop), Q v s → wpAny (model prog w) A (eval (.Name f p) env) Q E s := fun v hv E Q q =>
      Calls.Name_function_global L.hk (by rw [← hs] at hf; exact hf.1) (TT.gl f v hv A E s env Q B.h0 L.gl L.bl q) hf.2
    have tail : ∀ (fv : Value), T.gv f = some fv → (∃ k, (k = Keeper.frame ∨ k = Keeper.machine ∨ k = Keeper.boundFrame) ∧ Looks (model prog w) h₀ (keeperOf fv) k) →
        (∀ vals s₁ Z₁ ρ₁, Grow [] Z ρ s Z₁ ρ₁ s₁ → Base prog w h₀ Z₁ ρ₁ σ₁ s₁ → All2 (VR Z₁ ρ₁) vs vals → SndV prog w h₀ A Z₁ ρ₁ s₁ (call fv vals) pv σ') → SndV prog w h₀ A Z ρ s (eval (.Call (.Name f p) es [] pos) env) pv σ' := fun fv hfv hk hc E Q k => by
      refine wpAny_Call_Name_kw (name fv hfv E _ ?_)
      exact callW S hA hs hk h1 B L (first := []) (by simpa using hc) E Q k
    split at h2
    · rename_i id hg
      cases q : pFun id vs σ₁ with
      | none => rw [q] at h2; cases h2
      | some v =>
        rw [q] at h2; cases h2
        exact tail _ hg (keep_builtin id) fun vals s₁ Z₁ ρ₁ g₁ B₁ r₁ => fun_snd hA q B₁ r₁
    · rename_i nm hg
      exact tail _ hg (keep_type nm) fun vals s₁ Z₁ ρ₁ g₁ B₁ r₁ => typ_snd hA TT.sm h2 B₁ r₁
    · rename_i a hg
      exact tail _ hg (TT.ks _ _ _ _ h2) fun vals s₁ Z₁ ρ₁ g₁ B₁ r₁ => TT.call _ _ _ _ _ h2 A Z₁ ρ₁ s₁ vals hA B₁ r₁
    · cases h2
  · cases h2

theorem S_eq (x : String) : S x = Str.ofString x := rfl

/-- what a method's name gives -/
def CalV (c : Cal) (vo : Value) : Value × List Value :=
  match c with
  | .fn f => (.ref f, [vo])
  | .ty => (.type "dict", [])
  | .bi id => (.builtin id, [vo])

theorem callee_snd (TT : TOk prog w h₀ T n) {o : PV} {vo : Value} {name : Str} {c : Cal} {pl : Sem Bool} (h : calleeM T o name σ = some c) (B : Base prog w h₀ Z ρ σ s) (ho : VR Z ρ o vo) {Q : Value × List Value → Shared → Prop}
    (k : ∀ tk, Q (CalV c vo) { s with toks := tk }) : wpAny (model prog w) A (getMethod vo name pl) Q E s := by
  unfold calleeM at h
  split at h
  · rename_i kk
    obtain ⟨a, hja, rfl⟩ := ho
    split at h
    · rename_i C d hk
      obtain ⟨da, hda, hoa⟩ := B.objs _ a _ hja hk
      split at h
      · rename_i es hd
        obtain ⟨od, hod, h1, h2⟩ := B.objs _ da _ hda hd
        split at h
        · cases h
        · rename_i hn
          split at h
          · rename_i f hc
            cases h
            exact TT.fn C name f hc A s E Q a da od pl B.h0 hoa hod (h2.1 _ hn) (k s.toks)
          · rename_i nm hc
            split at h
            · rename_i e; subst e
              cases h
              exact TT.ty C name "dict" hc A s E Q a da od pl B.h0 hoa hod (h2.1 _ hn) k
            · cases h
          · cases h
      · cases h
    · rename_i po hni hk
      have obj := B.objs _ a _ hja hk
      unfold biOf at h
      split at h
      · split at h
        · rename_i hn
          cases h
          obtain ⟨vs, hp, _⟩ := obj
          obtain ⟨m, hob⟩ := hp
          rw [eq_of_beq hn]
          exact getMethod_builtin ⟨_, hob, rfl⟩ F.plainAttrs_list F.slot_list_append F.type_list_append (fun b e => by injection e with e; subst e; exact ⟨_, hob, rfl⟩) (k s.toks)
        · cases h
      · split at h
        · rename_i hn
          cases h
          rw [eq_of_beq hn]
          exact getMethod_set_add (setAt_setOf (prog := prog) obj) (k s.toks)
        · cases h
      · split at h
        · rename_i hn
          cases h
          rw [eq_of_beq hn]
          exact getMethod_builtin obj.2.2.typeIs F.plainAttrs_set F.slot_set_update F.type_set_update obj.2.2.noDict (k s.toks)
        · cases h
      · obtain ⟨_, vs, hd, _⟩ := obj
        split at h
        · rename_i hn
          cases h
          rw [eq_of_beq hn]
          exact getMethod_builtin hd.typeIs F.plainAttrs_dict F.slot_dict_get F.type_dict_get hd.mapOf.noDict (k s.toks)
        · split at h
          · rename_i hn
            cases h
            rw [eq_of_beq hn]
            exact getMethod_builtin hd.typeIs F.plainAttrs_dict F.slot_dict_update F.type_dict_update hd.mapOf.noDict (k s.toks)
          · cases h
      · cases h
    · cases h
  · cases h

theorem attrBase {o : Expr} {name : Str} (hn : noCall o = true) {t : Sem Value} : attributeBase o name env t = t := by
  cases o <;> first | rfl | cases hn

theorem callM_snd {r : Rec} (S : SoundR prog w h₀ r n) (TT : TOk prog w h₀ T n) (hA : AOk n A) (hs : env.scope = sc) {o : Expr} {name : Str} {apos pos : Pos} {es : List Expr} {ov : PV} {c : Cal} {vs : List PV} {pv : PV} {σ₂ : Store}
    (hn : noCall o = true) (hlen : es.length < 20) (hline : (apos.endLine == pos.line) = true) (h1 : r.ev sc φ o σ = some (ov, σ₁)) (h2 : calleeM T ov name σ₁ = some c) (h3 : evs r sc φ es σ₁ = some (vs, σ₂)) (h4 : runM T c ov vs σ₂ = some (pv, σ'))
    (B : Base prog w h₀ Z ρ σ s) (L : Loc Z ρ env φ s) : SndV prog w h₀ A Z ρ s (eval (.Call (.Attribute o name apos) es [] pos) env) pv σ' := fun E Q k => by
  rw [arm_eval_Call, attrBase hn]
  refine wpAny_bind (S.ev h1 hA hs B L E _ fun vo s₁ Z₁ ρ₁ g₁ B₁ r₁ => wpAny_bind (wpAny_standAt ?_))
  have hpl : (backTo pos (starEach es env)).any (·.1) = false := evs_plain (pos := pos) (env := env) h3
  have hform : methodCallForm (es.length + ([] : List Keyword).length) (backTo pos (starEach es env)) (backToKw pos (keywordEach [] env)) = true := by
    unfold methodCallForm
    have e1 : (backTo pos (starEach es env)).all (fun x => !x.1) = true := by
      rw [List.all_eq_not_any_not]
      simpa using hpl
    rw [e1]
    show (true && ([] : List (Option Str × Sem Value)).all _ && decide (es.length + 0 + 0 < 30)) = true
    simp; omega
  unfold methodCall
  rw [hform]
  refine wpAny_bind (wpAny_holding ?_)
  unfold calleeOf
  rw [if_pos rfl]
  refine callee_snd TT h2 B₁ r₁ fun tk => ?_
  have L₁ := L.grow (g₁.tr B₁ (.tok [] Z₁ ρ₁ s₁ tk))
  unfold methodCallPos
  refine wpAny_bind ?_
  rw [hline]
  simp only [Bool.not_true, Bool.false_or, if_true]
  refine wpAny_pure ?_
  have fin : ∀ fv first, CalV c vo = (fv, first) → (∃ k, (k = Keeper.frame ∨ k = Keeper.machine ∨ k = Keeper.boundFrame) ∧ Looks (model prog w) h₀ (keeperOf fv) k) →
      (∀ vals s₂ Z₂ ρ₂, Base prog w h₀ Z₂ ρ₂ σ₂ s₂ → VR Z₂ ρ₂ ov vo → All2 (VR Z₂ ρ₂) vs vals → SndV prog w h₀ A Z₂ ρ₂ s₂ (call fv (first ++ vals)) pv σ') →
      wpAny (model prog w) A (callWith pos (CalV c vo).1 (CalV c vo).2 (backTo pos (starEach es env)) (backToKw pos (keywordEach [] env))) Q E { s₁ with toks := tk } := fun fv first e hk hc => by
    rw [e]
    exact callW S hA hs hk h3 (B₁.tok tk) L₁ (fun vals s₂ Z₂ ρ₂ g₂ B₂ r₂ => hc vals s₂ Z₂ ρ₂ B₂ (r₁.grow g₂) r₂) E Q fun v s₃ Z₃ ρ₃ g₃ B₃ r₃ =>
      k v s₃ Z₃ ρ₃ (g₁.tr B₁ ((Grow.tok [] Z₁ ρ₁ s₁ tk).tr (B₁.tok tk) g₃)) B₃ r₃
  cases c with
  | fn f => exact fin _ _ rfl (TT.ks _ _ _ _ h4) fun vals s₂ Z₂ ρ₂ B₂ ro rv => TT.call _ _ _ _ _ h4 A Z₂ ρ₂ s₂ _ hA B₂ (.cons ro rv)
  | ty => exact fin _ _ rfl (keep_type "dict") fun vals s₂ Z₂ ρ₂ B₂ ro rv => typ_snd hA TT.sm h4 B₂ rv
  | bi id => exact fin _ _ rfl (keep_builtin id) fun vals s₂ Z₂ ρ₂ B₂ ro rv => bi_snd h4 B₂ ro rv

theorem attr_snd {r : Rec} (S : SoundR prog w h₀ r n) (TT : TOk prog w h₀ T n) (hA : AOk n A) (hs : env.scope = sc) {o : Expr} {attr : Str} {pos : Pos} {ov pv : PV} {C : Addr} {d : Nat} {es : List (Str × PV)}
    (hn : noCall o = true) (h1 : r.ev sc φ o σ = some (ov, σ')) (h2 : instOf ov σ' = some (C, d)) (h3 : T.ow C attr = true) (h4 : σ'[d]? = some (.attrs es)) (h5 : es.lookup attr = some pv)
    (B : Base prog w h₀ Z ρ σ s) (L : Loc Z ρ env φ s) : SndV prog w h₀ A Z ρ s (eval (.Attribute o attr pos) env) pv σ' := fun E Q k => by
  rw [arm_eval_Attribute, attrBase hn]
  refine wpAny_bind (S.ev h1 hA hs B L E _ fun vo s₁ Z₁ ρ₁ g₁ B₁ r₁ => wpAny_bind (wpAny_standAt (wpAny_bind (wpAny_holding ?_))))
  unfold instOf at h2
  split at h2
  · rename_i kk
    split at h2
    · rename_i C' d' hk
      cases h2
      obtain ⟨a, hja, rfl⟩ := r₁
      obtain ⟨da, hda, hoa⟩ := B₁.objs _ a _ hja hk
      obtain ⟨od, hod, p1, p2⟩ := B₁.objs _ da _ hda h4
      obtain ⟨v, hv, hr⟩ := p1 attr pv h5
      have hin : handedIn v = true := by
        cases pv with
        | d x => cases hr <;> rfl
        | ref j => obtain ⟨b, _, rfl⟩ := hr; rfl
        | rng a b c => obtain ⟨b, _, _, _, rfl, _⟩ := hr; rfl
      refine TT.ow C attr h3 A s₁ E _ a da od v B₁.h0 hoa hod hv hin fun tk => ?_
      refine wpAny_bind (wpAny_letTemporaryGo (wpAny_pure ?_))
      exact k v _ Z₁ ρ₁ (g₁.tr B₁ (.tok ..)) (B₁.tok tk) hr
    · cases h2
  · cases h2

theorem dict0_snd {pos : Pos} (hold : ∃ a o, sysModules ≤ a ∧ h₀.get? a = some o) (B : Base prog w h₀ Z ρ σ s) : SndV prog w h₀ A Z ρ s (eval (.Dict [] [] pos) env) (.ref σ.length) (σ ++ [.dict []]) := fun E Q k => by
  have hs : s.heap.objs.size ≠ sysModules := by
    obtain ⟨a, o, ha, ho⟩ := hold
    have := Heap.lt_size (B.h0 _ _ ho)
    exact fun e => Nat.not_lt.mpr ha (e ▸ this)
  obtain ⟨Z', ρ', g, B', r⟩ := push_new (tk := s.toks) (po := .dict []) (o := { cls := .type "dict", data := .dict #[] }) B (dict_or s.heap B hs)
  exact wpAny_Dict_empty (k _ _ _ _ g B' r)

theorem main_snd (L : Loc Z ρ env φ s) (B : Base prog w h₀ Z ρ σ s) {Q : Bool → Shared → Prop} (h : ∀ b, Q b s) : wpAny (model prog w) A (inMainModule env) Q E s := by
  unfold inMainModule
  try dsimp only
  rcases L.cd with e | ⟨c, o, vs, e, hz, hd⟩
  · rw [e]
    exact wpAny_pure (h _)
  · rw [e]
    split
    · exact wpAny_pure (h _)
    · refine wpAny_bind (wpAny_fieldsOf (B.keep _ _ hz) hd ?_)
      split
      · exact wpAny_bind (wpAny_askSetting (wpAny_pure (h _)))
      · exact wpAny_pure (h _)

theorem set1_snd {r : Rec} (S : SoundR prog w h₀ r n) (hA : AOk n A) (hs : env.scope = sc) {e : Expr} {pos : Pos} {x : Int} (hns : ∀ y p, e ≠ .Starred y p) (h1 : r.ev sc φ e σ = some (.d (.int x), σ')) (hx : small5 x = true)
    (B : Base prog w h₀ Z ρ σ s) (L : Loc Z ρ env φ s) : SndV prog w h₀ A Z ρ s (eval (.Set [e] 0 pos) env) (.ref σ'.length) (σ' ++ [.set [x]]) := fun E Q k => by
  rw [arm_eval_Set]
  refine wpAny_bind (wpAny_standAt ?_)
  refine wpAny_bind (main_snd L B fun b => ?_)
  rw [starEach_cons hns]
  unfold setDisplay
  try dsimp only
  have hroad : (displayRoad 0 [e] == DisplayRoad.constants) = false := by rfl
  rw [if_neg (by rw [hroad]; exact Bool.false_ne_true)]
  refine wpAny_bind (newSet_can ?_)
  dsimp only
  have hn : s.heap.get? s.heap.objs.size = none := none_size _ (Nat.le_refl _)
  have hk0 : ∀ b' o', s.heap.get? b' = some o' → (s.heap.push { cls := .type "set", data := .set #[] 0 (tabS (!w.params.followText "set-order") []) }).get? b' = some o' := fun b' o' e => Heap.get?_push_of_some _ e
  have ho : SetAt w (s.heap.push { cls := .type "set", data := .set #[] 0 (tabS (!w.params.followText "set-order") []) }) s.heap.objs.size [] := ⟨#[], 0, Heap.get?_push_size _ rfl, ⟨[], rfl, rfl⟩, List.Pairwise.nil, by simp⟩
  have B0 : Base prog w h₀ Z ρ σ { s with heap := s.heap.push { cls := .type "set", data := .set #[] 0 (tabS (!w.params.followText "set-order") []) } } := B.ext hk0
  have g0 : Grow [] Z ρ s Z ρ { s with heap := s.heap.push { cls := .type "set", data := .set #[] 0 (tabS (!w.params.followText "set-order") []) } } := Grow.ext hk0 (Sh.heap _ _)
  have L0 := L.grow g0
  refine wpAny_bind (wpAny_holding ?_)
  have hone : ∀ {M : Model} {A : Around} {E : Value → Shared → Prop} {s : Shared} {t : Sem Value} {Q : List Value → Shared → Prop}, wpAny M A t (fun v s' => Q [v] s') E s → wpAny M A (evalAll [do let v ← t; standAt pos; pure v]) Q E s := by
    intro M A E s t Q h
    show wpAny M A ((t >>= fun v => standAt pos >>= fun _ => pure v) >>= fun v => holding [v] (evalAll []) >>= fun r => pure (v :: r)) Q E s
    refine wpAny_bind (wpAny_bind (wpAny_mono h (fun v s' h' => wpAny_bind (wpAny_standAt (wpAny_pure ?_))) fun _ _ x => x))
    exact wpAny_bind (wpAny_holding (wpAny_pure (wpAny_pure h')))
  refine wpAny_bind ?_
  show wpAny _ _ (evalAll [do let v ← eval e env; standAt pos; pure v]) _ _ _
  refine hone (S.ev h1 hA hs B0 L0 E _ fun v s₁ Z₁ ρ₁ g₁ B₁ r₁ => ?_)
  obtain ⟨t, rfl⟩ : ∃ t, v = .int x t := by cases r₁; exact ⟨_, rfl⟩
  have hnR : s.heap.objs.size ∉ ρ := B.notR hn
  have hat : s₁.heap.get? s.heap.objs.size = some { cls := .type "set", data := .set #[] 0 (tabS (!w.params.followText "set-order") []) } := g₁.old _ _ hnR (fun h => nomatch h) (Heap.get?_push_size _ rfl)
  have hS1 : SetAt w s₁.heap s.heap.objs.size [] := ⟨#[], 0, hat, ⟨[], rfl, rfl⟩, List.Pairwise.nil, by simp⟩
  have hnR1 : s.heap.objs.size ∉ ρ₁ := fun hm => by
    obtain ⟨l, el, hl⟩ := g₁.pre
    rw [el] at hm
    rcases List.mem_append.mp hm with q | q
    · exact hnR q
    · have := hl _ q
      rw [Heap.get?_push_size _ rfl] at this
      cases this
  have hnZ1 : ∀ o, ¬ Z₁ s.heap.objs.size o := fun o hz => by
    rcases g₁.zn _ o hz with q | q | q
    · exact B.notZ hn o q
    · rw [Heap.get?_push_size _ rfl] at q
      cases q
    · exact hnR q
  refine wpAny_bind (wpAny_holding ?_)
  rw [List.forIn_cons]
  refine wpAny_bind (wpAny_bind (wpAny_bind (setAdd_can hS1 hx fun h' b tk hsb hS2 => ?_)))
  refine wpAny_pure ?_
  dsimp only
  rw [List.forIn_nil]
  refine wpAny_pure ?_
  have hroad2 : (displayRoad 0 [e] == DisplayRoad.unsure) = false := by rfl
  rw [if_neg (by rw [hroad2]; exact Bool.false_ne_true)]
  refine wpAny_pure ?_
  show wpAny _ _ (forIn ([] : List (Bool × Sem Value)) PUnit.unit _ >>= _) _ _ _
  rw [List.forIn_nil]
  refine wpAny_bind (wpAny_pure (wpAny_pure ?_))
  have B₂ := B₁.add (po := .set []) hnZ1 hnR1 hS1
  have g₂ := (g0.tr B0 g₁).add hn
  have hki : (ρ₁ ++ [s.heap.objs.size])[σ'.length]? = some s.heap.objs.size := by rw [← B₁.len]; simp
  obtain ⟨g₃, B₃⟩ := change_fin (tk := tk) (po := .set [x]) B₂ hki (po0 := .set []) (by simp) (fun q => nomatch q) hsb hS2
  have e3 : (σ' ++ [PO.set []]).set σ'.length (.set [x]) = σ' ++ [.set [x]] := by simp
  rw [e3] at B₃
  exact wpAny_pure (k _ _ _ _ (g₂.tr B₂ g₃) B₃ ⟨_, hki, rfl⟩)
end
end Mine
end
section
open PySem PySem.W PyProof.Rows
set_option maxRecDepth 100000
set_option linter.all false
namespace Mine

section
variable {prog : Program} {w : World} {h₀ : Heap} {A : Around} {E : Value → Shared → Prop} {s s' : Shared} {Z Z' : ZP} {ρ ρ' : List Addr} {σ σ' σ'' σ₁ : Store} {env : Env} {φ : Frm} {n : Nat} {X : List Addr} {sc : Scope} {T : Txt}

/-- list comprehensions: asked of a premise -/
def CompS (prog : Program) (w : World) (h₀ : Heap) (r : Rec) (n : Nat) : Prop := ∀ {sc φ elt gens scope σ xs σ'}, evComp r sc φ elt gens scope σ = some (xs, σ') → ∀ {A : Around} {env : Env} {Z : ZP} {ρ : List Addr} {s : Shared} (pos : Pos), AOk n A → env.scope = sc →
  Base prog w h₀ Z ρ σ s → Loc Z ρ env φ s → SndN prog w h₀ A Z ρ s (eval (.ListComp elt gens scope pos) env) xs σ'

theorem snd_new {r : Rec} (S : SoundR prog w h₀ r n) (C : CompS prog w h₀ r n) (hA : AOk n A) (hs : env.scope = sc) {e : Expr} {xs : List PyData} (h : evNew r sc φ e σ = some (xs, σ')) (B : Base prog w h₀ Z ρ σ s) (L : Loc Z ρ env φ s) :
    SndN prog w h₀ A Z ρ s (eval e env) xs σ' := by
  cases e with
  | List elts pos => exact snd_list S hA hs h B L
  | BinOp l op rr pos =>
    cases op with
    | Add => exact snd_add S hA hs h B L
    | _ => unfold evNew at h; cases h
  | ListComp elt gens scope pos => exact C (by unfold evNew at h; exact h) pos hA hs B L
  | _ => unfold evNew at h; cases h

theorem map_pair {α β : Type} {o : Option α} {f : α → β} {p : β} (h : o.map f = some p) : ∃ a, o = some a ∧ f a = p := Option.map_eq_some_iff.mp h

theorem snd_ev {r : Rec} (S : SoundR prog w h₀ r n) (C : CompS prog w h₀ r n) (TT : TOk prog w h₀ T n) (hA : AOk n A) (hs : env.scope = sc) {e : Expr} {pv : PV} (h : stepEv T r sc φ e σ = some (pv, σ')) (B : Base prog w h₀ Z ρ σ s) (L : Loc Z ρ env φ s) :
    SndV prog w h₀ A Z ρ s (eval e env) pv σ' := by
  unfold stepEv at h
  split at h
  · -- Constant
    obtain ⟨x, h1, h2⟩ := map_pair h
    cases h2
    exact snd_const h1 B
  · -- Name
    split at h
    · cases h
    · rename_i hd
      obtain ⟨v, h1, h2⟩ := map_pair h
      cases h2
      rw [Bool.or_eq_true, not_or] at hd
      exact snd_name L B hs h1 (Bool.eq_false_iff.mpr hd.1) (Bool.eq_false_iff.mpr hd.2)
  · -- BoolOp
    exact snd_boolOp S hA hs h B L
  · -- BinOp
    rename_i l op rr pos
    split at h
    · rename_i a σ₁ h1
      split at h
      · rename_i b σ₂ h2
        obtain ⟨x, h3, h4⟩ := map_pair h
        cases h4
        exact fun E Q k => wpAny_BinOp (S.ev h1 hA hs B L E _ fun v₁ s₁ Z₁ ρ₁ g₁ B₁ r₁ => S.ev h2 hA hs B₁ (L.grow g₁) E _ fun v₂ s₂ Z₂ ρ₂ g₂ B₂ r₂ =>
          bin_int h3 (r₁.grow g₂) r₂ fun v tk hv => k v _ Z₂ ρ₂ ((g₁.tr B₁ g₂).tr B₂ (.tok ..)) (B₂.tok tk) hv)
      · cases h
    · cases op <;> first
        | (obtain ⟨⟨xs, σ₂⟩, h1, h2⟩ := map_pair h
           cases h2
           exact (snd_add S hA hs h1 B L).toV)
        | cases h
  · -- USub
    split at h
    · rename_i a σ₁ h1
      cases h
      exact snd_usub S hA hs h1 B L
    · cases h
  · -- IfExp
    split at h
    · rename_i σ₁ h1
      exact snd_ifexp (c := true) S hA hs h1 h B L
    · rename_i σ₁ h1
      exact snd_ifexp (c := false) S hA hs h1 h B L
    · cases h
  · -- Compare
    split at h
    · cases h
    · rename_i hm
      split at h
      · rename_i a σ₁ h1
        split at h
        · rename_i b σ₂ h2
          obtain ⟨x, h3, h4⟩ := map_pair h
          cases h4
          exact snd_compare S cmpS hA hs (by simpa using hm) h1 h2 h3 B L
        · cases h
      · cases h
  · -- List
    obtain ⟨⟨xs, σ₂⟩, h1, h2⟩ := map_pair h
    cases h2
    exact (snd_list S hA hs h1 B L).toV
  · -- ListComp
    obtain ⟨⟨xs, σ₂⟩, h1, h2⟩ := map_pair h
    cases h2
    exact (snd_new S C hA hs h1 B L).toV
  · -- Tuple
    split at h
    · rename_i hl
      split at h
      · rename_i vs σ₁ h1
        obtain ⟨xs, h2, h3⟩ := map_pair h
        cases h3
        exact snd_tuple S hA hs hl h1 h2 B L
      · cases h
    · cases h
  · -- Dict
    cases h
    exact dict0_snd TT.sm B
  · -- Set
    rename_i e pos
    split at h
    · rename_i x σ₁ h1
      split at h
      · rename_i hx
        cases h
        have hst : ∀ y p, e ≠ .Starred y p := fun y p q => by subst q; unfold evs at h1; cases h1
        have h1' : (match r.ev sc φ e σ with
          | some (v, σ) => match evs r sc φ [] σ with
            | some (vs, σ) => some (v :: vs, σ)
            | none => none
          | none => none) = some ([PV.d (.int x)], σ₁) := by
          cases e <;> first | exact h1 | exact absurd rfl (hst _ _)
        have h2 : r.ev sc φ e σ = some (PV.d (.int x), σ₁) := by
          cases q : r.ev sc φ e σ with
          | none => rw [q] at h1'; cases h1'
          | some p =>
            obtain ⟨v, σ₂⟩ := p
            rw [q] at h1'
            unfold evs at h1'
            cases h1'
            rfl
        exact set1_snd S hA hs hst h2 hx B L
      · cases h
    · cases h
  · -- Slice
    split at h
    · rename_i xs σ₁ h1
      split at h
      · rename_i i σ₂ h2
        obtain ⟨x, h3, h4⟩ := map_pair h
        cases h4
        exact snd_slice S hA hs h1 h2 h3 B L
      · cases h
    · cases h
  · -- Subscript
    split at h
    · cases h
    · rename_i i hns
      split at h
      · rename_i ov σ₁ h1
        split at h
        · rename_i iv σ₂ h2
          obtain ⟨v, h3, h4⟩ := map_pair h
          cases h4
          exact snd_item S hA hs (by assumption) h1 h2 h3 B L
        · cases h
      · cases h
  · -- Attribute
    split at h
    · rename_i hn
      split at h
      · rename_i ov σ₁ h1
        split at h
        · rename_i C' d h2
          split at h
          · rename_i h3
            split at h
            · rename_i es h4
              obtain ⟨v, h5, h6⟩ := map_pair h
              cases h6
              exact attr_snd S TT hA hs hn h1 h2 h3 h4 h5 B L
            · cases h
          · cases h
        · cases h
      · cases h
    · cases h
  · -- Call Name
    split at h
    · split at h
      · rename_i vs σ₁ h1
        exact callN_snd S TT hA hs h1 h B L
      · cases h
    · cases h
  · -- Call method
    split at h
    · rename_i hc
      rw [Bool.and_eq_true, Bool.and_eq_true, decide_eq_true_eq] at hc
      split at h
      · rename_i ov σ₁ h1
        split at h
        · rename_i c h2
          split at h
          · rename_i vs σ₂ h3
            exact callM_snd S TT hA hs hc.1.1 hc.1.2 hc.2 h1 h2 h3 h B L
          · cases h
        · cases h
      · cases h
    · cases h
  · cases h

theorem snd_tr {r : Rec} (S : SoundR prog w h₀ r n) (hA : AOk n A) (hs : env.scope = sc) {e : Expr} {b : Bool} (h : stepTr r sc φ e σ = some (b, σ')) (B : Base prog w h₀ Z ρ σ s) (L : Loc Z ρ env φ s) :
    SndB prog w h₀ A Z ρ s (isTrue e env (eval e env)) b σ' := by
  unfold stepTr at h
  split at h
  · -- Not
    rename_i x pos
    obtain ⟨⟨c, σ₁⟩, h1, h2⟩ := map_pair h
    cases h2
    intro E Q k
    rw [arm_isTrue_UnaryOp]
    exact wpAny_bind (S.tr h1 hA hs B L E _ fun s₁ Z₁ ρ₁ g₁ B₁ => wpAny_pure (k s₁ Z₁ ρ₁ g₁ B₁))
  · -- BoolOp
    rw [arm_isTrue_BoolOp]
    exact snd_allTrue S hA hs h B L
  · -- IfExp
    split at h
    · rename_i σ₁ h1
      exact snd_isIfexp (c := true) S hA hs h1 h B L
    · rename_i σ₁ h1
      exact snd_isIfexp (c := false) S hA hs h1 h B L
    · cases h
  · -- Compare
    split at h
    · cases h
    · rename_i hm
      split at h
      · rename_i a σ₁ h1
        split at h
        · rename_i c σ₂ h2
          obtain ⟨x, h3, h4⟩ := map_pair h
          cases h4
          exact snd_isCompare S cmpS hA hs (by simpa using hm) h1 h2 h3 B L
        · cases h
      · cases h
  · split at h
    · rename_i v σ₁ h1
      obtain ⟨c, h2, h3⟩ := map_pair h
      cases h3
      exact fun E Q k => wpAny_bind (S.ev h1 hA hs B L E _ fun u s₁ Z₁ ρ₁ g₁ B₁ r₁ => wpAny_bind (wpAny_standAt (wpAny_holding (snd_truthy B₁ h2 r₁ E _ fun s₂ Z₂ ρ₂ g₂ B₂ => k s₂ Z₂ ρ₂ (g₁.tr B₁ g₂) B₂))))
    · cases h
  · split at h
    · rename_i v σ₁ h1
      obtain ⟨c, h2, h3⟩ := map_pair h
      cases h3
      exact fun E Q k => wpAny_bind (S.ev h1 hA hs B L E _ fun u s₁ Z₁ ρ₁ g₁ B₁ r₁ => wpAny_bind (wpAny_standAt (wpAny_holding (snd_truthy B₁ h2 r₁ E _ fun s₂ Z₂ ρ₂ g₂ B₂ => k s₂ Z₂ ρ₂ (g₁.tr B₁ g₂) B₂))))
    · cases h
  · split at h
    · rename_i v σ₁ h1
      obtain ⟨c, h2, h3⟩ := map_pair h
      cases h3
      exact fun E Q k => wpAny_bind (S.ev h1 hA hs B L E _ fun u s₁ Z₁ ρ₁ g₁ B₁ r₁ => wpAny_bind (wpAny_standAt (wpAny_holding (snd_truthy B₁ h2 r₁ E _ fun s₂ Z₂ ρ₂ g₂ B₂ => k s₂ Z₂ ρ₂ (g₁.tr B₁ g₂) B₂))))
    · cases h
  · cases h
end
end Mine
end
section
open PySem PySem.W PyProof.Rows
set_option maxRecDepth 100000
set_option linter.all false
namespace Mine

section
variable {prog : Program} {w : World} {h₀ : Heap} {A : Around} {E : Value → Shared → Prop} {s s' : Shared} {Z Z' : ZP} {ρ ρ' : List Addr} {σ σ' σ'' σ₁ : Store} {env : Env} {φ φ' : Frm} {n : Nat} {X : List Addr} {sc : Scope} {T : Txt} {R : Result → Shared → Prop}

theorem while_step {test : Expr} {body : List Stmt}
    (h : wpAny (model prog w) A (isTrue test env (eval test env)) (fun b s₂ => if b then wpAny (model prog w) A (execs body env) (fun f s₃ => match f with
        | .next | .cont => codeAny (model prog w) A (.whileLoop test body [] env) R s₃
        | .brk => R (.ok .next) s₃
        | .ret v => R (.ok (.ret v)) s₃) (notedBy (model prog w) A env fun e s' => R (.error e) s') s₂
      else R (.ok .next) s₂) (notedBy (model prog w) A env fun e s' => R (.error e) s') s) : codeAny (model prog w) A (.whileLoop test body [] env) R s := by
  refine codeAny_of_tree ?_
  show wpAny _ A ((whileTurn test body [] env).onRaise (fun x => do noteFrame x env; theTreesLotGoes x)) _ _ s
  refine wpAny_noted ?_
  simp only [whileTurn]
  refine wpAny_bind (wpAny_mono h (fun b s₂ h₂ => ?_) fun _ _ h' => h')
  cases b with
  | false =>
    simp only [Bool.false_eq_true, if_false] at h₂ ⊢
    exact wpAny_bind (wpAny_execs_nil (wpAny_pure h₂))
  | true =>
    simp only [if_true] at h₂ ⊢
    refine wpAny_bind (wpAny_mono h₂ (fun f s₃ h₃ => ?_) fun _ _ h' => h')
    cases f with
    | next => exact wpAny_pure (And.intro rfl h₃)
    | cont => exact wpAny_pure (And.intro rfl h₃)
    | brk => exact wpAny_pure h₃
    | ret v => exact wpAny_pure h₃

theorem for_step {target : Expr} {it : Value} {body : List Stmt}
    (h : wpAny (model prog w) A (pyNext it) (fun r s₁ => match r with
      | none => R (.ok .next) s₁
      | some v => wpAny (model prog w) A (assign target env v) (fun _ s₂ => wpAny (model prog w) A (execs body env) (fun f s₃ => match f with
          | .next | .cont => codeAny (model prog w) A (.forLoop target it body [] env) R s₃
          | .brk => R (.ok .next) s₃
          | .ret v => R (.ok (.ret v)) s₃) (notedBy (model prog w) A env fun e s' => R (.error e) s') s₂) (notedBy (model prog w) A env fun e s' => R (.error e) s') s₁) (notedBy (model prog w) A env fun e s' => R (.error e) s') s)
    (ht : ∀ v, letOwnedTupleGo target it v = pure () := by intro _; rfl) : codeAny (model prog w) A (.forLoop target it body [] env) R s := by
  refine codeAny_of_tree ?_
  show wpAny _ A ((forTurn target it body [] env).onRaise (fun x => do noteFrame x env; theTreesLotGoes x)) _ _ s
  refine wpAny_noted ?_
  simp only [forTurn]
  refine wpAny_bind (wpAny_standAt (wpAny_bind (wpAny_onRaise (wpAny_mono h (fun r s₁ h₁ => ?_) fun _ _ h' => wpAny_standAt h'))))
  cases r with
  | none => exact wpAny_pure (And.intro rfl (codeAny_block (wpAny_execs_nil h₁)))
  | some v =>
    refine wpAny_bind (wpAny_of_eq (ht v) ?_)
    refine wpAny_bind (wpAny_mono h₁ (fun _ s₂ h₂ => wpAny_bind (wpAny_mono h₂ (fun f s₃ h₃ => ?_) fun _ _ h' => h')) fun _ _ h' => h')
    cases f with
    | next => exact wpAny_pure (And.intro rfl h₃)
    | cont => exact wpAny_pure (And.intro rfl h₃)
    | brk => exact wpAny_pure h₃
    | ret v => exact wpAny_pure h₃

theorem Base.step (B : Base prog w h₀ Z ρ σ s) {s' : Shared} (hk : ∀ b o, (∃ o', Z b o') ∨ b ∈ ρ → s.heap.get? b = some o → s'.heap.get? b = some o) : Base prog w h₀ Z ρ σ s' :=
  ⟨fun b o h => hk b o (.inl ⟨o, h⟩) (B.keep b o h), B.old, B.len, fun k a po h1 h2 => by
    have := (B.objs k a po h1 h2).keeps (l := []) (ZSub.refl Z) (fun o e => hk a o (.inr (List.mem_of_getElem? h1)) e)
    rwa [List.append_nil] at this, B.zr, B.nd⟩

theorem putL_lookup (l : List (Str × PV)) (x : Str) (v : PV) (y : Str) : (putL l x v).lookup y = if y = x then some v else l.lookup y := by
  induction l with
  | nil =>
    unfold putL
    by_cases h : y = x
    · subst h; simp
    · have : (y == x) = false := by simpa using h
      simp [List.lookup_cons, this, h]
  | cons p l ih =>
    obtain ⟨z, u⟩ := p
    unfold putL
    split
    · rename_i e
      have e := eq_of_beq e
      subst e
      by_cases h : y = z
      · subst h; simp [List.lookup_cons]
      · have : (y == z) = false := by simpa using h
        simp [List.lookup_cons, this, h]
    · rename_i e
      by_cases h : y = z
      · subst h
        have hne : ¬ y = x := by simpa using e
        simp [List.lookup_cons, hne]
      · have : (y == z) = false := by simpa using h
        simp only [List.lookup_cons, this]
        exact ih

theorem Loc.aliveAll (L : Loc Z ρ env φ s) : ∀ b ∈ allAdrs env, ∃ o, s.heap.get? b = some o := fun b hb => by
  unfold allAdrs at hb
  rcases List.mem_cons.mp hb with e | h
  · subst e; obtain ⟨m, ⟨o, _, _, ho, _⟩, _⟩ := L.ns; exact ⟨o, ho⟩
  · obtain ⟨⟨x, c⟩, hm, rfl⟩ := List.mem_map.mp h
    obtain ⟨ov, o, ho, _⟩ := L.al x c hm
    exact ⟨o, ho⟩
theorem Loc.alive (L : Loc Z ρ env φ s) : ∀ b ∈ envAdrs env, ∃ o, s.heap.get? b = some o := fun b hb => L.aliveAll b (env_all hb)
theorem Loc.priv (L : Loc Z ρ env φ s) : ∀ b ∈ envAdrs env, (∀ o, ¬ Z b o) ∧ b ∉ ρ := fun b hb => by
  have hb := env_all hb
  unfold allAdrs at hb
  rcases List.mem_cons.mp hb with e | h
  · subst e; exact L.zL
  · obtain ⟨⟨x, c⟩, hm, rfl⟩ := List.mem_map.mp h
    exact ⟨(L.zc x c hm).1, (L.zc x c hm).2.1⟩

/-- a store into a name -/
theorem snd_store {x : Str} {pv : PV} {v : Value} (hs : env.scope = sc) (h : stN sc φ x pv = some φ') (hv : VR Z ρ pv v) (B : Base prog w h₀ Z ρ σ s) (L : Loc Z ρ env φ s) {Q : Unit → Shared → Prop}
    (k : ∀ s', Grow (envAdrs env) Z ρ s Z ρ s' → Base prog w h₀ Z ρ σ s' → Loc Z ρ env φ' s' → Q () s') : wpAny (model prog w) A (storeName env x v) Q E s := by
  subst hs
  have grow : ∀ (a : Addr) (h' : Heap) (tk : Nat), a ∈ envAdrs env → Heap.SameBut a s.heap h' → Grow (envAdrs env) Z ρ s Z ρ { s with heap := h', toks := tk } := fun a h' tk ha hsb =>
    ⟨ZSub.refl Z, fun _ _ h => .inl h, ⟨[], by simp, fun _ h => nomatch h⟩, fun b o _ hb e => (hsb.2 b fun q => hb (q ▸ ha)).trans e, Sh.heap _ _⟩
  have base : ∀ (a : Addr) (h' : Heap) (tk : Nat), a ∈ envAdrs env → Heap.SameBut a s.heap h' → Base prog w h₀ Z ρ σ { s with heap := h', toks := tk } := fun a h' tk ha hsb =>
    B.step fun b o hb e => (hsb.2 b fun q => by
      obtain ⟨p1, p2⟩ := L.priv a ha
      rcases hb with ⟨o', hb⟩ | hb
      · exact p1 o' (q ▸ hb)
      · exact p2 (q ▸ hb)).trans e
  have hp : (env.scope.kind == .class || (env.scope.kind == .module && env.locals != env.globals)) = false := by rw [L.hk]; rfl
  unfold stN at h
  split at h
  · rename_i hk
    cases h
    obtain ⟨m, hn, hm⟩ := L.ns
    refine wpAny_storeName_local hk hn (fun h' hn' hsb => ?_) hp
    have hloc : env.locals ∈ envAdrs env := List.mem_cons_self
    have cell : ∀ y c ov, (y, c) ∈ env.cells → s.heap.IsCell c ov → h'.IsCell c ov := fun y c ov hc ⟨o, ho, hd⟩ => ⟨o, (hsb.2 c (L.zc y c hc).2.2).trans ho, hd⟩
    refine k _ (grow _ h' _ hloc hsb) (base _ h' _ hloc hsb) ⟨L.hk, L.gl, L.bl, ⟨_, hn', fun y pv' hy => ?_⟩,
      fun y pv' hy => let ⟨c, u, a, b, d⟩ := L.ce y pv' hy; ⟨c, u, a, cell y c _ (mem_of_lookup a) b, d⟩, fun y c hc => let ⟨ov, a⟩ := L.al y c hc; ⟨ov, cell y c ov hc a⟩, L.ck, L.zL, L.zc, L.ap, L.wc, L.cd⟩
    dsimp only at hy
    rw [putL_lookup] at hy
    by_cases e : y = x
    · rw [if_pos e] at hy
      cases hy
      exact ⟨v, by rw [if_pos e], hv⟩
    · rw [if_neg e] at hy
      obtain ⟨u, a, b⟩ := hm y pv' hy
      exact ⟨u, by rw [if_neg e]; exact a, b⟩
  · rename_i hk
    split at h
    · cases h
    rename_i hro
    cases h
    obtain ⟨c, hc⟩ := L.ck x (.inl hk)
    obtain ⟨ov, hcell⟩ := L.al x c (mem_of_lookup hc)
    refine wpAny_storeName_cell L.hk hk hc hcell fun h' hc' hsb => ?_
    have hloc : c ∈ envAdrs env := List.mem_cons_of_mem _ (List.mem_filter.mpr ⟨List.mem_map.mpr ⟨(x, c), mem_of_lookup hc, rfl⟩, by simpa using L.wc x c (mem_of_lookup hc) (by simpa using hro)⟩)
    have hne : env.locals ≠ c := Ne.symm (L.zc x c (mem_of_lookup hc)).2.2
    obtain ⟨m, hn, hm⟩ := L.ns
    have hg := grow _ h' s.toks hloc hsb
    refine k _ hg (base _ h' s.toks hloc hsb) ⟨L.hk, L.gl, L.bl, ⟨m, hn.sameBut hsb hne, hm⟩, fun y pv' hy => ?_, fun y d hd => ?_, L.ck, L.zL, L.zc, L.ap, L.wc, L.cd⟩
    · dsimp only at hy
      rw [putL_lookup] at hy
      by_cases e : y = x
      · rw [if_pos e] at hy
        cases hy
        exact ⟨c, v, by rw [e]; exact hc, hc', hv⟩
      · rw [if_neg e] at hy
        obtain ⟨d, u, a, b, r⟩ := L.ce y pv' hy
        have hdc : d ≠ c := fun q => e (name_of_addr L.ap (mem_of_lookup a) (q ▸ mem_of_lookup hc))
        obtain ⟨o, ho, hd⟩ := b
        exact ⟨d, u, a, ⟨o, (hsb.2 d hdc).trans ho, hd⟩, r⟩
    · by_cases e : d = c
      · subst e; exact ⟨_, hc'⟩
      · obtain ⟨ov, o, ho, hdd⟩ := L.al y d hd
        exact ⟨ov, o, (hsb.2 d e).trans ho, hdd⟩
  · cases h

theorem Grow.trX (g : Grow X Z ρ s Z' ρ' s') (B : Base prog w h₀ Z' ρ' σ' s') (hX : ∀ b ∈ X, ∃ o, s'.heap.get? b = some o) {Z'' : ZP} {ρ'' : List Addr} {s'' : Shared} (g' : Grow X Z' ρ' s' Z'' ρ'' s'') : Grow X Z ρ s Z'' ρ'' s'' := g.trans B hX g'

theorem flR_grow {Z Z' : ZP} {ρ ρ' : List Addr} (g : Grow X Z ρ s Z' ρ' s') {f : Fl} {v : Flow} (h : FlR Z ρ f v) : FlR Z' ρ' f v := by
  cases f with
  | nxt => exact h
  | brk => exact h
  | cnt => exact h
  | ret pv => obtain ⟨u, e, r⟩ := h; exact ⟨u, e, r.grow g⟩

/-- blocks -/
theorem snd_exs {r : Rec} (S : SoundR prog w h₀ r n) (hA : AOk n A) (hs : env.scope = sc) : ∀ {sts : List Stmt} {φ φ' : Frm} {σ σ' : Store} {f : Fl} {Z : ZP} {ρ : List Addr} {s : Shared}, exs r sc sts φ σ = some (f, φ', σ') →
    Base prog w h₀ Z ρ σ s → Loc Z ρ env φ s → SndF prog w h₀ A env Z ρ s (execs sts env) f φ' σ'
  | [], φ, φ', σ, σ', f, Z, ρ, s, h, B, L => by
    unfold exs at h
    cases h
    exact fun E Q k => wpAny_execs_nil (k _ s Z ρ (.refl ..) B L rfl)
  | st :: rest, φ, φ', σ, σ', f, Z, ρ, s, h, B, L => by
    unfold exs at h
    intro E Q k
    refine wpAny_execs_cons ?_
    split at h
    · rename_i φ₁ σ₁ h1
      refine S.ex h1 hA hs B L E _ fun v s₁ Z₁ ρ₁ g₁ B₁ L₁ hf => ?_
      cases hf
      exact snd_exs S hA hs h B₁ L₁ E Q fun v₂ s₂ Z₂ ρ₂ g₂ B₂ L₂ hf₂ => k v₂ s₂ Z₂ ρ₂ (g₁.trX B₁ L₁.alive g₂) B₂ L₂ hf₂
    · rename_i f₁ φ₁ σ₁ hne h1
      cases h
      refine S.ex h1 hA hs B L E _ fun v s₁ Z₁ ρ₁ g₁ B₁ L₁ hf => ?_
      have := k v s₁ Z₁ ρ₁ g₁ B₁ L₁ hf
      cases f with
      | nxt => first | exact hne.elim | exact absurd rfl (hne _ _) | (exfalso; simp_all)
      | brk => cases hf; exact this
      | cnt => cases hf; exact this
      | ret pv => obtain ⟨u, rfl, _⟩ := hf; exact this
    · cases h

theorem snd_wh {r : Rec} (S : SoundR prog w h₀ r n) (hA : AOk n A) (hs : env.scope = sc) {t : Expr} {b : List Stmt} {f : Fl} (h : stepWh r sc t b φ σ = some (f, φ', σ')) (B : Base prog w h₀ Z ρ σ s) (L : Loc Z ρ env φ s)
    (hR : ∀ v s' Z' ρ', Grow (envAdrs env) Z ρ s Z' ρ' s' → Base prog w h₀ Z' ρ' σ' s' → Loc Z' ρ' env φ' s' → FlR Z' ρ' f v → R (.ok v) s') : codeAny (model prog w) A (.whileLoop t b [] env) R s := by
  unfold stepWh at h
  refine while_step ?_
  split at h
  · rename_i σ₁ h1
    cases h
    refine S.tr h1 hA hs B L _ _ fun s₁ Z₁ ρ₁ g₁ B₁ => ?_
    simp only [Bool.false_eq_true, if_false]
    exact hR .next s₁ Z₁ ρ₁ g₁.nil B₁ (L.grow g₁) rfl
  · rename_i σ₁ h1
    refine S.tr h1 hA hs B L _ _ fun s₁ Z₁ ρ₁ g₁ B₁ => ?_
    simp only [if_true]
    have L₁ := L.grow g₁
    have g₁' : Grow (envAdrs env) Z ρ s Z₁ ρ₁ s₁ := g₁.nil
    cases h2 : exs r sc b φ σ₁ with
    | none => rw [h2] at h; cases h
    | some q =>
      obtain ⟨f₂, φ₂, σ₂⟩ := q
      rw [h2] at h
      refine snd_exs S hA hs h2 B₁ L₁ _ _ fun v s₂ Z₂ ρ₂ g₂ B₂ L₂ hf => ?_
      have g12 := g₁'.trX B₁ L₁.alive g₂
      cases f₂ with
      | nxt =>
        cases hf
        exact S.wh h hA hs B₂ L₂ R fun v s₃ Z₃ ρ₃ g₃ B₃ L₃ hf => hR v s₃ Z₃ ρ₃ (g12.trX B₂ L₂.alive g₃) B₃ L₃ hf
      | cnt =>
        cases hf
        exact S.wh h hA hs B₂ L₂ R fun v s₃ Z₃ ρ₃ g₃ B₃ L₃ hf => hR v s₃ Z₃ ρ₃ (g12.trX B₂ L₂.alive g₃) B₃ L₃ hf
      | brk =>
        cases hf
        cases h
        exact hR .next s₂ Z₂ ρ₂ g12 B₂ L₂ rfl
      | ret pv =>
        obtain ⟨u, rfl, hu⟩ := hf
        cases h
        exact hR (.ret u) s₂ Z₂ ρ₂ g12 B₂ L₂ ⟨u, rfl, hu⟩
  · cases h
end
end Mine
end
section
open PySem PySem.W PyProof.Rows
set_option maxRecDepth 100000
set_option linter.all false
namespace Mine

section
variable {prog : Program} {w : World} {h₀ : Heap} {A : Around} {E : Value → Shared → Prop} {s s' : Shared} {Z Z' : ZP} {ρ ρ' : List Addr} {σ σ' σ'' σ₁ : Store} {env : Env} {φ φ' : Frm} {n : Nat} {X : List Addr} {sc : Scope} {T : Txt} {R : Result → Shared → Prop}

/-- an iterator that stands at the i-th of items, all of them frozen data -/
def Itr (prog : Program) (w : World) (A : Around) (Z : ZP) (I : Addr) (items : List PyData) (i : Nat) (h : Heap) : Prop :=
  ∃ fp P St, Walks prog w A I fp [I] items.length P St ∧ (∀ j h, St j h → ∃ o, h.get? I = some o) ∧ St i h ∧ (∀ b ∈ fp, b = I ∨ ∃ o, Z b o) ∧ ∀ j v d, P j v → items[j]? = some d → VD Z v d

theorem Itr.frame {I : Addr} {items : List PyData} {i : Nat} {h h' : Heap} (x : Itr prog w A Z I items i h) (hz : ZSub Z Z') (hk : ∀ b o, b = I ∨ (∃ o', Z b o') → h.get? b = some o → h'.get? b = some o) : Itr prog w A Z' I items i h' :=
  let ⟨fp, P, St, W, al, st, hf, hP⟩ := x
  ⟨fp, P, St, W, al, W.frame i h h' st (fun b hb o e => hk b o (hf b hb) e), fun b hb => (hf b hb).imp id fun ⟨o, ho⟩ => ⟨o, hz _ _ ho⟩, fun j v d hp hd => (hP j v d hp hd).mono hz⟩

theorem iter_data {xs : List PyData} {u : Value} (hA : A.handled = none) (B : Base prog w h₀ Z ρ σ s) (hv : VD Z u (.list xs)) {Q : Value → Shared → Prop}
    (k : ∀ o, Itr prog w A Z s.heap.objs.size xs 0 (s.heap.push o) → Q (.ref s.heap.objs.size) { s with heap := s.heap.push o }) : wpAny (model prog w) A (pyIter u) Q E s := by
  cases hv with
  | list ha hc hd hs =>
    rename_i a o vs m
    have hl : s.heap.IsList a vs := ⟨o, B.keep _ _ ha, hc, m, hd⟩
    have hlt : a < s.heap.objs.size := Heap.lt_size (B.keep _ _ ha)
    have len := hs.length
    rw [Array.length_toList] at len
    have W := Walks.list (prog := prog) (w := w) (A := A) hA s.heap.objs.size a (Nat.ne_of_lt hlt) vs
    rw [len] at W
    refine wpAny_pyIter_list hl (k _ ⟨_, _, _, W, fun j h x => let ⟨⟨o, ho, _⟩, _⟩ := x; ⟨o, ho⟩, ⟨⟨_, Heap.get?_push_size _ rfl, rfl, rfl⟩, hl.push _⟩, fun b hb => ?_, fun j v d hp hd => ?_⟩)
    · simp at hb
      rcases hb with e | e
      · exact .inl e
      · exact .inr ⟨o, e ▸ ha⟩
    · obtain ⟨v', h1, h2⟩ := hs.get hd
      rw [Array.getElem?_toList] at h1
      rw [h1] at hp
      cases hp
      exact h2

theorem small_neg {a b : Int} (ha : a.natAbs < 1000000) (hb : b.natAbs < 1000000) : Builtin.Range.small a b (-1) = true ∧ Builtin.Range.rangeSize a b (-1) = ((a - b).toNat : Nat) := by
  have e : Builtin.Range.rangeSize a b (-1) = ((a - b).toNat : Nat) := by
    unfold Builtin.Range.rangeSize
    rw [if_neg (by decide)]
    split
    · rw [show (-(-1 : Int)) = 1 by rfl, Int.ediv_one]; omega
    · omega
  refine ⟨?_, e⟩
  unfold Builtin.Range.small
  rw [e]
  simp only [Builtin.Range.rangeFitsLong, Bool.and_eq_true, Bool.or_eq_true, decide_eq_true_eq, beq_iff_eq]
  rw [if_neg (by decide)]
  simp only [Bool.and_eq_true, decide_eq_true_eq]
  omega

theorem iter_rng {a b c : Int} {xs : List PyData} {u : Value} (hA : A.handled = none) (h : pIter (.rng a b c) = some xs) (B : Base prog w h₀ Z ρ σ s) (hv : VR Z ρ (.rng a b c) u) {Q : Value → Shared → Prop}
    (k : ∀ o, Itr prog w A Z s.heap.objs.size xs 0 (s.heap.push o) → Q (.ref s.heap.objs.size) { s with heap := s.heap.push o }) : wpAny (model prog w) A (pyIter u) Q E s := by
  obtain ⟨r, t, u', v, rfl, hz⟩ := hv
  have hr := B.keep _ _ hz
  have fin : ∀ (f : Nat → PyData) (m : Nat), xs = (List.range m).map f → (∀ i, f i = .int (a + (i : Int) * c)) → Builtin.Range.small a b c = true → Builtin.Range.rangeSize a b c = (m : Nat) → wpAny (model prog w) A (pyIter (.ref r)) Q E s := fun f m e hf hsm hsz => by
    have hl : xs.length = m := by rw [e]; simp
    refine wpAny_pyIter_range hr hsm (k _ ⟨_, _, _, by rw [hl]; exact Walks.range hA s.heap.objs.size a c m, fun j h x => ⟨_, x⟩, ?_, fun b hb => .inl (by simpa using hb), fun j v d hp hd => ?_⟩)
    · show IsRangeIter _ _ _ _ _
      rw [hsz]
      simpa using Heap.get?_push_size _ rfl
    · obtain ⟨t, rfl⟩ := hp
      rw [e, List.getElem?_map] at hd
      obtain ⟨i, hi, e2⟩ := map_pair hd
      have : i = j := by
        obtain ⟨hlt, e3⟩ := List.getElem?_eq_some_iff.mp hi
        simpa using e3.symm
      subst this
      rw [← e2, hf]
      exact .int _ _
  unfold pIter at h
  dsimp only at h
  split at h
  · rename_i hc
    subst hc
    split at h
    · rename_i hab
      cases h
      refine fin _ (b - a).toNat rfl (fun i => by simp) (small_rng hab.1 hab.2) ?_
      rw [rangeSize_one]; split <;> omega
    · cases h
  · split at h
    · rename_i hc
      subst hc
      split at h
      · rename_i hab
        cases h
        obtain ⟨p1, p2⟩ := small_neg hab.1 hab.2
        exact fin _ (a - b).toNat rfl (fun i => by congr 1; omega) p1 p2
      · cases h
    · cases h

theorem iter_pv {v : PV} {xs : List PyData} {u : Value} (hA : A.handled = none) (h : pIter v = some xs) (B : Base prog w h₀ Z ρ σ s) (hv : VR Z ρ v u) {Q : Value → Shared → Prop}
    (k : ∀ o, Itr prog w A Z s.heap.objs.size xs 0 (s.heap.push o) → Q (.ref s.heap.objs.size) { s with heap := s.heap.push o }) : wpAny (model prog w) A (pyIter u) Q E s := by
  cases v with
  | d x =>
    cases x with
    | list ys =>
      unfold pIter at h
      cases h
      exact iter_data hA B hv k
    | _ => unfold pIter at h; cases h
  | ref j => unfold pIter at h; cases h
  | rng a b c => exact iter_rng hA h B hv k

theorem All2.at {α β : Type} {R : α → β → Prop} : ∀ {as : List α} {bs : List β} {i : Nat} {b : β}, All2 R as bs → bs[i]? = some b → ∃ a, as[i]? = some a ∧ R a b
  | _, _, 0, _, .cons x _, e => by simp only [List.getElem?_cons_zero, Option.some.injEq] at e; subst e; exact ⟨_, rfl, x⟩
  | _, _, i + 1, _, .cons _ xs, e => by rw [List.getElem?_cons_succ] at e; obtain ⟨a, h1, h2⟩ := xs.at e; exact ⟨a, by rw [List.getElem?_cons_succ]; exact h1, h2⟩
  | _, _, _, _, .nil, e => by simp at e

/-- what a for goes over, frozen -/
theorem iter_for {v : PV} {xs : List PyData} {u : Value} (hA : A.handled = none) (h : forItems v σ = some (xs, σ')) (B : Base prog w h₀ Z ρ σ s) (hv : VR Z ρ v u) {Q : Value → Shared → Prop}
    (k : ∀ Z' o, Grow [] Z ρ s Z' ρ s → Base prog w h₀ Z' ρ σ' s → Itr prog w A Z' s.heap.objs.size xs 0 (s.heap.push o) → Q (.ref s.heap.objs.size) { s with heap := s.heap.push o }) : wpAny (model prog w) A (pyIter u) Q E s := by
  unfold forItems at h
  split at h
  · rename_i kk
    obtain ⟨a, hja, rfl⟩ := hv
    split at h
    · rename_i ys hk
      split at h
      · cases h
        obtain ⟨vs, ⟨m, ho⟩, hvs⟩ := B.objs _ a _ hja hk
        refine iter_data hA (B.bury hja ho) (VD.list (ZAdd.here _ _ _) rfl rfl (by simpa using VDs.mono (ZAdd.sub _ _ _) hvs)) fun o it => ?_
        exact k _ o (.bury hja) (B.bury hja ho) it
      · cases h
    · rename_i es hk
      cases h
      obtain ⟨hsm, vs, hd, hvv⟩ := B.objs _ a _ hja hk
      obtain ⟨o, des, ep, ho, hex, hdat, hkeys, hpairs, hnd⟩ := hd
      have hlt : a < s.heap.objs.size := Heap.lt_size ho
      have hat : s.heap.DictAt (intKind prog w) a ((es.map (·.1)).zip vs) ep := ⟨o, des, ho, hex, hdat, hkeys, hpairs, hnd⟩
      have hzl := zip_len hvv
      have hlen : (es.map fun p => PyData.int p.1).length = ((es.map (·.1)).zip vs).length := by rw [hzl, List.length_map]
      have W := Walks.dictKeys (prog := prog) (w := w) (A := A) (knd := intKind prog w) hA s.heap.objs.size a (Nat.ne_of_lt hlt) ((es.map (·.1)).zip vs) ep
      rw [← hlen] at W
      refine wpAny_pyIter_dict (by simpa using hsm) hat (k _ _ (.bury hja) (B.bury hja ho) ⟨_, _, _, W, fun j h x => let ⟨⟨o, ho, _⟩, _⟩ := x; ⟨o, ho⟩, ⟨⟨_, Heap.get?_push_size _ rfl, rfl, ?_⟩, hat.push _⟩, fun b hb => ?_, fun j v d hp hd => ?_⟩)
      · rw [hlen]; rfl
      · simp at hb
        rcases hb with e | e
        · exact .inl e
        · exact .inr ⟨o, e ▸ ZAdd.here _ _ _⟩
      · obtain ⟨i, x, hi, hk2⟩ := hp
        obtain ⟨t, rfl⟩ := Value.isInt_shape hk2
        rw [List.getElem?_map] at hd
        obtain ⟨p, hp, e⟩ := map_pair hd
        have : i = p.1 := by
          have h1 : (((es.map (·.1)).zip vs)[j]?).map (·.1) = some i := by rw [hi]; rfl
          rw [← List.getElem?_map, List.map_fst_zip (by have := hvv.length; rw [List.length_map] at this ⊢; omega), List.getElem?_map, hp] at h1
          simpa using h1.symm
        rw [← e, this]
        exact .int _ _
    · cases h
  · obtain ⟨ys, h1, h2⟩ := map_pair h
    cases h2
    exact iter_pv hA h1 B hv fun o it => k Z o (.refl ..) B it
end
end Mine
end
section
open PySem PySem.W PyProof.Rows
set_option maxRecDepth 100000
set_option linter.all false
namespace Mine

section
variable {prog : Program} {w : World} {h₀ : Heap} {A : Around} {E : Value → Shared → Prop} {s s' : Shared} {Z Z' : ZP} {ρ ρ' : List Addr} {σ σ' σ'' σ₁ : Store} {env : Env} {φ φ' : Frm} {n : Nat} {X : List Addr} {sc : Scope} {T : Txt} {R : Result → Shared → Prop}

/-- an address that is nobody's: an iterator, a frame under way -/
structure Own (I : Addr) (Z : ZP) (ρ : List Addr) (s : Shared) : Prop where
  z : ∀ o, ¬ Z I o
  r : I ∉ ρ
  a : ∃ o, s.heap.get? I = some o
theorem Own.grow {I : Addr} (x : Own I Z ρ s) (g : Grow X Z ρ s Z' ρ' s') (hX : I ∉ X) : Own I Z' ρ' s' := by
  obtain ⟨o, ho⟩ := x.a
  refine ⟨fun o' h => ?_, fun h => ?_, ⟨o, g.old I o x.r hX ho⟩⟩
  · rcases g.zn I o' h with q | q | q
    · exact x.z o' q
    · rw [q] at ho; cases ho
    · exact x.r q
  · obtain ⟨l, e, hl⟩ := g.pre
    rw [e] at h
    rcases List.mem_append.mp h with q | q
    · exact x.r q
    · rw [hl I q] at ho; cases ho
theorem Own.new (B : Base prog w h₀ Z ρ σ s) {o : Obj} (ha : ∃ o', (s.heap.push o).get? s.heap.objs.size = some o') : Own s.heap.objs.size Z ρ { s with heap := s.heap.push o } :=
  ⟨B.notZ (none_size _ (Nat.le_refl _)), B.notR (none_size _ (Nat.le_refl _)), ha⟩
/-- an owned object moves -/
theorem Own.move {I : Addr} (x : Own I Z ρ s) (B : Base prog w h₀ Z ρ σ s) {h' : Heap} {tk : Nat} (hk : ∀ b o, b ∉ [I] → s.heap.get? b = some o → h'.get? b = some o) :
    Grow [I] Z ρ s Z ρ { s with heap := h', toks := tk } ∧ Base prog w h₀ Z ρ σ { s with heap := h', toks := tk } :=
  ⟨⟨ZSub.refl Z, fun _ _ h => .inl h, ⟨[], by simp, fun _ h => nomatch h⟩, fun b o _ hb e => hk b o hb e, Sh.heap _ _⟩,
    B.step fun b o hb e => hk b o (fun hm => by
      have hm := List.mem_singleton.mp hm
      subst hm
      rcases hb with ⟨o', hb⟩ | hb
      · exact x.z o' hb
      · exact x.r hb) e⟩

theorem Itr.grow {I : Addr} {items : List PyData} {i : Nat} (x : Itr prog w A Z I items i s.heap) (W : Own I Z ρ s) (B : Base prog w h₀ Z ρ σ s) (g : Grow X Z ρ s Z' ρ' s') (hX : I ∉ X) (B' : Base prog w h₀ Z' ρ' σ' s') : Itr prog w A Z' I items i s'.heap :=
  x.frame g.zz fun b o hb e => by
    rcases hb with hb | ⟨o', hb⟩
    · subst hb; exact g.old b o W.r hX e
    · have := B'.keep b o' (g.zz _ _ hb)
      have e2 := B.keep b o' hb
      rw [e] at e2
      cases e2
      exact this

theorem Loc.off {I : Addr} (L : Loc Z ρ env φ s) (hIX : I ∉ allAdrs env) (g : Grow [I] Z ρ s Z' ρ' s') : Loc Z' ρ' env φ s' :=
  L.step g (fun hm => hIX (by have := List.mem_singleton.mp hm; subst this; exact List.mem_cons_self)) fun y c hc hm => hIX (by
    have := List.mem_singleton.mp hm
    subst this
    exact List.mem_cons_of_mem _ (List.mem_map.mpr ⟨(y, c), hc, rfl⟩))

/-- the for loop over frozen data -/
theorem snd_for {r : Rec} (S : SoundR prog w h₀ r n) (hA : AOk n A) (hs : env.scope = sc) {x : Str} {px : Pos} {body : List Stmt} {I : Addr} {items : List PyData} {f : Fl} (hIX : I ∉ allAdrs env) :
    ∀ (rest : List PyData) (i : Nat) {φ : Frm} {σ : Store} {Z : ZP} {ρ : List Addr} {s : Shared}, items.drop i = rest → i ≤ items.length → eFor r sc x body rest φ σ = some (f, φ', σ') → Base prog w h₀ Z ρ σ s → Loc Z ρ env φ s → Own I Z ρ s → Itr prog w A Z I items i s.heap →
      (∀ v s' Z' ρ', Grow (I :: envAdrs env) Z ρ s Z' ρ' s' → Base prog w h₀ Z' ρ' σ' s' → Loc Z' ρ' env φ' s' → FlR Z' ρ' f v → R (.ok v) s') → codeAny (model prog w) A (.forLoop (.Name x px) (.ref I) body [] env) R s
  | [], i, φ, σ, Z, ρ, s, hd, hi, h, B, L, O, it, hR => by
    have hin : i = items.length := by
      have := List.drop_eq_nil_iff.mp hd
      omega
    subst hin
    obtain ⟨fp, P, St, W, al, st, hf, hP⟩ := it
    unfold eFor at h
    cases h
    refine for_step (W.done s _ _ st fun h' tk hk => ?_)
    obtain ⟨g, B'⟩ := O.move (tk := tk) B hk
    exact hR .next _ Z ρ (g.mono fun b hb => by rw [List.mem_singleton.mp hb]; exact List.mem_cons_self) B' (L.off hIX g) rfl
  | d :: rest, i, φ, σ, Z, ρ, s, hd, hi, h, B, L, O, it, hR => by
    have hlt : i < items.length := by
      rcases Nat.lt_or_ge i items.length with q | q
      · exact q
      · rw [List.drop_eq_nil_of_le q] at hd; cases hd
    have hat : items[i]? = some d := by
      have := congrArg (·[0]?) hd
      simpa using this
    have hd' : items.drop (i + 1) = rest := by
      have := congrArg List.tail hd
      simpa using this
    obtain ⟨fp, P, St, W, al, st, hf, hP⟩ := it
    have hXI : ∀ b ∈ [I], b ∈ I :: envAdrs env := fun b hb => by rw [List.mem_singleton.mp hb]; exact List.mem_cons_self
    have hXe : ∀ b ∈ envAdrs env, b ∈ I :: envAdrs env := fun b hb => List.mem_cons_of_mem _ hb
    unfold eFor at h
    refine for_step (W.item i s _ _ hlt st fun v h' tk hp st' hk => ?_)
    obtain ⟨g₁, B₁⟩ := O.move (tk := tk) B hk
    have O₁ : Own I Z ρ { s with heap := h', toks := tk } := ⟨O.z, O.r, al _ _ st'⟩
    have L₁ := L.off hIX g₁
    have it₁ : Itr prog w A Z I items (i + 1) ({ s with heap := h', toks := tk } : Shared).heap := ⟨fp, P, St, W, al, st', hf, hP⟩
    cases h1 : stN sc φ x (.d d) with
    | none => rw [h1] at h; cases h
    | some φ₁ =>
      rw [h1] at h
      refine wpAny_assign_Name (snd_store hs h1 (hP i v d hp hat) B₁ L₁ fun s₂ g₂ B₂ L₂ => ?_)
      have O₂ := O₁.grow g₂ (not_env hIX)
      have it₂ := it₁.grow O₁ B₁ g₂ (not_env hIX) B₂
      have g12 : Grow (I :: envAdrs env) Z ρ s Z ρ s₂ := (g₁.mono hXI).trans B₁ (fun b hb => (List.mem_cons.mp hb).elim (fun e => e ▸ O₁.a) (L₁.alive b)) (g₂.mono hXe)
      cases h2 : exs r sc body φ₁ σ with
      | none => simp only [h2] at h; cases h
      | some q =>
        obtain ⟨f₂, φ₂, σ₂⟩ := q
        simp only [h2] at h
        refine snd_exs S hA hs h2 B₂ L₂ _ _ fun u s₃ Z₃ ρ₃ g₃ B₃ L₃ hf₃ => ?_
        have O₃ := O₂.grow g₃ (not_env hIX)
        have it₃ := it₂.grow O₂ B₂ g₃ (not_env hIX) B₃
        have g13 : Grow (I :: envAdrs env) Z ρ s Z₃ ρ₃ s₃ := g12.trans B₂ (fun b hb => (List.mem_cons.mp hb).elim (fun e => e ▸ O₂.a) (L₂.alive b)) (g₃.mono hXe)
        have al₃ : ∀ b ∈ I :: envAdrs env, ∃ o, s₃.heap.get? b = some o := fun b hb => (List.mem_cons.mp hb).elim (fun e => e ▸ O₃.a) (L₃.alive b)
        cases f₂ with
        | nxt =>
          cases hf₃
          exact snd_for S hA hs hIX rest (i + 1) hd' hlt h B₃ L₃ O₃ it₃ fun v s' Z' ρ' g B' L' hf' => hR v s' Z' ρ' (g13.trans B₃ al₃ g) B' L' hf'
        | cnt =>
          cases hf₃
          exact snd_for S hA hs hIX rest (i + 1) hd' hlt h B₃ L₃ O₃ it₃ fun v s' Z' ρ' g B' L' hf' => hR v s' Z' ρ' (g13.trans B₃ al₃ g) B' L' hf'
        | brk =>
          cases hf₃
          cases h
          exact hR .next s₃ Z₃ ρ₃ g13 B₃ L₃ rfl
        | ret pv =>
          obtain ⟨u', rfl, hu⟩ := hf₃
          cases h
          exact hR (.ret u') s₃ Z₃ ρ₃ g13 B₃ L₃ ⟨u', rfl, hu⟩
end
end Mine
end
section
open PySem PySem.W PyProof.Rows
set_option maxRecDepth 100000
set_option linter.all false
namespace Mine

def testsT (ifs : List Expr) (env : Env) : Sem Bool := forIn ifs true fun c r => if r = true then do let ok ← isTrue c env (eval c env); pure (ForInStep.yield ok) else pure (ForInStep.yield r)
def emitT (elt : Expr) (acc : Value) (env : Env) : Sem Unit := do let _ ← call (.builtin "list.append") [acc, ← eval elt env]
def turnT (e : Expr) (d : Nat) (target iter : Expr) (ifs : List Expr) (inner : Sem Unit) (it acc : Value) (env : Env) : Sem Fin := do
  standAt iter.pos
  match ← pyNext it with
  | none => pure (.done .next)
  | some v =>
    letOwnedTupleGo target it v
    assign target env v
    let ok ← testsT ifs env
    if ok then inner
    again (.compLoop e d it acc env)
def innerT (e : Expr) (iter : Expr) (acc : Value) (env : Env) : Sem Unit := do
  let x ← eval iter env
  standAt iter.pos
  let x ← foldedSetIterable iter env x
  let _ ← runOwn (.compStart e 1 (← holding [x] (pyIter x)) acc env) env

theorem turn_one (elt target iter : Expr) (ifs : List Expr) (scope : Scope) (pos : Pos) (it acc : Value) (env : Env) :
    compTurn (.ListComp elt [⟨target, iter, ifs, 0⟩] scope pos) 0 it acc env = turnT (.ListComp elt [⟨target, iter, ifs, 0⟩] scope pos) 0 target iter ifs (emitT elt acc env) it acc env := by rfl
theorem turn_two (elt target iter target1 iter1 : Expr) (ifs ifs1 : List Expr) (scope : Scope) (pos : Pos) (it acc : Value) (env : Env) :
    compTurn (.ListComp elt [⟨target, iter, ifs, 0⟩, ⟨target1, iter1, ifs1, 0⟩] scope pos) 0 it acc env =
      turnT (.ListComp elt [⟨target, iter, ifs, 0⟩, ⟨target1, iter1, ifs1, 0⟩] scope pos) 0 target iter ifs (innerT (.ListComp elt [⟨target, iter, ifs, 0⟩, ⟨target1, iter1, ifs1, 0⟩] scope pos) iter1 acc env) it acc env := by
  unfold turnT innerT
  simp only [bind_assoc]
  rfl
theorem turn_two1 (elt target iter target1 iter1 : Expr) (ifs ifs1 : List Expr) (scope : Scope) (pos : Pos) (it acc : Value) (env : Env) :
    compTurn (.ListComp elt [⟨target, iter, ifs, 0⟩, ⟨target1, iter1, ifs1, 0⟩] scope pos) 1 it acc env =
      turnT (.ListComp elt [⟨target, iter, ifs, 0⟩, ⟨target1, iter1, ifs1, 0⟩] scope pos) 1 target1 iter1 ifs1 (emitT elt acc env) it acc env := by rfl

section
variable {prog : Program} {w : World} {h₀ : Heap} {A : Around} {E : Value → Shared → Prop} {s s' : Shared} {Z Z' : ZP} {ρ ρ' : List Addr} {σ σ' σ'' σ₁ : Store} {env : Env} {φ φ' : Frm} {n : Nat} {X : List Addr} {sc : Scope} {T : Txt} {R : Result → Shared → Prop}

theorem comp_step {e : Expr} {d : Nat} {target iter : Expr} {ifs : List Expr} {inner : Sem Unit} {it acc : Value} (heq : compTurn e d it acc env = turnT e d target iter ifs inner it acc env)
    (hle : ∃ elt gens scope pos, e = .ListComp elt gens scope pos)
    (h : wpAny (model prog w) A (pyNext it) (fun r s₁ => match r with
      | none => R (.ok .next) s₁
      | some v => wpAny (model prog w) A (assign target env v) (fun _ s₂ => wpAny (model prog w) A (testsT ifs env) (fun ok s₃ =>
            if ok = true then wpAny (model prog w) A inner (fun _ s₄ => codeAny (model prog w) A (.compLoop e d it acc env) R s₄) (notedBy (model prog w) A env fun e s' => R (.error e) s') s₃
            else codeAny (model prog w) A (.compLoop e d it acc env) R s₃) (notedBy (model prog w) A env fun e s' => R (.error e) s') s₂) (notedBy (model prog w) A env fun e s' => R (.error e) s') s₁) (notedBy (model prog w) A env fun e s' => R (.error e) s') s)
    (ht : ∀ v, letOwnedTupleGo target it v = pure ()) : codeAny (model prog w) A (.compLoop e d it acc env) R s := by
  obtain ⟨elt, gens, scope, pos, rfl⟩ := hle
  refine codeAny_of_tree ?_
  show wpAny _ A ((compTurn (.ListComp elt gens scope pos) d it acc env).onRaise (fun x => do noteFrame x env; theTreesLotGoes x)) _ _ s
  refine wpAny_noted ?_
  rw [heq]
  unfold turnT
  refine wpAny_bind (wpAny_standAt (wpAny_bind (wpAny_mono h (fun r s₁ h₁ => ?_) fun _ _ h' => h')))
  cases r with
  | none => exact wpAny_pure h₁
  | some v =>
    refine wpAny_bind (wpAny_of_eq (ht v) ?_)
    refine wpAny_bind (wpAny_mono h₁ (fun _ s₂ h₂ => wpAny_bind (wpAny_mono h₂ (fun ok s₃ h₃ => ?_) fun _ _ h' => h')) fun _ _ h' => h')
    cases ok with
    | false =>
      simp only [Bool.false_eq_true, if_false] at h₃ ⊢
      exact wpAny_pure (And.intro rfl h₃)
    | true =>
      simp only [if_true] at h₃ ⊢
      exact wpAny_bind (wpAny_mono h₃ (fun _ s₄ h₄ => wpAny_pure (And.intro rfl h₄)) fun _ _ h' => h')

theorem comp_start {elt : Expr} {gens : List Comprehension} {scope : Scope} {pos : Pos} {d : Nat} {g : Comprehension} {it acc : Value} (hg : gens[d]? = some g) (ha : g.is_async = 0)
    (h0 : codeAny (model prog w) A (.compLoop (.ListComp elt gens scope pos) d it acc env) R s)
    (h : wpAny (model prog w) A (pyIter it) (fun it' s' => codeAny (model prog w) A (.compLoop (.ListComp elt gens scope pos) d it' acc env) R s') (notedBy (model prog w) A env fun x s' => R (.error x) s') s) :
    codeAny (model prog w) A (.compStart (.ListComp elt gens scope pos) d it acc env) R s := by
  refine codeAny_of_tree ?_
  show wpAny _ _ ((compStart (.ListComp elt gens scope pos) d it acc env).onRaise (fun x => do noteFrame x env; standAt theWindowsPlace)) _ _ s
  refine wpAny_notedAt ?_
  unfold compStart
  have hc : (clausesOf (.ListComp elt gens scope pos))[d]? = some g := hg
  rw [hc]
  have hf : ((some g).elim false fun x => x.is_async != 0) = false := by simp [ha]
  rw [hf, if_neg Bool.false_ne_true]
  refine wpAny_bind (wpAny_askSetting ?_)
  refine wpAny_ite_split (fun _ => ?_) (fun _ => ?_)
  · exact wpAny_pure (And.intro rfl h0)
  · refine wpAny_bind (wpAny_rule ?_)
    dsimp only
    exact wpAny_bind (wpAny_standAt (wpAny_bind (wpAny_mono h (fun it' s' h' => wpAny_pure (And.intro rfl h')) fun _ _ x => x)))

theorem tests_false {E : Value → Shared → Prop} : ∀ {ifs : List Expr} {s : Shared} {Q : Bool → Shared → Prop}, Q false s →
    wpAny (model prog w) A (forIn ifs false fun c r => if r = true then do let ok ← isTrue c env (eval c env); pure (ForInStep.yield ok) else pure (ForInStep.yield r)) Q E s
  | [], s, Q, h => by rw [List.forIn_nil]; exact wpAny_pure h
  | c :: cs, s, Q, h => by
    rw [List.forIn_cons]
    simp only [Bool.false_eq_true, if_false]
    exact wpAny_bind (wpAny_pure (tests_false h))
theorem snd_tests {r : Rec} (S : SoundR prog w h₀ r n) (hA : AOk n A) (hs : env.scope = sc) : ∀ {ifs : List Expr} {σ σ' : Store} {b : Bool} {Z : ZP} {ρ : List Addr} {s : Shared}, evIfs r sc φ ifs σ = some (b, σ') → Base prog w h₀ Z ρ σ s → Loc Z ρ env φ s →
    SndB prog w h₀ A Z ρ s (testsT ifs env) b σ'
  | [], σ, σ', b, Z, ρ, s, h, B, L => by
    unfold evIfs at h
    cases h
    exact fun E Q k => by unfold testsT; rw [List.forIn_nil]; exact wpAny_pure (k s Z ρ (.refl ..) B)
  | c :: cs, σ, σ', b, Z, ρ, s, h, B, L => by
    intro E Q k
    unfold testsT
    rw [List.forIn_cons]
    simp only [if_true]
    unfold evIfs at h
    split at h
    · rename_i σ₁ h1
      refine wpAny_bind (wpAny_bind (S.tr h1 hA hs B L E _ fun s₁ Z₁ ρ₁ g₁ B₁ => wpAny_pure ?_))
      dsimp only
      have := snd_tests S hA hs h B₁ (L.grow g₁) E Q fun s₂ Z₂ ρ₂ g₂ B₂ => k s₂ Z₂ ρ₂ (g₁.tr B₁ g₂) B₂
      unfold testsT at this
      exact this
    · rename_i σ₁ h1
      cases h
      refine wpAny_bind (wpAny_bind (S.tr h1 hA hs B L E _ fun s₁ Z₁ ρ₁ g₁ B₁ => wpAny_pure ?_))
      dsimp only
      exact tests_false (k s₁ Z₁ ρ₁ g₁ B₁)
    · cases h

/-- the list under way -/
structure Acc (D : Addr) (acc : List PyData) (Z : ZP) (ρ : List Addr) (s : Shared) : Prop where
  own : Own D Z ρ s
  at_ : ∃ vs : List Value, s.heap.PlainList D vs.toArray ∧ VDs Z vs acc
theorem Acc.grow {D : Addr} {acc : List PyData} (x : Acc D acc Z ρ s) (g : Grow X Z ρ s Z' ρ' s') (hX : D ∉ X) : Acc D acc Z' ρ' s' :=
  ⟨x.own.grow g hX, let ⟨vs, ⟨m, ho⟩, hv⟩ := x.at_; ⟨vs, ⟨m, g.old _ _ x.own.r hX ho⟩, hv.mono g.zz⟩⟩

/-- what one emission does -/
def InnerS (prog : Program) (w : World) (h₀ : Heap) (A : Around) (env : Env) (D : Addr) (innerE : Frm → List PyData → Store → Option (Frm × List PyData × Store)) (tree : Sem Unit) : Prop :=
  ∀ {φ acc σ φ' acc' σ'} {Z : ZP} {ρ : List Addr} {s : Shared}, innerE φ acc σ = some (φ', acc', σ') → Base prog w h₀ Z ρ σ s → Loc Z ρ env φ s → Acc D acc Z ρ s →
    ∀ (E : Value → Shared → Prop) (Q : Unit → Shared → Prop), (∀ s' Z' ρ', Grow (D :: envAdrs env) Z ρ s Z' ρ' s' → Base prog w h₀ Z' ρ' σ' s' → Loc Z' ρ' env φ' s' → Acc D acc' Z' ρ' s' → Q () s') → wpAny (model prog w) A tree Q E s

theorem mem_off {I : Addr} {b : Addr} (h : b ∈ [I]) : b = I := List.mem_singleton.mp h

theorem snd_items {r : Rec} (S : SoundR prog w h₀ r n) (hA : AOk n A) (hs : env.scope = sc) {e : Expr} {d : Nat} {x : Str} {px : Pos} {iter : Expr} {ifs : List Expr} {inner : Sem Unit} {I D : Addr} {items : List PyData} {innerE : Frm → List PyData → Store → Option (Frm × List PyData × Store)}
    {φ' : Frm} {acc' : List PyData} {σ' : Store} (heq : compTurn e d (.ref I) (.ref D) env = turnT e d (.Name x px) iter ifs inner (.ref I) (.ref D) env) (hle : ∃ elt gens scope pos, e = .ListComp elt gens scope pos)
    (hin : InnerS prog w h₀ A env D innerE inner) (hIX : I ∉ allAdrs env) (hDX : D ∉ allAdrs env) (hID : I ≠ D) :
    ∀ (rest : List PyData) (i : Nat) {φ : Frm} {acc : List PyData} {σ : Store} {Z : ZP} {ρ : List Addr} {s : Shared}, items.drop i = rest → i ≤ items.length → cItems r sc x ifs innerE rest φ acc σ = some (φ', acc', σ') → Base prog w h₀ Z ρ σ s → Loc Z ρ env φ s → Own I Z ρ s → Itr prog w A Z I items i s.heap → Acc D acc Z ρ s →
      (∀ s' Z' ρ', Grow (I :: D :: envAdrs env) Z ρ s Z' ρ' s' → Base prog w h₀ Z' ρ' σ' s' → Loc Z' ρ' env φ' s' → Acc D acc' Z' ρ' s' → R (.ok .next) s') → codeAny (model prog w) A (.compLoop e d (.ref I) (.ref D) env) R s
  | [], i, φ, acc, σ, Z, ρ, s, hd, hi, h, B, L, O, it, ac, hR => by
    have hin : i = items.length := by
      have := List.drop_eq_nil_iff.mp hd
      omega
    subst hin
    obtain ⟨fp, P, St, W, al, st, hf, hP⟩ := it
    unfold cItems at h
    cases h
    refine comp_step heq hle (W.done s _ _ st fun h' tk hk => ?_) (fun _ => rfl)
    obtain ⟨g, B'⟩ := O.move (tk := tk) B hk
    exact hR _ Z ρ (g.mono fun b hb => by rw [mem_off hb]; exact List.mem_cons_self) B' (L.off hIX g) (ac.grow g fun hm => hID (mem_off hm).symm)
  | v0 :: rest, i, φ, acc, σ, Z, ρ, s, hd, hi, h, B, L, O, it, ac, hR => by
    have hlt : i < items.length := by
      rcases Nat.lt_or_ge i items.length with q | q
      · exact q
      · rw [List.drop_eq_nil_of_le q] at hd; cases hd
    have hat : items[i]? = some v0 := by
      have := congrArg (·[0]?) hd
      simpa using this
    have hd' : items.drop (i + 1) = rest := by
      have := congrArg List.tail hd
      simpa using this
    obtain ⟨fp, P, St, W, al, st, hf, hP⟩ := it
    have hXI : ∀ b ∈ [I], b ∈ I :: D :: envAdrs env := fun b hb => by rw [mem_off hb]; exact List.mem_cons_self
    have hXe : ∀ b ∈ envAdrs env, b ∈ I :: D :: envAdrs env := fun b hb => List.mem_cons_of_mem _ (List.mem_cons_of_mem _ hb)
    have hXd : ∀ b ∈ D :: envAdrs env, b ∈ I :: D :: envAdrs env := fun b hb => List.mem_cons_of_mem _ hb
    have hID' : I ∉ D :: envAdrs env := fun hm => (List.mem_cons.mp hm).elim hID (not_env hIX)
    unfold cItems at h
    refine comp_step heq hle (W.item i s _ _ hlt st fun v h' tk hp st' hk => ?_) (fun _ => rfl)
    obtain ⟨g₁, B₁⟩ := O.move (tk := tk) B hk
    have O₁ : Own I Z ρ { s with heap := h', toks := tk } := ⟨O.z, O.r, al _ _ st'⟩
    have L₁ := L.off hIX g₁
    have ac₁ := ac.grow g₁ fun hm => hID (mem_off hm).symm
    have it₁ : Itr prog w A Z I items (i + 1) ({ s with heap := h', toks := tk } : Shared).heap := ⟨fp, P, St, W, al, st', hf, hP⟩
    have alv : ∀ {Z ρ s φ acc}, Own I Z ρ s → Acc D acc Z ρ s → Loc Z ρ env φ s → ∀ b ∈ I :: D :: envAdrs env, ∃ o, s.heap.get? b = some o := fun O a L b hb => by
      rcases List.mem_cons.mp hb with e | hb
      · exact e ▸ O.a
      · rcases List.mem_cons.mp hb with e | hb
        · exact e ▸ a.own.a
        · exact L.alive b hb
    cases h1 : stN sc φ x (.d v0) with
    | none => rw [h1] at h; cases h
    | some φ₁ =>
      rw [h1] at h
      dsimp only
      refine wpAny_assign_Name (snd_store hs h1 (hP i v v0 hp hat) B₁ L₁ fun s₂ g₂ B₂ L₂ => ?_)
      have O₂ := O₁.grow g₂ (not_env hIX)
      have it₂ := it₁.grow O₁ B₁ g₂ (not_env hIX) B₂
      have ac₂ := ac₁.grow g₂ (not_env hDX)
      have g12 : Grow (I :: D :: envAdrs env) Z ρ s Z ρ s₂ := (g₁.mono hXI).trans B₁ (alv O₁ ac₁ L₁) (g₂.mono hXe)
      simp only at h
      split at h
      · cases h
      · rename_i σ₂ h2
        refine snd_tests S hA hs h2 B₂ L₂ _ _ fun s₃ Z₃ ρ₃ g₃ B₃ => ?_
        simp only [Bool.false_eq_true, if_false]
        have L₃ := L₂.grow g₃
        have O₃ := O₂.grow g₃ (fun h => nomatch h)
        have ac₃ := ac₂.grow g₃ (fun h => nomatch h)
        have it₃ := it₂.grow O₂ B₂ g₃ (fun h => nomatch h) B₃
        exact snd_items S hA hs heq hle hin hIX hDX hID rest (i + 1) hd' hlt h B₃ L₃ O₃ it₃ ac₃ fun s' Z' ρ' g B' L' a' => hR s' Z' ρ' ((g12.trans B₂ (alv O₂ ac₂ L₂) g₃.nil).trans B₃ (alv O₃ ac₃ L₃) g) B' L' a'
      · rename_i σ₂ h2
        refine snd_tests S hA hs h2 B₂ L₂ _ _ fun s₃ Z₃ ρ₃ g₃ B₃ => ?_
        simp only [if_true]
        have L₃ := L₂.grow g₃
        have O₃ := O₂.grow g₃ (fun h => nomatch h)
        have ac₃ := ac₂.grow g₃ (fun h => nomatch h)
        have it₃ := it₂.grow O₂ B₂ g₃ (fun h => nomatch h) B₃
        have g13 := g12.trans B₂ (alv O₂ ac₂ L₂) g₃.nil
        split at h
        · rename_i φ₄ acc₄ σ₄ h4
          refine hin h4 B₃ L₃ ac₃ _ _ fun s₄ Z₄ ρ₄ g₄ B₄ L₄ ac₄ => ?_
          have O₄ := O₃.grow g₄ hID'
          have it₄ := it₃.grow O₃ B₃ g₄ hID' B₄
          exact snd_items S hA hs heq hle hin hIX hDX hID rest (i + 1) hd' hlt h B₄ L₄ O₄ it₄ ac₄ fun s' Z' ρ' g B' L' a' => hR s' Z' ρ' ((g13.trans B₃ (alv O₃ ac₃ L₃) (g₄.mono hXd)).trans B₄ (alv O₄ ac₄ L₄) g) B' L' a'
        · cases h

theorem snd_emit {r : Rec} (S : SoundR prog w h₀ r n) (hA : AOk n A) (hs : env.scope = sc) {elt : Expr} {D : Addr} (hDX : D ∉ allAdrs env) : InnerS prog w h₀ A env D (cEmit r sc elt) (emitT elt (.ref D) env) := by
  intro φ acc σ φ' acc' σ' Z ρ s h B L ac E Q k
  unfold cEmit at h
  split at h
  · rename_i x σ₁ h1
    split at h
    · rename_i hlt
      cases h
      unfold emitT
      refine wpAny_bind (S.ev h1 hA hs B L E _ fun v s₁ Z₁ ρ₁ g₁ B₁ r₁ => ?_)
      have ac₁ := ac.grow g₁ (fun h => nomatch h)
      obtain ⟨vs, hp, hv⟩ := ac₁.at_
      have hl := hv.length
      refine wpAny_bind (wpAny_list_append_plain hp (fun h' hp' hsb => ?_) (by rw [List.size_toArray]; exact lt_sizeLine (by omega)))
      obtain ⟨g₂, B₂⟩ := ac₁.own.move (tk := s₁.toks) B₁ (h' := h') fun b o hb e => (hsb.2 b fun q => hb (by rw [q]; simp)).trans e
      have L₁ := L.grow g₁
      refine wpAny_pure (k _ Z₁ ρ₁ (g₁.nil.trans B₁ ?_ (g₂.mono fun b hb => by rw [mem_off hb]; exact List.mem_cons_self)) B₂ (L₁.off hDX g₂) ⟨⟨ac₁.own.z, ac₁.own.r, ?_⟩, vs ++ [v], by simpa using hp', hv.append (.cons r₁ .nil)⟩)
      · intro b hb
        rcases List.mem_cons.mp hb with e | hb
        · exact e ▸ ac₁.own.a
        · exact L₁.alive b hb
      · obtain ⟨m, ho⟩ := hp'
        exact ⟨_, ho⟩
    · cases h
  · cases h

theorem AOk.mark (hA : AOk n A) : A.mark none = A := by cases A; rfl

theorem folded {iter : Expr} (h : plainIter iter = true) (x : Value) : foldedSetIterable iter env x = pure x := by
  cases iter <;> first | rfl | cases h

theorem snd_inner {r : Rec} (S : SoundR prog w h₀ r n) (hA : AOk n A) (hs : env.scope = sc) {elt target iter iter1 : Expr} {y : Str} {py : Pos} {ifs ifs1 : List Expr} {scope : Scope} {pos : Pos} {D : Addr} (hDX : D ∉ allAdrs env) (hpl : plainIter iter1 = true) :
    InnerS prog w h₀ A env D (cInner r sc elt y iter1 ifs1) (innerT (.ListComp elt [⟨target, iter, ifs, 0⟩, ⟨.Name y py, iter1, ifs1, 0⟩] scope pos) iter1 (.ref D) env) := by
  intro φ acc σ φ' acc' σ' Z ρ s h B L ac E Q k
  unfold cInner at h
  split at h
  · rename_i v σ₁ h1
    split at h
    · rename_i items h2
      unfold innerT
      refine wpAny_bind (S.ev h1 hA hs B L E _ fun u s₁ Z₁ ρ₁ g₁ B₁ r₁ => wpAny_bind (wpAny_standAt ?_))
      refine wpAny_bind (wpAny_of_eq (folded hpl u) ?_)
      have ac₁ := ac.grow g₁ (fun h => nomatch h)
      have L₁ := L.grow g₁
      refine wpAny_bind (wpAny_holding (iter_pv hA.hh h2 B₁ r₁ fun o it => ?_))
      have hk : ∀ b o', s₁.heap.get? b = some o' → (s₁.heap.push o).get? b = some o' := fun b o' e => Heap.get?_push_of_some _ e
      have g₂ : Grow [] Z₁ ρ₁ s₁ Z₁ ρ₁ { s₁ with heap := s₁.heap.push o } := .ext hk (Sh.heap _ _)
      have B₂ : Base prog w h₀ Z₁ ρ₁ σ₁ { s₁ with heap := s₁.heap.push o } := B₁.ext hk
      have L₂ := L₁.grow g₂
      have ac₂ := ac₁.grow g₂ (fun h => nomatch h)
      have hn1 : s₁.heap.get? s₁.heap.objs.size = none := none_size _ (Nat.le_refl _)
      have O₂ : Own s₁.heap.objs.size Z₁ ρ₁ { s₁ with heap := s₁.heap.push o } := Own.new B₁ (let ⟨fp, P, St, W, al, st, _⟩ := it; al _ _ st)
      have hIX : s₁.heap.objs.size ∉ allAdrs env := fun hm => by obtain ⟨o', ho'⟩ := L₁.aliveAll _ hm; rw [hn1] at ho'; cases ho'
      have hID : s₁.heap.objs.size ≠ D := fun e => by obtain ⟨o', ho'⟩ := ac₁.own.a; rw [← e, hn1] at ho'; cases ho'
      refine wpAny_bind (wpAny_runOwn ?_)
      rw [hA.mark]
      have fin : ∀ s' Z' ρ', Grow (s₁.heap.objs.size :: D :: envAdrs env) Z₁ ρ₁ { s₁ with heap := s₁.heap.push o } Z' ρ' s' → Base prog w h₀ Z' ρ' σ' s' → Loc Z' ρ' env φ' s' → Acc D acc' Z' ρ' s' → wpAny (model prog w) A (pure ()) Q E s' := fun s' Z' ρ' g B' L' a' => by
        refine wpAny_pure (k s' Z' ρ' ?_ B' L' a')
        have gg : Grow (s₁.heap.objs.size :: D :: envAdrs env) Z ρ s Z' ρ' s' := by
          refine ((g₁.tr B₁ g₂).nil).trans B₂ (fun b hb => ?_) g
          rcases List.mem_cons.mp hb with e | hb
          · exact e ▸ O₂.a
          · rcases List.mem_cons.mp hb with e | hb
            · exact e ▸ ac₂.own.a
            · exact L₂.alive b hb
        refine gg.trim fun b hb => ?_
        rcases List.mem_cons.mp hb with e | hb
        · subst e; exact .inr (g₁.back0 B₁ hn1)
        · exact .inl hb
      have loop : codeAny (model prog w) A (.compLoop (.ListComp elt [⟨target, iter, ifs, 0⟩, ⟨.Name y py, iter1, ifs1, 0⟩] scope pos) 1 (.ref s₁.heap.objs.size) (.ref D) env)
          (fun r s' => match r with | .ok f => wpAny (model prog w) A (pure ()) Q E s' | .error e => cameBackBy (model prog w) A env E e s') { s₁ with heap := s₁.heap.push o } :=
        snd_items (R := fun r s' => match r with | .ok f => wpAny (model prog w) A (pure ()) Q E s' | .error e => cameBackBy (model prog w) A env E e s') S hA hs (turn_two1 ..) ⟨_, _, _, _, rfl⟩ (snd_emit S hA hs hDX) hIX hDX hID items 0 rfl (Nat.zero_le _) h B₂ L₂ O₂ it ac₂ fin
      refine comp_start rfl rfl loop ?_
      obtain ⟨fp, P, St, W, al, st, _⟩ := it
      exact W.self 0 _ _ _ st loop
    · cases h
  · cases h
end
end Mine
end
section
open PySem PySem.W PyProof.Rows
set_option maxRecDepth 100000
set_option linter.all false
namespace Mine

def clOf (cells : List (Str × Addr)) : List (Str × NameKind) → List (Str × Addr) → List (Str × Addr)
  | [], cs => cs
  | (n, .free) :: r, cs => match cells.lookup n with
    | some c => clOf cells r ((n, c) :: cs)
    | none => clOf cells r cs
  | (_, _) :: r, cs => clOf cells r cs

theorem takes_free : ∀ {names : List (Str × NameKind)} {sc : Scope}, takes sc names = true → ∀ x, (x, NameKind.free) ∈ names → sc.names.lookup x = some .cell ∨ sc.names.lookup x = some .free
  | [], _, _, x, h => nomatch h
  | (n, k) :: r, sc, ht, x, h => by
    have rest : takes sc r = true → (x, NameKind.free) ∈ r → _ := fun a b => takes_free a x b
    cases k with
    | free =>
      unfold takes at ht
      rw [Bool.and_eq_true, Bool.or_eq_true] at ht
      rcases List.mem_cons.mp h with e | h
      · cases e
        exact ht.1.imp (fun q => by simpa using q) (fun q => by simpa using q)
      · exact rest ht.2 h
    | globalExplicit => unfold takes at ht; cases ht
    | _ =>
      unfold takes at ht
      rcases List.mem_cons.mp h with e | h
      · cases e
      · exact rest ht h

theorem clOf_mem {cells : List (Str × Addr)} : ∀ {names : List (Str × NameKind)} {acc : List (Str × Addr)} {x : Str} {c : Addr}, (x, c) ∈ clOf cells names acc ↔ (x, c) ∈ acc ∨ ((x, NameKind.free) ∈ names ∧ cells.lookup x = some c)
  | [], acc, x, c => by simp [clOf]
  | (n, k) :: r, acc, x, c => by
    cases k with
    | free =>
      unfold clOf
      split
      · rename_i c' hc
        rw [clOf_mem, List.mem_cons, List.mem_cons]
        constructor
        · rintro ((q | q) | q)
          · cases q; exact .inr ⟨.inl rfl, hc⟩
          · exact .inl q
          · exact .inr ⟨.inr q.1, q.2⟩
        · rintro (q | ⟨q | q, h⟩)
          · exact .inl (.inr q)
          · cases q; rw [hc] at h; cases h; exact .inl (.inl rfl)
          · exact .inr ⟨q, h⟩
      · rename_i hc
        rw [clOf_mem, List.mem_cons]
        constructor
        · rintro (q | q)
          · exact .inl q
          · exact .inr ⟨.inr q.1, q.2⟩
        · rintro (q | ⟨q | q, h⟩)
          · exact .inl q
          · cases q; rw [hc] at h; cases h
          · exact .inr ⟨q, h⟩
    | _ =>
      unfold clOf
      rw [clOf_mem, List.mem_cons]
      constructor
      · rintro (q | q)
        · exact .inl q
        · exact .inr ⟨.inr q.1, q.2⟩
      · rintro (q | ⟨q | q, h⟩)
        · exact .inl q
        · cases q
        · exact .inr ⟨q, h⟩

theorem clOf_keys {cells : List (Str × Addr)} : ∀ {names : List (Str × NameKind)} {acc : List (Str × Addr)}, (names.map (·.1)).Nodup → (acc.map (·.1)).Nodup → (∀ x ∈ acc.map (·.1), x ∉ names.map (·.1)) → ((clOf cells names acc).map (·.1)).Nodup
  | [], acc, _, h, _ => h
  | (n, k) :: r, acc, hn, ha, hd => by
    obtain ⟨h1, h2⟩ := List.nodup_cons.mp (show (n :: r.map (·.1)).Nodup from hn)
    have rest : ((clOf cells r acc).map (·.1)).Nodup := clOf_keys h2 ha fun x hx hm => hd x hx (List.mem_cons_of_mem _ hm)
    cases k with
    | free =>
      unfold clOf
      split
      · refine clOf_keys h2 (List.nodup_cons.mpr ⟨fun hm => hd n hm List.mem_cons_self, ha⟩) fun x hx => ?_
        rcases List.mem_cons.mp hx with e | hx
        · exact e ▸ h1
        · exact fun hm => hd x hx (List.mem_cons_of_mem _ hm)
      · exact rest
    | _ => unfold clOf; exact rest

theorem cellsFrom_app : ∀ (names : List (Str × NameKind)) (m : Nat) (a b : List (Str × Addr)), cellsFrom m names (a ++ b) = cellsFrom m names a ++ b
  | [], _, _, _ => rfl
  | (n, k) :: r, m, a, b => by
    unfold cellsFrom
    split
    · exact cellsFrom_app r (m + 1) ((n, m) :: a) b
    · exact cellsFrom_app r m a b
theorem cellsFrom_key : ∀ {names : List (Str × NameKind)} {m : Nat} {acc : List (Str × Addr)} {x : Str}, x ∈ (cellsFrom m names acc).map (·.1) ↔ x ∈ acc.map (·.1) ∨ (x, NameKind.cell) ∈ names
  | [], m, acc, x => by simp [cellsFrom]
  | (n, k) :: r, m, acc, x => by
    unfold cellsFrom
    split
    · rename_i hk
      have hk := eq_of_beq hk
      subst hk
      rw [cellsFrom_key, List.map_cons, List.mem_cons, List.mem_cons]
      constructor
      · rintro ((q | q) | q)
        · exact .inr (.inl (by rw [q]))
        · exact .inl q
        · exact .inr (.inr q)
      · rintro (q | q | q)
        · exact .inl (.inr q)
        · exact .inl (.inl (by cases q; rfl))
        · exact .inr q
    · rename_i hk
      rw [cellsFrom_key, List.mem_cons]
      constructor
      · rintro (q | q)
        · exact .inl q
        · exact .inr (.inr q)
      · rintro (q | q | q)
        · exact .inl q
        · cases q; exact absurd rfl hk
        · exact .inr q

theorem lookup_app {α : Type} : ∀ (a b : List (Str × α)) (x : Str), x ∉ a.map (·.1) → (a ++ b).lookup x = b.lookup x
  | [], _, _, _ => rfl
  | (k, v) :: a, b, x, h => by
    rw [List.cons_append, List.lookup_cons]
    have : (x == k) = false := by
      have : x ≠ k := fun e => h (e ▸ List.mem_cons_self)
      simpa using this
    rw [this]
    exact lookup_app a b x fun hm => h (List.mem_cons_of_mem _ hm)
theorem lookup_mem {α : Type} : ∀ {l : List (Str × α)} {x : Str} {c : α}, (l.map (·.1)).Nodup → (x, c) ∈ l → l.lookup x = some c
  | (k, v) :: l, x, c, hn, h => by
    obtain ⟨h1, h2⟩ := List.nodup_cons.mp (show (k :: l.map (·.1)).Nodup from hn)
    rw [List.lookup_cons]
    rcases List.mem_cons.mp h with e | h
    · cases e; simp
    · have : (x == k) = false := by
        have : x ≠ k := fun e => h1 (e ▸ List.mem_map.mpr ⟨_, h, rfl⟩)
        simpa using this
      rw [this]
      exact lookup_mem h2 h
theorem lookup_some {α : Type} : ∀ {l : List (Str × α)} {x : Str}, x ∈ l.map (·.1) → ∃ c, l.lookup x = some c
  | (k, v) :: l, x, h => by
    rw [List.lookup_cons]
    by_cases e : x = k
    · subst e; simp
    · have : (x == k) = false := by simpa using e
      rw [this]
      rcases List.mem_cons.mp h with q | q
      · exact absurd q e
      · exact lookup_some q
theorem celOf_lookup {names : List (Str × NameKind)} : ∀ {cel : List (Str × PV)} {x : Str} {pv : PV}, (celOf names cel).lookup x = some pv → names.lookup x = some .free ∧ cel.lookup x = some pv
  | [], x, pv, h => by simp [celOf] at h
  | (k, v) :: cel, x, pv, h => by
    unfold celOf at h
    rw [List.filter_cons] at h
    split at h
    · rename_i hk
      rw [List.lookup_cons] at h ⊢
      by_cases e : x = k
      · subst e
        simp at h ⊢
        exact ⟨by simpa using hk, h⟩
      · have : (x == k) = false := by simpa using e
        rw [this] at h ⊢
        exact celOf_lookup h
    · rename_i hk
      have ih := celOf_lookup (cel := cel) h
      refine ⟨ih.1, ?_⟩
      rw [List.lookup_cons]
      have : (x == k) = false := by
        have : x ≠ k := fun e => hk (by subst e; simpa using ih.1)
        simpa using this
      rw [this]
      exact ih.2

section
variable {prog : Program} {w : World} {h₀ : Heap} {A : Around} {E : Value → Shared → Prop} {s s' : Shared} {Z Z' : ZP} {ρ ρ' : List Addr} {σ σ' σ'' σ₁ : Store} {env : Env} {φ φ' : Frm} {n : Nat} {X : List Addr} {sc : Scope} {T : Txt} {R : Result → Shared → Prop}

theorem closureFor_eq {scope : Scope} {env : Env} (h : ∀ x, (x, NameKind.free) ∈ scope.names → ∃ c, env.cells.lookup x = some c) : closureFor scope env = pure (clOf env.cells scope.names []) := by
  have key : ∀ (names : List (Str × NameKind)) (acc : List (Str × Addr)), (∀ x, (x, NameKind.free) ∈ names → ∃ c, env.cells.lookup x = some c) →
      (forIn names acc fun p cs => (match p with | (name, kind) => if kind == .free then (do let c ← cellOf env name; pure (ForInStep.yield ((name, c) :: cs))) else pure (ForInStep.yield cs) : Sem (ForInStep (List (Str × Addr))))) = pure (clOf env.cells names acc) := by
    intro names
    induction names with
    | nil => intro acc _; rw [List.forIn_nil]; rfl
    | cons p r ih =>
      obtain ⟨nm, k⟩ := p
      intro acc hx
      rw [List.forIn_cons]
      have hr := fun x hm => hx x (List.mem_cons_of_mem _ hm)
      cases k with
      | free =>
        obtain ⟨c, hc⟩ := hx nm List.mem_cons_self
        unfold clOf
        have e : cellOf env nm = pure c := by unfold cellOf; rw [hc]
        rw [hc]
        dsimp only
        rw [e]
        simp only [beq_self_eq_true, if_true, pure_bind]
        exact ih _ hr
      | _ =>
        unfold clOf
        simp only [pure_bind]
        exact ih _ hr
  unfold closureFor
  have := key scope.names [] h
  simp only [bind_pure]
  exact this

theorem new_comp_env {scope : Scope} {cl : List (Str × Addr)} {Q : Env → Shared → Prop}
    (h : Q { scope, locals := s.heap.objs.size, globals := env.globals, cells := cellsFrom (s.heap.objs.size + 1) scope.names cl, qual := env.qual, func := none, code := env.code, frame := env.frame, builtins := env.builtins }
      { s with heap := pushCells (s.heap.push { cls := .type "dict", data := .dict #[] }) scope.names }) :
    wpAny (model prog w) A (newFunctionEnv scope env.globals cl [] env.qual none .none (some env)) Q E s := by
  simp only [newFunctionEnv, Option.isSome_some, if_true]
  refine wpAny_bind (wpAny_alloc ?_)
  refine wpAny_bind (wpAny_layCells _ (fun name kind cells => by cases hkc : kind == NameKind.cell <;> simp [hkc]) _ _ _ _ ?_)
  rw [show ({ s with heap := s.heap.push { cls := .type "dict", data := .dict #[] } } : Shared).heap.objs.size = s.heap.objs.size + 1 from Heap.size_push ..]
  refine wpAny_bind (wpAny_pure (wpAny_pure ?_))
  exact h
end
end Mine
end
section
open PySem PySem.W PyProof.Rows
set_option maxRecDepth 100000
set_option linter.all false
namespace Mine

section
variable {prog : Program} {w : World} {h₀ : Heap} {A : Around} {E : Value → Shared → Prop} {s s' : Shared} {Z Z' : ZP} {ρ ρ' : List Addr} {σ σ' σ'' σ₁ : Store} {env : Env} {φ φ' : Frm} {n : Nat} {X : List Addr} {sc : Scope} {T : Txt} {R : Result → Shared → Prop}

theorem relabel_eq (scope : Scope) (hs : env.scope = sc) : relabel scope env = relabelS scope sc := by
  subst hs; rfl

theorem relabel_mem {names : List (Str × NameKind)} {sc : Scope} {x : Str} {k : NameKind}
    (h : (x, k) ∈ names.map fun (n, k) => if (k == .free && sc.kind == .function && sc.names.lookup n == some .cell) then (n, .cell) else (n, k)) : (x, k) ∈ names ∨ (k = .cell ∧ (x, NameKind.free) ∈ names) := by
  obtain ⟨⟨n, k0⟩, hm, e⟩ := List.mem_map.mp h
  dsimp only at e
  split at e
  · rename_i hc
    cases e
    rw [Bool.and_eq_true, Bool.and_eq_true] at hc
    have := eq_of_beq hc.1.1
    subst this
    exact .inr ⟨rfl, hm⟩
  · cases e; exact .inl hm

/-- the frame of a comprehension -/
theorem comp_loc {scope : Scope} (hs : env.scope = sc) (hk : scope.kind = .function) (ht : takes sc scope.names = true) (hn : (scope.names.map (·.1)).Nodup) (B : Base prog w h₀ Z ρ σ s) (L : Loc Z ρ env φ s) :
    (∀ b o, s.heap.get? b = some o → (pushCells (s.heap.push { cls := .type "dict", data := .dict #[] }) scope.names).get? b = some o) ∧
    Loc Z ρ { scope := relabel scope env, locals := s.heap.objs.size, globals := env.globals, cells := cellsFrom (s.heap.objs.size + 1) scope.names (clOf env.cells scope.names []), qual := env.qual, func := none, code := env.code, frame := env.frame, builtins := env.builtins }
      ⟨[], celOf scope.names φ.cel, freeN scope.names⟩ { s with heap := pushCells (s.heap.push { cls := .type "dict", data := .dict #[] }) scope.names } ∧
    ∀ c x, (x, c) ∈ cellsFrom (s.heap.objs.size + 1) scope.names (clOf env.cells scope.names []) → (x, c) ∈ env.cells ∨ s.heap.objs.size + 1 ≤ c := by
  have hkeep : ∀ b o, s.heap.get? b = some o → (pushCells (s.heap.push { cls := .type "dict", data := .dict #[] }) scope.names).get? b = some o := fun b o e => pushCells_keeps _ _ b o (Heap.get?_push_of_some _ e)
  have ok := cellsFrom_ok scope.names (s.heap.push { cls := .type "dict", data := .dict #[] }) (s.heap.objs.size + 1) [] ⟨fun _ _ hm => (nomatch hm), List.Pairwise.nil⟩ (by rw [Heap.size_push]; exact Nat.le_refl _)
  rw [Heap.size_push] at ok
  have happ : cellsFrom (s.heap.objs.size + 1) scope.names (clOf env.cells scope.names []) = cellsFrom (s.heap.objs.size + 1) scope.names [] ++ clOf env.cells scope.names [] := cellsFrom_app scope.names _ [] _
  have hcl : ∀ x c, (x, c) ∈ clOf env.cells scope.names [] → (x, NameKind.free) ∈ scope.names ∧ env.cells.lookup x = some c := fun x c h => (clOf_mem.mp h).resolve_left (by simp)
  have hclk : ((clOf env.cells scope.names []).map (·.1)).Nodup := clOf_keys hn List.nodup_nil (by simp)
  have hfree : ∀ x, (x, NameKind.free) ∈ scope.names → ∃ c, env.cells.lookup x = some c := fun x hm => L.ck x (by
    subst hs
    exact takes_free ht x hm)
  have hown : ∀ x, x ∈ (cellsFrom (s.heap.objs.size + 1) scope.names []).map (·.1) → (x, NameKind.cell) ∈ scope.names := fun x h => (cellsFrom_key.mp h).resolve_left (by simp)
  have hdis : ∀ x, (x, NameKind.free) ∈ scope.names → x ∉ (cellsFrom (s.heap.objs.size + 1) scope.names []).map (·.1) := fun x h1 h2 => by
    have a := lookup_mem hn h1
    have b := lookup_mem hn (hown x h2)
    rw [a] at b; cases b
  have hlk : ∀ x c, (x, c) ∈ clOf env.cells scope.names [] → (cellsFrom (s.heap.objs.size + 1) scope.names (clOf env.cells scope.names [])).lookup x = some c := fun x c h => by
    rw [happ, lookup_app _ _ _ (hdis x (hcl x c h).1)]
    exact lookup_mem hclk h
  have hsz : ∀ b, (∃ o, s.heap.get? b = some o) → b < s.heap.objs.size := fun b ⟨o, ho⟩ => Heap.lt_size ho
  have hcase : ∀ x c, (x, c) ∈ cellsFrom (s.heap.objs.size + 1) scope.names (clOf env.cells scope.names []) → ((x, c) ∈ env.cells ∧ env.cells.lookup x = some c) ∨ (x, c) ∈ cellsFrom (s.heap.objs.size + 1) scope.names [] := fun x c h => by
    rw [happ] at h
    rcases List.mem_append.mp h with q | q
    · exact .inr q
    · exact .inl ⟨mem_of_lookup (hcl x c q).2, (hcl x c q).2⟩
  have hfresh : ∀ a, s.heap.objs.size ≤ a → (∀ o, ¬ Z a o) ∧ a ∉ ρ := fun a ha => ⟨B.notZ (none_size _ ha), B.notR (none_size _ ha)⟩
  refine ⟨hkeep, ⟨?_, L.gl, L.bl, ⟨_, (Heap.Ns.new s.heap (.type "dict")).keeps (pushCells_keeps _ _), fun x pv h => by simp at h⟩, fun x pv h => ?_, fun x c h => ?_, fun x h => ?_, hfresh _ (Nat.le_refl _), fun x c h => ?_, ?_, fun x c h hro => ?_, L.cd⟩, fun c x h => ?_⟩
  · exact hk
  · -- ce
    obtain ⟨h1, h2⟩ := celOf_lookup h
    obtain ⟨c, v, a, b, d⟩ := L.ce x pv h2
    have hm : (x, NameKind.free) ∈ scope.names := mem_of_lookup h1
    exact ⟨c, v, hlk x c (clOf_mem.mpr (.inr ⟨hm, a⟩)), b.keeps hkeep, d⟩
  · -- al
    rcases hcase x c h with ⟨q, _⟩ | q
    · obtain ⟨ov, a⟩ := L.al x c q
      exact ⟨ov, a.keeps hkeep⟩
    · exact ⟨none, (ok.empty x c q).1⟩
  · -- ck
    have hmem : ∃ k, (x, k) ∈ (relabel scope env).names ∧ (k = .cell ∨ k = .free) := by
      rcases h with q | q
      · exact ⟨_, mem_of_lookup q, .inl rfl⟩
      · exact ⟨_, mem_of_lookup q, .inr rfl⟩
    obtain ⟨k, hm, hk'⟩ := hmem
    have : (x, NameKind.cell) ∈ scope.names ∨ (x, NameKind.free) ∈ scope.names := by
      rcases relabel_mem (sc := env.scope) hm with q | q
      · rcases hk' with e | e
        · subst e; exact .inl q
        · subst e; exact .inr q
      · exact .inr q.2
    refine lookup_some (cellsFrom_key.mpr ?_)
    rcases this with q | q
    · exact .inr q
    · obtain ⟨c, hc⟩ := hfree x q
      exact .inl (List.mem_map.mpr ⟨(x, c), clOf_mem.mpr (.inr ⟨q, hc⟩), rfl⟩)
  · -- zc
    rcases hcase x c h with ⟨q, _⟩ | q
    · obtain ⟨a, b, _⟩ := L.zc x c q
      refine ⟨a, b, ?_⟩
      obtain ⟨ov, o, ho, _⟩ := L.al x c q
      exact Nat.ne_of_lt (Heap.lt_size ho)
    · have := (ok.empty x c q).2
      obtain ⟨a, b⟩ := hfresh c (Nat.le_of_lt this)
      exact ⟨a, b, Nat.ne_of_gt this⟩
  · -- ap
    show (cellsFrom (s.heap.objs.size + 1) scope.names (clOf env.cells scope.names [])).Pairwise _
    rw [happ, List.pairwise_append]
    refine ⟨ok.apart, ?_, fun a ha b hb e => ?_⟩
    · have hp : (clOf env.cells scope.names []).Pairwise fun a b => a.1 ≠ b.1 := by
        rw [List.Nodup, List.pairwise_map] at hclk
        exact hclk
      refine hp.imp_of_mem fun {a b} ha hb hne e => hne ?_
      exact name_of_addr L.ap (mem_of_lookup (hcl a.1 a.2 ha).2) (e ▸ mem_of_lookup (hcl b.1 b.2 hb).2)
    · have h1 := (ok.empty a.1 a.2 ha).2
      obtain ⟨ov, o, ho, _⟩ := L.al b.1 b.2 (mem_of_lookup (hcl b.1 b.2 hb).2)
      have h2 := Heap.lt_size ho
      rw [← e] at h2
      exact absurd h1 (Nat.not_le.mpr (Nat.lt_succ_of_lt h2))
  · -- wc
    rw [happ] at h
    rcases List.mem_append.mp h with q | q
    · exact (ok.empty x c q).2
    · exact absurd (List.mem_map.mpr ⟨(x, NameKind.free), List.mem_filter.mpr ⟨(hcl x c q).1, by simp⟩, rfl⟩) hro
  · rcases hcase x c h with ⟨q, _⟩ | q
    · exact .inl q
    · exact .inr (ok.empty x c q).2

/-- a comprehension's whole run, up to what is done with its list -/
theorem comp_core {r : Rec} (S : SoundR prog w h₀ r n) (hA : AOk n A) (hs : env.scope = sc) {elt : Expr} {gens : List Comprehension} {scope : Scope} {pos : Pos} {xs : List PyData} {use : Option (Value → Sem Unit)} {Q : Value → Shared → Prop}
    (h : evComp r sc φ elt gens scope σ = some (xs, σ')) (B : Base prog w h₀ Z ρ σ s) (L : Loc Z ρ env φ s)
    (hpost : ∀ D C s' Z' ρ', s.heap.get? D = none → s.heap.get? C = none → D ≠ C → Grow [] Z ρ s Z' ρ' s' → Base prog w h₀ Z' ρ' σ' s' → Acc D xs Z' ρ' s' → Own C Z' ρ' s' → (∃ m, s'.heap.Ns C m) → compPost (model prog w) A E use Q (.ref D) C (.ok .next) s') :
    wpAny (model prog w) A (comprehension (.ListComp elt gens scope pos) scope env (firstIterPos gens pos) (newList []) (firstAsync gens) (firstIter gens env) use) Q E s := by
  have main : ∀ (x : Str) (px : Pos) (iter : Expr) (ifs : List Expr) (gs : List Comprehension) (v : PV) (items : List PyData) (σ₁ : Store) (innerE : Scope → Frm → List PyData → Store → Option (Frm × List PyData × Store)) (innerTr : Env → Value → Sem Unit) (φ' : Frm),
      gens = ⟨.Name x px, iter, ifs, 0⟩ :: gs → plainIter iter = true → scope.kind = .function → takes sc scope.names = true → (scope.names.map (·.1)).Nodup →
      r.ev sc φ iter σ = some (v, σ₁) → pIter v = some items → cItems r (relabelS scope sc) x ifs (innerE (relabelS scope sc)) items ⟨[], celOf scope.names φ.cel, freeN scope.names⟩ [] σ₁ = some (φ', xs, σ') →
      (∀ it acc env', compTurn (.ListComp elt gens scope pos) 0 it acc env' = turnT (.ListComp elt gens scope pos) 0 (.Name x px) iter ifs (innerTr env' acc) it acc env') →
      (∀ env' D, env'.scope = relabelS scope sc → D ∉ allAdrs env' → InnerS prog w h₀ A env' D (innerE (relabelS scope sc)) (innerTr env' (.ref D))) →
      wpAny (model prog w) A (comprehension (.ListComp elt gens scope pos) scope env (firstIterPos gens pos) (newList []) (firstAsync gens) (firstIter gens env) use) Q E s := by
    intro x px iter ifs gs v items σ₁ innerE innerTr φ' hgens hpl hk ht hn h1 h2 h3 heq hinner
    subst hgens
    have hfree : ∀ x, (x, NameKind.free) ∈ scope.names → ∃ c, env.cells.lookup x = some c := fun x hm => L.ck x (by
      subst hs
      exact takes_free ht x hm)
    show wpAny (model prog w) A (comprehension _ scope env _ (newList []) false (eval iter env) use) Q E s
    refine wpAny_comprehension_free (g := ⟨.Name x px, iter, ifs, 0⟩) (gs := gs) rfl (fun y => folded hpl y) (closureFor_eq hfree) hk (fun y hy e => lookup_mem hn (by obtain ⟨a, b⟩ := y; dsimp only at e; subst e; exact hy)) ?_
    refine S.ev h1 hA hs B L E _ fun u s₁ Z₁ ρ₁ g₁ B₁ r₁ => ?_
    have L₁ := L.grow g₁
    refine iter_pv hA.hh h2 B₁ r₁ fun o it => ?_
    have hk2 : ∀ b o', s₁.heap.get? b = some o' → (s₁.heap.push o).get? b = some o' := fun b o' e => Heap.get?_push_of_some _ e
    have hn1 : s₁.heap.get? s₁.heap.objs.size = none := none_size _ (Nat.le_refl _)
    generalize hIe : s₁.heap.objs.size = I at it hn1 ⊢
    have O₂ : Own I Z₁ ρ₁ { s₁ with heap := s₁.heap.push o } := by
      have := Own.new B₁ (o := o) (let ⟨fp, P, St, W, al, st, _⟩ := it; hIe ▸ al _ _ st)
      rw [hIe] at this; exact this
    generalize hs2 : ({ s₁ with heap := s₁.heap.push o } : Shared) = s₂ at O₂ ⊢
    have e2 : s₂.heap = s₁.heap.push o := by rw [← hs2]
    have sh2 : Sh s₁ s₂ := by rw [← hs2]; exact Sh.heap _ _
    have g₂ : Grow [] Z₁ ρ₁ s₁ Z₁ ρ₁ s₂ := .ext (fun b o' e => by rw [e2]; exact hk2 b o' e) sh2
    have B₂ : Base prog w h₀ Z₁ ρ₁ σ₁ s₂ := B₁.ext fun b o' e => by rw [e2]; exact hk2 b o' e
    have L₂ := L₁.grow g₂
    have it₂ : Itr prog w A Z₁ I items 0 s₂.heap := by rw [e2]; exact it
    refine wpAny_newObj_type ?_
    have hn2 : s₂.heap.get? s₂.heap.objs.size = none := none_size _ (Nat.le_refl _)
    generalize hDe : s₂.heap.objs.size = D at hn2 ⊢
    have hD3 : (s₂.heap.push { cls := .type "list", data := .seq ([] : List Value).toArray }).get? D = some { cls := .type "list", dict := none, data := .seq ([] : List Value).toArray, slots := #[] } := by rw [← hDe]; exact Heap.get?_push_size _ rfl
    have hID : I ≠ D := fun e => by obtain ⟨o', ho'⟩ := O₂.a; rw [e, hn2] at ho'; cases ho'
    generalize hs3 : ({ s₂ with heap := s₂.heap.push { cls := .type "list", data := .seq ([] : List Value).toArray } } : Shared) = s₃
    have e3 : s₃.heap = s₂.heap.push { cls := .type "list", data := .seq ([] : List Value).toArray } := by rw [← hs3]
    have hk3 : ∀ b o', s₂.heap.get? b = some o' → s₃.heap.get? b = some o' := fun b o' e => by rw [e3]; exact Heap.get?_push_of_some _ e
    have g₃ : Grow [] Z₁ ρ₁ s₂ Z₁ ρ₁ s₃ := .ext hk3 (by rw [← hs3]; exact Sh.heap _ _)
    have B₃ : Base prog w h₀ Z₁ ρ₁ σ₁ s₃ := B₂.ext hk3
    have L₃ := L₂.grow g₃
    have O₃ := O₂.grow g₃ (fun h => nomatch h)
    have it₃ := it₂.grow O₂ B₂ g₃ (fun h => nomatch h) B₃
    have D₃ : Acc D [] Z₁ ρ₁ s₃ := ⟨⟨B₂.notZ hn2, B₂.notR hn2, ⟨_, by rw [e3]; exact hD3⟩⟩, [], ⟨0, by rw [e3]; exact hD3⟩, .nil⟩
    refine new_comp_env ?_
    obtain ⟨hk4, L₄, hcells⟩ := comp_loc hs hk ht hn B₃ L₃
    have hn3 : s₃.heap.get? s₃.heap.objs.size = none := none_size _ (Nat.le_refl _)
    have hC : ∃ o, (pushCells (s₃.heap.push { cls := .type "dict", data := .dict #[] }) scope.names).get? s₃.heap.objs.size = some o := ⟨_, pushCells_keeps _ _ _ _ (Heap.get?_push_size _ rfl)⟩
    have hbig : ∀ c, s₃.heap.objs.size + 1 ≤ c → s₃.heap.get? c = none := fun c hc => none_size _ (Nat.le_of_lt hc)
    generalize hCe : s₃.heap.objs.size = C at L₄ hcells hn3 hC hbig ⊢
    generalize hs4 : ({ s₃ with heap := pushCells (s₃.heap.push { cls := .type "dict", data := .dict #[] }) scope.names } : Shared) = s₄ at L₄ ⊢
    have e4 : s₄.heap = pushCells (s₃.heap.push { cls := .type "dict", data := .dict #[] }) scope.names := by rw [← hs4]
    rw [← e4] at hk4 hC
    have g₄ : Grow [] Z₁ ρ₁ s₃ Z₁ ρ₁ s₄ := .ext hk4 (by rw [← hs4]; exact Sh.heap _ _)
    have B₄ : Base prog w h₀ Z₁ ρ₁ σ₁ s₄ := B₃.ext hk4
    have O₄ := O₃.grow g₄ (fun h => nomatch h)
    have it₄ := it₃.grow O₃ B₃ g₄ (fun h => nomatch h) B₄
    have D₄ := D₃.grow g₄ (fun h => nomatch h)
    dsimp only
    generalize henv : ({ scope := relabel scope env, locals := C, globals := env.globals, cells := cellsFrom (C + 1) scope.names (clOf env.cells scope.names []), qual := env.qual, func := none, code := env.code, frame := env.frame, builtins := env.builtins } : Env) = env' at L₄ ⊢
    have hsc : env'.scope = relabelS scope sc := by rw [← henv]; exact relabel_eq scope hs
    have hloc : env'.locals = C := by rw [← henv]
    have hcel : ∀ c ∈ allAdrs env', (∃ x, (x, c) ∈ env.cells) ∨ s₃.heap.get? c = none := fun c hc => by
      unfold allAdrs at hc
      rcases List.mem_cons.mp hc with e | hc
      · rw [e, hloc]; exact .inr hn3
      · obtain ⟨⟨x, c'⟩, hm, rfl⟩ := List.mem_map.mp hc
        rw [← henv] at hm
        rcases hcells c' x hm with q | q
        · exact .inl ⟨x, q⟩
        · exact .inr (hbig _ q)
    have off : ∀ b, (∃ o, s₃.heap.get? b = some o) → (∀ x, (x, b) ∉ env.cells) → b ∉ allAdrs env' := fun b ⟨o, ho⟩ hx hm => by
      rcases hcel b hm with ⟨x, q⟩ | q
      · exact hx x q
      · rw [ho] at q; cases q
    have hcellold : ∀ x c, (x, c) ∈ env.cells → ∃ o, s₁.heap.get? c = some o := fun x c hm => let ⟨_, o, ho, _⟩ := L₁.al x c hm; ⟨o, ho⟩
    have hIX : I ∉ allAdrs env' := off I O₃.a fun x hm => by obtain ⟨o', ho'⟩ := hcellold x I hm; rw [hn1] at ho'; cases ho'
    have hDX : D ∉ allAdrs env' := off D D₃.own.a fun x hm => by
      obtain ⟨o', ho'⟩ := hcellold x D hm
      have := g₂.old D o' (fun hr => B₂.notR hn2 hr) (fun h => nomatch h) ho'
      rw [hn2] at this; cases this
    have fin : ∀ s' Z' ρ', Grow (I :: D :: envAdrs env') Z₁ ρ₁ s₄ Z' ρ' s' → Base prog w h₀ Z' ρ' σ' s' → Loc Z' ρ' env' φ' s' → Acc D xs Z' ρ' s' → compPost (model prog w) A E use Q (.ref D) C (.ok .next) s' := fun s' Z' ρ' g B' L' a' => by
      have g04 : Grow [] Z ρ s Z₁ ρ₁ s₄ := ((g₁.tr B₁ g₂).tr B₂ g₃).tr B₃ g₄
      have back : ∀ b, s₃.heap.get? b = none → s.heap.get? b = none := fun b hb => ((g₁.tr B₁ g₂).tr B₂ g₃).back0 B₃ hb
      have hDn : s.heap.get? D = none := (g₁.tr B₁ g₂).back0 B₂ hn2
      refine hpost D C s' Z' ρ' hDn (back C hn3) (fun e => hDX (by rw [e, ← hloc]; exact List.mem_cons_self)) ?_ B' a' ⟨?_, ?_, ?_⟩ ?_
      · have gg : Grow (I :: D :: envAdrs env') Z ρ s Z' ρ' s' := g04.nil.trans B₄ (fun b hb => by
          rcases List.mem_cons.mp hb with e | hb
          · exact e ▸ O₄.a
          · rcases List.mem_cons.mp hb with e | hb
            · exact e ▸ D₄.own.a
            · exact L₄.alive b hb) g
        refine gg.trim fun b hb => .inr ?_
        rcases List.mem_cons.mp hb with e | hb
        · subst e; exact g₁.back0 B₁ hn1
        · rcases List.mem_cons.mp hb with e | hb
          · subst e; exact hDn
          · unfold envAdrs at hb
            rw [hloc] at hb
            rcases List.mem_cons.mp hb with e | hb
            · subst e; exact back _ hn3
            · have := (List.mem_filter.mp hb).2
              rw [decide_eq_true_eq] at this
              exact back _ (hbig _ this)
      · rw [← hloc]; exact L'.zL.1
      · rw [← hloc]; exact L'.zL.2
      · rw [← hloc]; exact L'.alive _ List.mem_cons_self
      · obtain ⟨m, hm, _⟩ := L'.ns
        rw [hloc] at hm
        exact ⟨m, hm⟩
    have loop : codeAny (model prog w) A (.compLoop (.ListComp elt (⟨.Name x px, iter, ifs, 0⟩ :: gs) scope pos) 0 (.ref I) (.ref D) env') (compPost (model prog w) A E use Q (.ref D) C) s₄ :=
      snd_items S hA hsc (heq _ _ _) ⟨_, _, _, _, rfl⟩ (hinner env' D hsc hDX) hIX hDX hID items 0 rfl (Nat.zero_le _) h3 B₄ L₄ O₄ it₄ D₄ fin
    refine comp_start rfl rfl loop ?_
    obtain ⟨fp, P, St, W, al, st, _⟩ := it₄
    exact W.self 0 _ _ _ st loop
  unfold evComp at h
  split at h
  · rename_i x px iter ifs a
    split at h
    · rename_i hc
      obtain ⟨rfl, c1, c2, c3, c4⟩ := hc
      split at h
      · rename_i v σ₁ h1
        split at h
        · rename_i items h2
          split at h
          · rename_i φ' acc σ₂ h3
            cases h
            exact main x px iter ifs [] v items σ₁ (fun sc' => cEmit r sc' elt) (fun env' acc => emitT elt acc env') φ' rfl c1 c2 c3 c4 h1 h2 h3 (fun it acc env' => turn_one ..) (fun env' D he hD => snd_emit S hA he hD)
          · cases h
        · cases h
      · cases h
    · cases h
  · rename_i x px iter ifs a y py iter1 ifs1 a1
    split at h
    · rename_i hc
      obtain ⟨rfl, rfl, c1, c1', c2, c3, c4⟩ := hc
      split at h
      · rename_i v σ₁ h1
        split at h
        · rename_i items h2
          split at h
          · rename_i φ' acc σ₂ h3
            cases h
            exact main x px iter ifs _ v items σ₁ (fun sc' => cInner r sc' elt y iter1 ifs1) (fun env' acc => innerT _ iter1 acc env') φ' rfl c1 c2 c3 c4 h1 h2 h3 (fun it acc env' => turn_two ..) (fun env' D he hD => snd_inner S hA he hD c1')
          · cases h
        · cases h
      · cases h
    · cases h
  · cases h
end
end Mine
end
section
open PySem PySem.W PyProof.Rows
set_option maxRecDepth 100000
set_option linter.all false
namespace Mine

section
variable {prog : Program} {w : World} {h₀ : Heap} {A : Around} {E : Value → Shared → Prop} {s s' : Shared} {Z Z' : ZP} {ρ ρ' : List Addr} {σ σ' σ'' σ₁ : Store} {env : Env} {φ φ' : Frm} {n : Nat} {X : List Addr} {sc : Scope} {T : Txt} {R : Result → Shared → Prop}

theorem compS {r : Rec} (S : SoundR prog w h₀ r n) : CompS prog w h₀ r n := fun {sc φ elt gens scope σ xs σ'} h {A env Z ρ s} pos hA hs B L E Q k => by
  rw [eval_ListComp]
  refine comp_core S hA hs h B L fun D C s' Z' ρ' hD hC hDC g B' a' O' hN => ?_
  obtain ⟨m, hm⟩ := hN
  refine ⟨m, hm, fun h' hsb => ?_⟩
  obtain ⟨g₂, B₂⟩ := O'.move (tk := s'.toks) B' (h' := h') fun b o hb e => (hsb.2 b fun q => hb (by rw [q]; simp)).trans e
  have a₂ := a'.grow g₂ fun hm => hDC (List.mem_singleton.mp hm)
  obtain ⟨vs, hp, hv⟩ := a₂.at_
  have gg : Grow [C] Z ρ s Z' ρ' { s' with heap := h' } := g.nil.trans B' (fun b hb => by rw [List.mem_singleton.mp hb]; exact O'.a) g₂
  exact k D vs _ Z' ρ' (gg.trim fun b hb => .inr (by rw [List.mem_singleton.mp hb]; exact hC)) B₂ hD hp hv a₂.own.z a₂.own.r

/-- a fresh list finds its place: in the store or among what is frozen -/
theorem acc_fix (b : Bool) {D : Addr} {xs : List PyData} (B : Base prog w h₀ Z' ρ' σ' s') (a : Acc D xs Z' ρ' s') (hn : s.heap.get? D = none) (g : Grow X Z ρ s Z' ρ' s') :
    ∃ Z'' ρ'', Grow X Z ρ s Z'' ρ'' s' ∧ Base prog w h₀ Z'' ρ'' (if b then σ' ++ [.list xs] else σ') s' ∧ VR Z'' ρ'' (if b then .ref σ'.length else .d (.list xs)) (.ref D) ∧ ∀ C, Own C Z' ρ' s' → C ≠ D → Own C Z'' ρ'' s' := by
  obtain ⟨vs, ⟨m, ho⟩, hv⟩ := a.at_
  cases b with
  | true =>
    refine ⟨Z', ρ' ++ [D], g.add hn, B.add (po := .list xs) a.own.z a.own.r ⟨vs, ⟨m, ho⟩, hv⟩, ⟨D, by rw [← B.len]; simp, rfl⟩, fun C O hC => ⟨O.z, fun hm => ?_, O.a⟩⟩
    rcases List.mem_append.mp hm with q | q
    · exact O.r q
    · exact hC (List.mem_singleton.mp q)
  | false =>
    refine ⟨ZAdd Z' D { cls := .type "list", data := .seq vs.toArray m }, ρ', g.freeze hn, B.freeze ho a.own.r, VD.list (ZAdd.here _ _ _) rfl rfl (by simpa using hv.mono (ZAdd.sub _ _ _)), fun C O hC => ⟨fun o h => h.elim (O.z o) fun q => hC q.1, O.r, O.a⟩⟩

theorem swaps_comp (elt : Expr) (gens : List Comprehension) (scope : Scope) (p px pos : Pos) (x : Str) (env : Env) : swapsWith (.ListComp elt gens scope p) (some (.Name x px)) pos.line env = pure true ∨ swapsWith (.ListComp elt gens scope p) (some (.Name x px)) pos.line env = pure false := by
  have h : ∃ b, swapsWith (.ListComp elt gens scope p) (some (.Name x px)) pos.line env = pure b := ⟨_, rfl⟩
  obtain ⟨b, h⟩ := h
  cases b
  · exact .inr h
  · exact .inl h

theorem snd_assign_comp {r : Rec} (S : SoundR prog w h₀ r n) (hA : AOk n A) (hs : env.scope = sc) {x : Str} {px p pos : Pos} {elt : Expr} {gens : List Comprehension} {scope : Scope} {xs : List PyData} (b : Bool)
    (h1 : evComp r sc φ elt gens scope σ = some (xs, σ₁)) (h2 : stN sc φ x (if b then .ref σ₁.length else .d (.list xs)) = some φ') (B : Base prog w h₀ Z ρ σ s) (L : Loc Z ρ env φ s) :
    SndF prog w h₀ A env Z ρ s (exec (.Assign [.Name x px] (.ListComp elt gens scope p) pos) env) .nxt φ' (if b then σ₁ ++ [.list xs] else σ₁) := fun E Q k => by
  rcases swaps_comp elt gens scope p px pos x env with hsw | hsw
  · rw [exec_Assign_Name_used _ _ _ _ hsw]
    refine wpAny_bind (wpAny_standAt (wpAny_bind ?_))
    show wpAny _ A (do let _ ← comprehension (.ListComp elt gens scope p) scope env (firstIterPos gens p) (newList []) (firstAsync gens) (firstIter gens env) (some (assign (.Name x px) env))) _ _ s
    refine wpAny_bind (wpAny_mono (comp_core (use := some (assign (.Name x px) env)) (Q := fun _ s' => Q .next s') S hA hs h1 B L fun D C s' Z' ρ' hD hC hDC g B' a' O' hN => ?_) (fun _ s' hq => wpAny_pure (wpAny_pure hq)) fun _ _ e => e)
    obtain ⟨m, hm⟩ := hN
    obtain ⟨Z'', ρ'', g₁, B₁, hv, hO⟩ := acc_fix b B' a' hD g
    have L₁ := L.grow g₁
    have O₁ := hO C O' (Ne.symm hDC)
    have hCX : C ∉ allAdrs env := fun hm' => by obtain ⟨o, ho⟩ := L.aliveAll C hm'; rw [hC] at ho; cases ho
    show wpAny _ A (assign (.Name x px) env (.ref D)) _ _ _
    refine wpAny_assign_Name (snd_store hs h2 hv B₁ L₁ fun s₂ g₂ B₂ L₂ => ?_)
    have O₂ := O₁.grow g₂ (not_env hCX)
    have hm2 : s₂.heap.Ns C m := hm.at' fun o e => g₂.old C o O₁.r (not_env hCX) e
    refine ⟨m, hm2, fun h' hsb => ?_⟩
    obtain ⟨g₃, B₃⟩ := O₂.move (tk := s₂.toks) B₂ (h' := h') fun b o hb e => (hsb.2 b fun q => hb (by rw [q]; simp)).trans e
    have L₃ := L₂.off hCX g₃
    have gg : Grow (C :: envAdrs env) Z ρ s Z'' ρ'' { s₂ with heap := h' } := ((g₁.nil (Y := C :: envAdrs env)).trans B₁ (fun b hb => (List.mem_cons.mp hb).elim (fun e => e ▸ O₁.a) (L₁.alive b)) (g₂.mono fun b hb => List.mem_cons_of_mem _ hb)).trans B₂ (fun b hb => (List.mem_cons.mp hb).elim (fun e => e ▸ O₂.a) (L₂.alive b)) (g₃.mono fun b hb => by rw [List.mem_singleton.mp hb]; exact List.mem_cons_self)
    exact k .next _ Z'' ρ'' (gg.trim fun b hb => (List.mem_cons.mp hb).elim (fun e => .inr (by rw [e]; exact hC)) .inl) B₃ L₃ rfl
  · refine wpAny_Assign_Name ?_ hsw
    refine compS S h1 p hA hs B L E _ fun D vs s₁ Z₁ ρ₁ g₁ B₁ hD hp hv hz hr => ?_
    obtain ⟨mm, ho⟩ := id hp
    obtain ⟨Z₂, ρ₂, g₂, B₂, hv₂, _⟩ := acc_fix b B₁ ⟨⟨hz, hr, ⟨_, ho⟩⟩, vs, hp, hv⟩ hD g₁
    have L₂ := L.grow g₂
    refine snd_store hs h2 hv₂ B₂ L₂ fun s₃ g₃ B₃ L₃ => ?_
    exact k .next s₃ Z₂ ρ₂ (g₂.nil.trans B₂ L₂.alive g₃) B₃ L₃ rfl

theorem swaps_plain {value : Expr} (hp : plainVal value = true) (t : Option Expr) (ln : Nat) : swapsWith value t ln env = pure false := by
  cases value <;> first | rfl | cases hp

theorem snd_assign_name {r : Rec} (S : SoundR prog w h₀ r n) (hA : AOk n A) (hs : env.scope = sc) {x : Str} {px pos : Pos} {value : Expr} {v : PV} (hp : plainVal value = true)
    (h1 : r.ev sc φ value σ = some (v, σ')) (h2 : stN sc φ x v = some φ') (B : Base prog w h₀ Z ρ σ s) (L : Loc Z ρ env φ s) :
    SndF prog w h₀ A env Z ρ s (exec (.Assign [.Name x px] value pos) env) .nxt φ' σ' := fun E Q k => by
  refine wpAny_Assign_Name ?_ (swaps_plain hp _ _)
  refine S.ev h1 hA hs B L E _ fun u s₁ Z₁ ρ₁ g₁ B₁ r₁ => ?_
  have L₁ := L.grow g₁
  refine snd_store hs h2 r₁ B₁ L₁ fun s₂ g₂ B₂ L₂ => ?_
  exact k .next s₂ Z₁ ρ₁ (g₁.nil.trans B₁ L₁.alive g₂) B₂ L₂ rfl

theorem snd_assign_new {r : Rec} (S : SoundR prog w h₀ r n) (hA : AOk n A) (hs : env.scope = sc) {x : Str} {px pos : Pos} {value : Expr} {xs : List PyData} (hp : plainVal value = true)
    (h1 : evNew r sc φ value σ = some (xs, σ₁)) (h2 : stN sc φ x (.ref σ₁.length) = some φ') (B : Base prog w h₀ Z ρ σ s) (L : Loc Z ρ env φ s) :
    SndF prog w h₀ A env Z ρ s (exec (.Assign [.Name x px] value pos) env) .nxt φ' (σ₁ ++ [.list xs]) := fun E Q k => by
  refine wpAny_Assign_Name ?_ (swaps_plain hp _ _)
  refine snd_new S (compS S) hA hs h1 B L E _ fun D vs s₁ Z₁ ρ₁ g₁ B₁ hD hpl hv hz hr => ?_
  obtain ⟨mm, ho⟩ := id hpl
  obtain ⟨Z₂, ρ₂, g₂, B₂, hv₂, _⟩ := acc_fix true B₁ ⟨⟨hz, hr, ⟨_, ho⟩⟩, vs, hpl, hv⟩ hD g₁
  have L₂ := L.grow g₂
  refine snd_store hs h2 hv₂ B₂ L₂ fun s₃ g₃ B₃ L₃ => ?_
  exact k .next s₃ Z₂ ρ₂ (g₂.nil.trans B₂ L₂.alive g₃) B₃ L₃ rfl

/-- stores into names, one by one -/
theorem snd_stAll (hs : env.scope = sc) : ∀ {xs : List Str} {ts : List Expr} {ds : List PyData} {vs : List Value} {φ φ' : Frm} {s : Shared}, namesOf ts = some xs → stAll sc xs ds φ = some φ' → VDs Z vs ds → Base prog w h₀ Z ρ σ s → Loc Z ρ env φ s →
    ∀ {E : Value → Shared → Prop} {Q : Unit → Shared → Prop}, (∀ s', Grow (envAdrs env) Z ρ s Z ρ s' → Base prog w h₀ Z ρ σ s' → Loc Z ρ env φ' s' → Q () s') → wpAny (model prog w) A (assignInOrder ((assignEach ts env).map (·.2)) vs) Q E s
  | [], ts, ds, vs, φ, φ', s, hn, h, hv, B, L, E, Q, k => by
    cases ts with
    | nil =>
      cases ds with
      | nil =>
        unfold stAll at h
        cases h
        cases hv
        exact wpAny_assignInOrder_none (k s (.refl ..) B L)
      | cons d ds => unfold stAll at h; cases h
    | cons t ts =>
      cases t <;> first
        | (unfold namesOf at hn; cases hn)
        | (unfold namesOf at hn; obtain ⟨a, _, e⟩ := map_pair hn; cases e)
  | x :: xs, ts, ds, vs, φ, φ', s, hn, h, hv, B, L, E, Q, k => by
    cases ts with
    | nil => unfold namesOf at hn; cases hn
    | cons t ts =>
      have ht : ∃ p, t = .Name x p ∧ namesOf ts = some xs := by
        cases t <;> first
          | (unfold namesOf at hn; obtain ⟨a, h1, e⟩ := map_pair hn; cases e; exact ⟨_, rfl, h1⟩)
          | (unfold namesOf at hn; cases hn)
      obtain ⟨p, rfl, hn'⟩ := ht
      cases ds with
      | nil => unfold stAll at h; cases h
      | cons d ds =>
        unfold stAll at h
        cases hv with
        | cons hd hds =>
          cases q : stN sc φ x (.d d) with
          | none => rw [q] at h; cases h
          | some φ₁ =>
            rw [q] at h
            show wpAny _ _ (assignInOrder (assign (.Name x p) env :: (assignEach ts env).map (·.2)) _) _ _ _
            refine wpAny_assignInOrder_more (wpAny_assign_Name (snd_store hs q hd B L fun s₁ g₁ B₁ L₁ => ?_))
            exact snd_stAll hs hn' h hds B₁ L₁ fun s₂ g₂ B₂ L₂ => k s₂ (g₁.trans B₁ L₁.alive g₂) B₂ L₂

theorem names_each : ∀ {ts : List Expr} {xs : List Str}, namesOf ts = some xs → (assignEach ts env).length = xs.length ∧ (assignEach ts env).findIdx? (·.1) = none
  | [], xs, h => by unfold namesOf at h; cases h; exact ⟨rfl, rfl⟩
  | t :: ts, xs, h => by
    have ht : ∃ x p ys, t = .Name x p ∧ namesOf ts = some ys ∧ xs = x :: ys := by
      cases t <;> first
        | (unfold namesOf at h; obtain ⟨a, h1, e⟩ := map_pair h; cases e; exact ⟨_, _, _, rfl, h1, rfl⟩)
        | (unfold namesOf at h; cases h)
    obtain ⟨x, p, ys, rfl, h1, rfl⟩ := ht
    obtain ⟨a, b⟩ := names_each h1
    constructor
    · show (assignEach ts env).length + 1 = _
      rw [a, List.length_cons]
    · show ((false, assign (.Name x p) env) :: assignEach ts env).findIdx? (·.1) = none
      rw [List.findIdx?_cons, b]; rfl

theorem stAll_len : ∀ {xs : List Str} {ds : List PyData} {φ φ' : Frm}, stAll sc xs ds φ = some φ' → xs.length = ds.length
  | [], [], _, _, _ => rfl
  | [], _ :: _, _, _, h => by unfold stAll at h; cases h
  | _ :: _, [], _, _, h => by unfold stAll at h; cases h
  | x :: xs, d :: ds, φ, φ', h => by
    unfold stAll at h
    split at h
    · rw [List.length_cons, List.length_cons, stAll_len h]
    · cases h

theorem snd_assign_tuple {r : Rec} (S : SoundR prog w h₀ r n) (hA : AOk n A) (hs : env.scope = sc) {ts : List Expr} {kk : Nat} {tpos pos : Pos} {value : Expr} {xs : List Str} {ds : List PyData} (hp : plainVal value = true) (hnt : noTup value = true)
    (hn : namesOf ts = some xs) (h1 : r.ev sc φ value σ = some (.d (.tuple ds), σ')) (h2 : stAll sc xs ds φ = some φ') (B : Base prog w h₀ Z ρ σ s) (L : Loc Z ρ env φ s) :
    SndF prog w h₀ A env Z ρ s (exec (.Assign [.Tuple ts kk tpos] value pos) env) .nxt φ' σ' := fun E Q k => by
  refine Assign_Tuple ?_ (by show swapsWith value (some (.Tuple ts kk tpos)) pos.line env = _; exact swaps_plain hp _ _) (by cases value <;> first | rfl | cases hnt)
  refine S.ev h1 hA hs B L E _ fun u s₁ Z₁ ρ₁ g₁ B₁ r₁ => ?_
  have L₁ := L.grow g₁
  cases r₁ with
  | tuple ha hc hd hv =>
    rename_i a o vs m
    have hT : s₁.heap.IsTuple a vs := ⟨o, B₁.keep _ _ ha, hc, m, hd⟩
    obtain ⟨q1, q2⟩ := names_each (env := env) hn
    have hl := hv.length
    rw [Array.length_toList] at hl
    refine wpAny_assign_Tuple hA.hh hT (by rw [q1, stAll_len h2, hl]) q2 fun h' heb => ?_
    have hk : ∀ b o', s₁.heap.get? b = some o' → h'.get? b = some o' := fun b o' e => heb b o' (Nat.ne_of_lt (Heap.lt_size e)) e
    have g₂ : Grow [] Z₁ ρ₁ s₁ Z₁ ρ₁ { s₁ with heap := h' } := .ext hk (Sh.heap _ _)
    have B₂ : Base prog w h₀ Z₁ ρ₁ σ' { s₁ with heap := h' } := B₁.ext hk
    have L₂ := L₁.grow g₂
    refine snd_stAll hs hn h2 hv B₂ L₂ fun s₃ g₃ B₃ L₃ => ?_
    exact k .next s₃ Z₁ ρ₁ (((g₁.tr B₁ g₂).nil).trans B₂ L₂.alive g₃) B₃ L₃ rfl

theorem Loc.congr (L : Loc Z ρ env φ s) (h1 : ∀ x, φ'.loc.lookup x = φ.loc.lookup x) (h2 : ∀ x, φ'.cel.lookup x = φ.cel.lookup x) (h3 : φ'.ro = φ.ro) : Loc Z ρ env φ' s :=
  ⟨L.hk, L.gl, L.bl, let ⟨m, hn, hm⟩ := L.ns; ⟨m, hn, fun x pv h => hm x pv (by rw [← h1]; exact h)⟩, fun x pv h => L.ce x pv (by rw [← h2]; exact h), L.al, L.ck, L.zL, L.zc, L.ap, fun x c hc hr => L.wc x c hc (by rw [← h3]; exact hr), L.cd⟩

theorem stN_look {x : Str} {pv : PV} (h : stN sc φ x pv = some φ') : (∀ y, y ≠ x → φ'.loc.lookup y = φ.loc.lookup y ∧ φ'.cel.lookup y = φ.cel.lookup y) ∧ φ'.ro = φ.ro ∧
    ((sc.names.lookup x = some .local ∧ φ'.loc.lookup x = some pv ∧ φ'.cel = φ.cel) ∨ (sc.names.lookup x = some .cell ∧ φ'.cel.lookup x = some pv ∧ φ'.loc = φ.loc ∧ φ.ro.contains x = false)) := by
  unfold stN at h
  split at h
  · rename_i hk
    cases h
    exact ⟨fun y hy => ⟨by dsimp only; rw [putL_lookup, if_neg hy], rfl⟩, rfl, .inl ⟨hk, by dsimp only; rw [putL_lookup, if_pos rfl], rfl⟩⟩
  · rename_i hk
    split at h
    · cases h
    · rename_i hro
      cases h
      exact ⟨fun y hy => ⟨rfl, by dsimp only; rw [putL_lookup, if_neg hy]⟩, rfl, .inr ⟨hk, by dsimp only; rw [putL_lookup, if_pos rfl], rfl, by simpa using hro⟩⟩
  · cases h
theorem stN_swap {x y : Str} {u v : PV} {φ₁ φ₂ : Frm} (hxy : x ≠ y) (h1 : stN sc φ x u = some φ₁) (h2 : stN sc φ₁ y v = some φ₂) :
    ∃ φ₃ φ₄, stN sc φ y v = some φ₃ ∧ stN sc φ₃ x u = some φ₄ ∧ (∀ z, φ₂.loc.lookup z = φ₄.loc.lookup z) ∧ (∀ z, φ₂.cel.lookup z = φ₄.cel.lookup z) ∧ φ₂.ro = φ₄.ro := by
  obtain ⟨a1, a2, a3⟩ := stN_look h1
  have hro : φ₁.ro = φ.ro := a2
  have e3 : ∃ φ₃, stN sc φ y v = some φ₃ := by
    unfold stN at h2 ⊢
    split at h2
    · exact ⟨_, rfl⟩
    · rw [hro] at h2
      split at h2
      · cases h2
      · rename_i q
        rw [if_neg q]; exact ⟨_, rfl⟩
    · cases h2
  obtain ⟨φ₃, h3⟩ := e3
  obtain ⟨c1, c2, c3⟩ := stN_look h3
  have e4 : ∃ φ₄, stN sc φ₃ x u = some φ₄ := by
    unfold stN at h1 ⊢
    split at h1
    · exact ⟨_, rfl⟩
    · rw [c2]
      split at h1
      · cases h1
      · rename_i q
        rw [if_neg q]; exact ⟨_, rfl⟩
    · cases h1
  obtain ⟨φ₄, h4⟩ := e4
  obtain ⟨d1, d2, d3⟩ := stN_look h4
  obtain ⟨b1, b2, b3⟩ := stN_look h2
  refine ⟨φ₃, φ₄, h3, h4, fun z => ?_, fun z => ?_, by rw [b2, a2, d2, c2]⟩
  · by_cases hz : z = x
    · subst hz
      rw [(b1 z hxy).1]
      rcases a3 with ⟨k1, k2, _⟩ | ⟨k1, _, k2, _⟩ <;> rcases d3 with ⟨l1, l2, _⟩ | ⟨l1, _, l2, _⟩
      · rw [k2, l2]
      · rw [k1] at l1; cases l1
      · rw [k1] at l1; cases l1
      · rw [k2, l2, (c1 z hxy).1]
    · rw [(d1 z hz).1]
      by_cases hz2 : z = y
      · subst hz2
        rcases b3 with ⟨k1, k2, _⟩ | ⟨k1, _, k2, _⟩ <;> rcases c3 with ⟨l1, l2, _⟩ | ⟨l1, _, l2, _⟩
        · rw [k2, l2]
        · rw [k1] at l1; cases l1
        · rw [k1] at l1; cases l1
        · rw [k2, l2, (a1 z hz).1]
      · rw [(b1 z hz2).1, (a1 z hz).1, (c1 z hz2).1]
  · by_cases hz : z = x
    · subst hz
      rw [(b1 z hxy).2]
      rcases a3 with ⟨k1, _, k2⟩ | ⟨k1, k2, _, _⟩ <;> rcases d3 with ⟨l1, _, l2⟩ | ⟨l1, l2, _, _⟩
      · rw [k2, l2, (c1 z hxy).2]
      · rw [k1] at l1; cases l1
      · rw [k1] at l1; cases l1
      · rw [k2, l2]
    · rw [(d1 z hz).2]
      by_cases hz2 : z = y
      · subst hz2
        rcases b3 with ⟨k1, _, k2⟩ | ⟨k1, k2, _, _⟩ <;> rcases c3 with ⟨l1, _, l2⟩ | ⟨l1, l2, _, _⟩
        · rw [k2, l2, (a1 z hz).2]
        · rw [k1] at l1; cases l1
        · rw [k1] at l1; cases l1
        · rw [k2, l2]
      · rw [(b1 z hz2).2, (a1 z hz).2, (c1 z hz2).2]
end
end Mine
end
section
open PySem PySem.W PyProof.Rows
set_option maxRecDepth 100000
set_option linter.all false
namespace Mine

section
variable {prog : Program} {w : World} {h₀ : Heap} {A : Around} {E : Value → Shared → Prop} {s s' : Shared} {Z Z' : ZP} {ρ ρ' : List Addr} {σ σ' σ'' σ₁ : Store} {env : Env} {φ φ' : Frm} {n : Nat} {X : List Addr} {sc : Scope} {T : Txt} {R : Result → Shared → Prop}

theorem swapped_two {x y a b : Str} {px py p q tpos : Pos} {k r' : Nat} {vpos : Pos} (hk : env.scope.kind = .function) (ha : (a == ("__debug__" : Str)) = false) (hb : (b == ("__debug__" : Str)) = false)
    (hx : env.kindOf x = some .local) (hy : env.kindOf y = some .local) (hl : (py.line == px.line) = true) (hxy : (x == y) = false) :
    swappedStores [.Tuple [.Name x px, .Name y py] k tpos] (.Tuple [.Name a p, .Name b q] r' vpos) env = pure (some [x, y]) := by
  have hbk : env.blockKind = .function := by unfold Env.blockKind; rw [hk]; rfl
  unfold swappedStores
  dsimp only
  rw [hbk]
  have hl' : py.line = px.line := by simpa using hl
  have hxy' : ¬ x = y := by simpa using hxy
  have hd : [x, y].eraseDups = [x, y] := by
    simp [List.eraseDups_cons, Ne.symm hxy']
  have hc : constantsAlone 8 (.Name a p) = false := ha
  have hc2 : foldedForSure 8 (.Name a p) = false := rfl
  simp [hx, hy, hl', Expr.pos, hc, hc2, hd]
theorem setItem_plain {l : Addr} {items : Array Value} {k : Int} {t : Tok} {v : Value} {Q : Unit → Shared → Prop} (hl : s.heap.PlainList l items) (h0 : 0 ≤ k) (hfit : k < 2 ^ 63) (hn : k < items.size)
    (hQ : ∀ h', h'.PlainList l (items.setIfInBounds k.toNat v) → Heap.SameBut l s.heap h' → Q () { s with heap := h' }) : wpAny (model prog w) A (setItem (.ref l) (.int k t) v) Q E s := by
  obtain ⟨e, ho⟩ := id hl
  have hT : s.TypeIs (.ref l) "list" := ⟨_, ho, rfl⟩
  have hj : k.toNat < items.size := by omega
  have hjk : ((k.toNat : Nat) : Int) = k := Int.toNat_of_nonneg h0
  have done := get?_update_seq (c := "list") (h := s.heap) (a := l) (xs := items) (n := e) ho (·.setIfInBounds k.toNat v)
  unfold setItem
  refine wpAny_holding (wpAny_bind (wpAny_sequenceKey hT (by decide) (wpAny_bind (wpAny_callSpecial?_slot (name := Str.ofString "__setitem__") hT slot_list_setitem
    (wpAny_call_entry slot_list_setitem hT entry_list_setitem ?_ (args_list_setitem _ _ _))))))
  show wpAny _ _ (Builtin.List.listSubscript? (.int k t) >>= _) _ _ s
  refine wpAny_bind (wpAny_listSubscript_int (fitsIndex_of h0 hfit) ?_)
  rw [← hjk]
  show wpAny _ _ ((seqItemAt l k.toNat >>= fun r => pure (r.map (k.toNat, ·))) >>= _) _ _ s
  refine wpAny_bind (wpAny_bind (wpAny_seqItemAt ho rfl (wpAny_pure ?_)))
  rw [Array.getElem?_eq_getElem hj]
  show wpAny _ _ (setSeqItemAt l k.toNat v >>= _) _ _ s
  refine wpAny_bind (wpAny_setSeqItemAt ho rfl (wpAny_pure ⟨.none, rfl, wpAny_pure (hQ _ ⟨_, done⟩ (Heap.SameBut.update ..))⟩))

theorem snd_assign_two {r : Rec} (S : SoundR prog w h₀ r n) (hA : AOk n A) (hs : env.scope = sc) {x y a b : Str} {px py p q tpos pos vpos : Pos} {kk r' : Nat} {u v : PyData} {φ₁ : Frm} (hxy : (x == y) = false) (hx : sc.names.lookup x = some .local) (hy : sc.names.lookup y = some .local) (hl : (py.line == px.line) = true)
    (ha : (a == ("__debug__" : Str)) = false) (hb : (b == ("__debug__" : Str)) = false) (h1 : r.ev sc φ (.Tuple [.Name a p, .Name b q] r' vpos) σ = some (.d (.tuple [u, v]), σ')) (h2 : stN sc φ x (.d u) = some φ₁) (h3 : stN sc φ₁ y (.d v) = some φ')
    (B : Base prog w h₀ Z ρ σ s) (L : Loc Z ρ env φ s) : SndF prog w h₀ A env Z ρ s (exec (.Assign [.Tuple [.Name x px, .Name y py] kk tpos] (.Tuple [.Name a p, .Name b q] r' vpos) pos) env) .nxt φ' σ' := fun E Q k => by
  have hxy' : x ≠ y := by simpa using hxy
  obtain ⟨φ₃, φ₄, e3, e4, c1, c2, c3⟩ := stN_swap hxy' h2 h3
  refine Assign_Tuple_swapped ?_ rfl (swapped_two L.hk ha hb (by rw [← hs] at hx; exact hx) (by rw [← hs] at hy; exact hy) hl hxy)
  refine S.ev h1 hA hs B L E _ fun t s₁ Z₁ ρ₁ g₁ B₁ r₁ => ?_
  have L₁ := L.grow g₁
  cases r₁ with
  | tuple ha hc hd hv =>
    rename_i ad o vs m
    have hT : s₁.heap.IsTuple ad vs := ⟨o, B₁.keep _ _ ha, hc, m, hd⟩
    have hlen := hv.length
    rw [Array.length_toList] at hlen
    have hlen' : vs.size = [x, y].length := hlen
    rw [← hlen']
    refine wpAny_unpackItems_tuple hA.hh hT fun h' heb => ?_
    have hk : ∀ b o', s₁.heap.get? b = some o' → h'.get? b = some o' := fun b o' e => heb b o' (Nat.ne_of_lt (Heap.lt_size e)) e
    have g₂ : Grow [] Z₁ ρ₁ s₁ Z₁ ρ₁ { s₁ with heap := h' } := .ext hk (Sh.heap _ _)
    have B₂ : Base prog w h₀ Z₁ ρ₁ σ' { s₁ with heap := h' } := B₁.ext hk
    have L₂ := L₁.grow g₂
    generalize vs.toList = vl at hv
    cases hv with
    | cons hu hv =>
      cases hv with
      | cons hv hnil =>
        cases hnil
        refine wpAny_assignInOrder_more (wpAny_bindName (snd_store hs e3 hv B₂ L₂ fun s₃ g₃ B₃ L₃ => ?_))
        refine wpAny_assignInOrder_more (wpAny_bindName (snd_store hs e4 hu B₃ L₃ fun s₄ g₄ B₄ L₄ => ?_))
        refine wpAny_assignInOrder_none ?_
        exact k .next s₄ Z₁ ρ₁ ((((g₁.tr B₁ g₂).nil).trans B₂ L₂.alive g₃).trans B₃ L₃.alive g₄) B₄ (L₄.congr c1 c2 c3) rfl

theorem set_put {es : List (Int × PV)} {i : Int} {pv : PV} {v : Value} (hv : VR Z ρ pv v) : ∀ {vs : List Value}, All2 (VR Z ρ) (es.map (·.2)) vs → (es.map (·.1)).Nodup → ∃ vs', stored ((es.map (·.1)).zip vs) i v = ((putD es i pv).map (·.1)).zip vs' ∧ All2 (VR Z ρ) ((putD es i pv).map (·.2)) vs' := by
  have notin : ∀ {es : List (Int × PV)} {vs : List Value}, All2 (VR Z ρ) (es.map (·.2)) vs → i ∉ es.map (·.1) → putD es i pv = es ++ [(i, pv)] ∧ ((es.map (·.1)).zip vs).any (fun kv => kv.1 = i) = false := by
    intro es
    induction es with
    | nil => intro vs h _; cases h; exact ⟨rfl, rfl⟩
    | cons p es ih =>
      obtain ⟨j, u⟩ := p
      intro vs h hn
      cases h with
      | cons h1 h2 =>
        have hj : ¬ j = i := fun e => hn (e ▸ List.mem_cons_self)
        obtain ⟨q1, q2⟩ := ih h2 fun hm => hn (List.mem_cons_of_mem _ hm)
        refine ⟨by unfold putD; rw [if_neg hj, q1]; rfl, ?_⟩
        simp only [List.map_cons, List.zip_cons_cons, List.any_cons, decide_eq_false hj, Bool.false_or]
        exact q2
  have isin : ∀ {es : List (Int × PV)} {vs : List Value}, All2 (VR Z ρ) (es.map (·.2)) vs → i ∈ es.map (·.1) → (es.map (·.1)).Nodup →
      ∃ vs', ((es.map (·.1)).zip vs).map (fun kv => if kv.1 = i then (kv.1, v) else kv) = ((putD es i pv).map (·.1)).zip vs' ∧ All2 (VR Z ρ) ((putD es i pv).map (·.2)) vs' ∧ ((es.map (·.1)).zip vs).any (fun kv => kv.1 = i) = true := by
    intro es
    induction es with
    | nil => intro vs h hm _; cases hm
    | cons p es ih =>
      obtain ⟨j, u⟩ := p
      intro vs h hm hn
      cases h with
      | cons h1 h2 =>
        rename_i b bs
        obtain ⟨n1, n2⟩ := List.nodup_cons.mp (show (j :: es.map (·.1)).Nodup from hn)
        by_cases hj : j = i
        · subst hj
          refine ⟨v :: bs, ?_, ?_, ?_⟩
          · unfold putD
            simp only [if_pos rfl, List.map_cons, List.zip_cons_cons]
            congr 1
            have : ∀ kv ∈ (es.map (·.1)).zip bs, (if kv.1 = j then (kv.1, v) else kv) = kv := fun kv hkv => by
              have hne : ¬ kv.1 = j := fun e => n1 (by rw [← e]; exact (List.of_mem_zip (a := kv.1) (b := kv.2) hkv).1)
              rw [if_neg hne]
            rw [List.map_congr_left this]
            exact List.map_id _
          · unfold putD
            rw [if_pos rfl]
            exact .cons hv h2
          · simp
        · obtain ⟨vs', q1, q2, q3⟩ := ih h2 ((List.mem_cons.mp hm).resolve_left fun e => hj e.symm) n2
          refine ⟨b :: vs', ?_, ?_, ?_⟩
          · unfold putD
            rw [if_neg hj]
            simp only [List.map_cons, List.zip_cons_cons, if_neg hj, q1]
          · unfold putD
            rw [if_neg hj]
            exact .cons h1 q2
          · simp only [List.map_cons, List.zip_cons_cons, List.any_cons, decide_eq_false hj, Bool.false_or]
            exact q3
  intro vs h hn
  unfold stored
  by_cases hm : i ∈ es.map (·.1)
  · obtain ⟨vs', q1, q2, q3⟩ := isin h hm hn
    exact ⟨vs', by rw [if_pos q3]; exact q1, q2⟩
  · obtain ⟨q1, q2⟩ := notin h hm
    refine ⟨vs ++ [v], ?_, ?_⟩
    · rw [if_neg (by rw [q2]; exact Bool.false_ne_true), q1, List.map_append]
      rw [List.zip_append (by have := h.length; rw [List.length_map] at this ⊢; exact this)]
      rfl
    · rw [q1, List.map_append]
      exact h.append (.cons hv .nil)

theorem snd_setAt {o v : PV} {i : Int} {t : Tok} {vo u : Value} (h : setAt o i v σ = some σ') (B : Base prog w h₀ Z ρ σ s) (ho : VR Z ρ o vo) (hu : VR Z ρ v u) {Q : Unit → Shared → Prop}
    (k : ∀ s', Grow [] Z ρ s Z ρ s' → Base prog w h₀ Z ρ σ' s' → Q () s') : wpAny (model prog w) A (setItem vo (.int i t) u) Q E s := by
  unfold setAt at h
  split at h
  · rename_i kk
    obtain ⟨a, hja, rfl⟩ := ho
    split at h
    · rename_i xs hk
      split at h
      · rename_i x
        split at h
        · rename_i hc
          cases h
          obtain ⟨vs, hp, hvs⟩ := B.objs _ a _ hja hk
          have hl := hvs.length
          refine setItem_plain hp hc.1 (by omega) (by rw [List.size_toArray]; omega) fun h' hp' hsb => ?_
          have hor : OR prog w Z ρ h' a (.list (xs.set i.toNat x)) := ⟨vs.set i.toNat u, by simpa using hp', hvs.set _ hu⟩
          obtain ⟨g, B'⟩ := change_fin (tk := s.toks) B hja hk (fun q => nomatch q) hsb hor
          exact k _ g B'
        · cases h
      · cases h
    · rename_i es hk
      split at h
      · rename_i hlt
        cases h
        obtain ⟨hsm, vs, hd, hvv⟩ := B.objs _ a _ hja hk
        have hz := zip_len hvv
        have hnd : (es.map (·.1)).Nodup := by
          obtain ⟨_, _, _, _, _, _, _, _, hn⟩ := hd
          rwa [List.map_fst_zip (by have := hvv.length; rw [List.length_map] at this ⊢; omega)] at hn
        obtain ⟨vs', e1, e2⟩ := set_put (i := i) hu hvv hnd
        refine wpAny_setItem_pairs (knd := intKind prog w) (k := i) (by simp [intKind, Value.isInt]) hd (fun h' hd' hsb => ?_) (by rw [hz]; exact lt_sizeLine (by omega))
        rw [e1] at hd'
        have hor : OR prog w Z ρ h' a (.dict (putD es i v)) := ⟨hsm, vs', hd', e2⟩
        obtain ⟨g, B'⟩ := change_fin (tk := s.toks + 1) B hja hk (fun q => nomatch q) hsb hor
        exact k _ g B'
      · cases h
    · cases h
  · cases h

theorem tryStmt_plain {body : Sem Flow} {hs : List ExceptHandler} {Q : Flow → Shared → Prop} (h : ∀ E, wpAny (model prog w) A body (fun f s₁ => f = .next ∧ Q .next s₁) E s) : wpAny (model prog w) A (tryStmt false body hs (execs [] env) [] env) Q E s := by
  unfold tryStmt
  simp only [List.isEmpty_nil, if_true]
  refine wpAny_bind (wpAny_attempt (wpAny_mono (h fun _ _ => False) (fun f s₁ h₁ => ?_) fun _ _ hf => hf.elim))
  obtain ⟨rfl, hq⟩ := h₁
  exact wpAny_execs_nil hq
end
end Mine
end
section
open PySem PySem.W PyProof.Rows
set_option maxRecDepth 100000
set_option linter.all false
namespace Mine

section
variable {prog : Program} {w : World} {h₀ : Heap} {A : Around} {E : Value → Shared → Prop} {s s' : Shared} {Z Z' : ZP} {ρ ρ' : List Addr} {σ σ' σ'' σ₁ : Store} {env : Env} {φ φ' : Frm} {n : Nat} {X : List Addr} {sc : Scope} {T : Txt} {R : Result → Shared → Prop}

theorem snd_forS {r : Rec} (S : SoundR prog w h₀ r n) (hA : AOk n A) (hs : env.scope = sc) {x : Str} {px pos : Pos} {iter : Expr} {body : List Stmt} {v : PV} {items : List PyData} {σ₂ : Store} {f : Fl} (hpl : plainIter iter = true)
    (h1 : r.ev sc φ iter σ = some (v, σ₁)) (h2 : forItems v σ₁ = some (items, σ₂)) (h3 : eFor r sc x body items φ σ₂ = some (f, φ', σ')) (B : Base prog w h₀ Z ρ σ s) (L : Loc Z ρ env φ s) :
    SndF prog w h₀ A env Z ρ s (exec (.For (.Name x px) iter body [] pos) env) f φ' σ' := fun E Q k => by
  refine wpAny_For ?_ (folded hpl)
  refine S.ev h1 hA hs B L E _ fun u s₁ Z₁ ρ₁ g₁ B₁ r₁ => ?_
  refine iter_for hA.hh h2 B₁ r₁ fun Z₂ o g₂ B₂ it => ?_
  have hn1 : s₁.heap.get? s₁.heap.objs.size = none := none_size _ (Nat.le_refl _)
  have L₂ := (L.grow g₁).grow g₂
  have hk : ∀ b o', s₁.heap.get? b = some o' → (s₁.heap.push o).get? b = some o' := fun b o' e => Heap.get?_push_of_some _ e
  have g₃ : Grow [] Z₂ ρ₁ s₁ Z₂ ρ₁ { s₁ with heap := s₁.heap.push o } := .ext hk (Sh.heap _ _)
  have B₃ : Base prog w h₀ Z₂ ρ₁ σ₂ { s₁ with heap := s₁.heap.push o } := B₂.ext hk
  have L₃ := L₂.grow g₃
  have O₃ : Own s₁.heap.objs.size Z₂ ρ₁ { s₁ with heap := s₁.heap.push o } := Own.new B₂ (let ⟨fp, P, St, W, al, st, _⟩ := it; al _ _ st)
  have hIX : s₁.heap.objs.size ∉ allAdrs env := fun hm => by obtain ⟨o', ho'⟩ := L₂.aliveAll _ hm; rw [hn1] at ho'; cases ho'
  refine snd_for (R := fun r s' => match r with | .ok f => Q f s' | .error e => cameBackBy (model prog w) A env E e s') S hA hs hIX items 0 rfl (Nat.zero_le _) h3 B₃ L₃ O₃ it fun v s' Z' ρ' g B' L' hf => ?_
  have g03 : Grow [] Z ρ s Z₂ ρ₁ { s₁ with heap := s₁.heap.push o } := (g₁.tr B₁ g₂).tr B₂ g₃
  have gg : Grow (s₁.heap.objs.size :: envAdrs env) Z ρ s Z' ρ' s' := g03.nil.trans B₃ (fun b hb => (List.mem_cons.mp hb).elim (fun e => e ▸ O₃.a) (L₃.alive b)) g
  exact k v s' Z' ρ' (gg.trim fun b hb => (List.mem_cons.mp hb).elim (fun e => .inr (by rw [e]; exact g₁.back0 B₁ hn1)) .inl) B' L' hf

theorem snd_ex {r : Rec} (S : SoundR prog w h₀ r n) (hA : AOk n A) (hs : env.scope = sc) {st : Stmt} {f : Fl} (h : stepEx r sc st φ σ = some (f, φ', σ')) (B : Base prog w h₀ Z ρ σ s) (L : Loc Z ρ env φ s) :
    SndF prog w h₀ A env Z ρ s (exec st env) f φ' σ' := by
  unfold stepEx at h
  split at h
  · -- Assign ListComp
    rename_i x px elt gens scope p pos
    split at h
    · rename_i xs σ₁ h1
      split at h
      · obtain ⟨φ₁, h2, h3⟩ := map_pair h
        cases h3
        exact snd_assign_comp S hA hs true h1 h2 B L
      · obtain ⟨φ₁, h2, h3⟩ := map_pair h
        cases h3
        exact snd_assign_comp S hA hs false h1 h2 B L
    · cases h
  · -- Assign Name
    rename_i x px value pos hnc
    split at h
    · rename_i hp
      split at h
      · split at h
        · rename_i xs σ₁ h1
          obtain ⟨φ₁, h2, h3⟩ := map_pair h
          cases h3
          exact snd_assign_new S hA hs hp h1 h2 B L
        · cases h
      · split at h
        · rename_i v σ₁ h1
          obtain ⟨φ₁, h2, h3⟩ := map_pair h
          cases h3
          exact snd_assign_name S hA hs hp h1 h2 B L
        · cases h
    · cases h
  · -- Assign two
    rename_i x px y py kk tpos a p b q k r' pos
    split at h
    · rename_i hc
      obtain ⟨c1, c2, c3, c4, c5, c6⟩ := hc
      split at h
      · rename_i u v σ₁ h1
        split at h
        · rename_i φ₁ h2
          obtain ⟨φ₂, h3, h4⟩ := map_pair h
          cases h4
          exact snd_assign_two S hA hs c1 c2 c3 c4 c5 c6 h1 h2 h3 B L
        · cases h
      · cases h
    · cases h
  · -- Assign Tuple
    rename_i ts kk tpos value pos hne
    split at h
    · rename_i xs hn
      split at h
      · rename_i hc
        rw [Bool.and_eq_true] at hc
        split at h
        · rename_i ds σ₁ h1
          split at h
          · obtain ⟨φ₂, h3, h4⟩ := map_pair h
            cases h4
            exact snd_assign_tuple S hA hs hc.1 hc.2 hn h1 h3 B L
          · cases h
        · cases h
      · cases h
    · cases h
  · -- Assign Subscript
    rename_i o i spos value pos
    split at h
    · rename_i hp
      split at h
      · cases h
      · split at h
        · rename_i v σ₁ h1
          split at h
          · rename_i ov σ₂ h2
            split at h
            · rename_i kx σ₃ h3
              obtain ⟨σ₄, h4, h5⟩ := map_pair h
              cases h5
              intro E Q k
              refine wpAny_Assign_Subscript ?_ (swaps_plain hp _ _)
              refine S.ev h1 hA hs B L E _ fun u s₁ Z₁ ρ₁ g₁ B₁ r₁ => ?_
              have L₁ := L.grow g₁
              refine S.ev h2 hA hs B₁ L₁ E _ fun vo s₂ Z₂ ρ₂ g₂ B₂ r₂ => ?_
              have L₂ := L₁.grow g₂
              refine S.ev h3 hA hs B₂ L₂ E _ fun vi s₃ Z₃ ρ₃ g₃ B₃ r₃ => ?_
              have L₃ := L₂.grow g₃
              obtain ⟨t, rfl⟩ : ∃ t, vi = .int kx t := by cases r₃; exact ⟨_, rfl⟩
              refine snd_setAt h4 B₃ (r₂.grow g₃) ((r₁.grow g₂).grow g₃) fun s₄ g₄ B₄ => ?_
              exact k .next s₄ Z₃ ρ₃ ((((g₁.tr B₁ g₂).tr B₂ g₃).tr B₃ g₄).nil) B₄ (L₃.grow g₄) rfl
            · cases h
          · cases h
        · cases h
    · cases h
  · -- AugAssign
    rename_i x px value pos
    split at h
    · cases h
    rename_i hxc
    have hx : (x == ("__classdict__" : Str)) = false := Bool.eq_false_iff.mpr hxc
    split at h
    · rename_i a h0
      split at h
      · rename_i b σ₁ h1
        obtain ⟨φ₁, h2, h3⟩ := map_pair h
        cases h3
        intro E Q k
        · obtain ⟨v, hv, hl⟩ := L.load (prog := prog) (w := w) hs h0 hx
          refine wpAny_AugAssign_Name (hl A E _ ?_)
          refine S.ev h1 hA hs B L E _ fun u s₁ Z₁ ρ₁ g₁ B₁ r₁ => ?_
          have L₁ := L.grow g₁
          obtain ⟨t, rfl⟩ : ∃ t, v = .int a t := by cases hv; exact ⟨_, rfl⟩
          obtain ⟨t2, rfl⟩ : ∃ t, u = .int b t := by cases r₁; exact ⟨_, rfl⟩
          refine P.iadd_int ?_
          have g₂ := Grow.tok [] Z₁ ρ₁ s₁ (s₁.toks + 1)
          have B₂ := B₁.tok (s₁.toks + 1)
          have L₂ := L₁.grow g₂
          refine snd_store hs h2 (show VR Z₁ ρ₁ (.d (.int (a + b))) (.int (a + b) s₁.toks) from .int _ _) B₂ L₂ fun s₃ g₃ B₃ L₃ => ?_
          exact k .next s₃ Z₁ ρ₁ (((g₁.tr B₁ g₂).nil).trans B₂ L₂.alive g₃) B₃ L₃ rfl
      · cases h
    · cases h
  · -- If
    split at h
    · rename_i σ₁ h1
      intro E Q k
      refine wpAny_If (S.tr h1 hA hs B L E _ fun s₁ Z₁ ρ₁ g₁ B₁ => ?_)
      simp only [if_true]
      have L₁ := L.grow g₁
      exact snd_exs S hA hs h B₁ L₁ E Q fun v s₂ Z₂ ρ₂ g₂ B₂ L₂ hf => k v s₂ Z₂ ρ₂ (g₁.nil.trans B₁ L₁.alive g₂) B₂ L₂ hf
    · rename_i σ₁ h1
      intro E Q k
      refine wpAny_If (S.tr h1 hA hs B L E _ fun s₁ Z₁ ρ₁ g₁ B₁ => ?_)
      simp only [Bool.false_eq_true, if_false]
      have L₁ := L.grow g₁
      exact snd_exs S hA hs h B₁ L₁ E Q fun v s₂ Z₂ ρ₂ g₂ B₂ L₂ hf => k v s₂ Z₂ ρ₂ (g₁.nil.trans B₁ L₁.alive g₂) B₂ L₂ hf
    · cases h
  · -- While
    intro E Q k
    exact wpAny_While (S.wh h hA hs B L _ fun v s' Z' ρ' g B' L' hf => k v s' Z' ρ' g B' L' hf)
  · -- For
    split at h
    · rename_i hpl
      split at h
      · rename_i v σ₁ h1
        split at h
        · rename_i items σ₂ h2
          exact snd_forS S hA hs hpl h1 h2 h B L
        · cases h
      · cases h
    · cases h
  · -- Return e
    split at h
    · rename_i v σ₁ h1
      cases h
      exact fun E Q k => wpAny_Return_some (S.ev h1 hA hs B L E _ fun u s₁ Z₁ ρ₁ g₁ B₁ r₁ => k (.ret u) s₁ Z₁ ρ₁ g₁.nil B₁ (L.grow g₁) ⟨u, rfl, r₁⟩)
    · cases h
  · -- Return
    cases h
    exact fun E Q k => wpAny_Return_none (k (.ret .none) s Z ρ (.refl ..) B L ⟨_, rfl, .none⟩)
  · -- Break
    cases h
    exact fun E Q k => wpAny_Break (k .brk s Z ρ (.refl ..) B L rfl)
  · -- Pass
    cases h
    exact fun E Q k => wpAny_Pass (k .next s Z ρ (.refl ..) B L rfl)
  · -- Expr
    split at h
    · rename_i σ₁ h1
      cases h
      intro E Q k
      refine wpAny_Expr (S.ev h1 hA hs B L E _ fun u s₁ Z₁ ρ₁ g₁ B₁ r₁ => ?_) (by unfold interactive; rw [L.hk]; rfl) rfl
      cases r₁
      exact k .next s₁ Z₁ ρ₁ g₁.nil B₁ (L.grow g₁) rfl
    · cases h
  · -- Try
    split at h
    · rename_i φ₁ σ₁ h1
      cases h
      intro E Q k
      rw [arm_exec_Try]
      refine wpAny_bind (wpAny_standAt (tryStmt_plain fun E' => ?_))
      exact snd_exs S hA hs h1 B L E' _ fun v s₁ Z₁ ρ₁ g₁ B₁ L₁ hf => ⟨hf, k .next s₁ Z₁ ρ₁ g₁ B₁ L₁ rfl⟩
    · cases h
  · cases h

theorem sound (TT : TOk prog w h₀ T n) (N : Nat) : SoundR prog w h₀ (Mine.R T N) n := by
  induction N with
  | zero =>
    constructor
    · intro _ _ _ _ _ _ h; cases h
    · intro _ _ _ _ _ _ h; cases h
    · intro _ _ _ _ _ _ _ h; cases h
    · intro _ _ _ _ _ _ _ _ h; cases h
  | succ N S =>
    constructor
    · intro sc φ e σ pv σ' h A env Z ρ s hA hs B L
      exact snd_ev S (compS S) TT hA hs h B L
    · intro sc φ e σ b σ' h A env Z ρ s hA hs B L
      exact snd_tr S hA hs h B L
    · intro sc st φ σ f φ' σ' h A env Z ρ s hA hs B L
      exact snd_ex S hA hs h B L
    · intro sc t b φ σ f φ' σ' h A env Z ρ s hA hs B L R hR
      exact snd_wh S hA hs h B L hR
end
end Mine
end
section
open PySem PySem.W PyProof.Rows
set_option maxRecDepth 100000
set_option linter.all false
namespace Mine

/-- a plain function of the text, as it stands in the first heap -/
structure FnOk (h₀ : Heap) (a : Addr) (fd : FuncData) (body : List Stmt) (ig : Bool := false) : Prop where
  at_ : ∃ o, h₀.get? a = some o ∧ o.data = .func fd
  body : fd.body = .stmts body
  clo : fd.closure = []
  gl : fd.globals = mainGlobals
  bl : fd.builtins = builtinsNs
  kind : fd.scope.kind = .function
  co : fd.scope.isCoroutine = false
  gen : fd.scope.isGenerator = ig
  nofree : ∀ x, (x, NameKind.free) ∉ fd.scope.names
  nd : (fd.scope.names.map (·.1)).Nodup
  code : h₀.CodeRec fd.code fd.qualname
  lim : h₀.NoLimit

def frmOf (sc : Scope) (binds : List (Str × PV)) : Frm := ⟨binds.filter fun b => sc.names.lookup b.1 == some .local, binds.filter fun b => sc.names.lookup b.1 == some .cell, []⟩

theorem filter_lookup {sc : Scope} {k : NameKind} : ∀ {l : List (Str × PV)} {x : Str} {pv : PV}, (l.filter fun b => sc.names.lookup b.1 == some k).lookup x = some pv → sc.names.lookup x = some k ∧ l.lookup x = some pv
  | [], x, pv, h => by simp at h
  | (n, v) :: l, x, pv, h => by
    rw [List.filter_cons] at h
    split at h
    · rename_i hk
      rw [List.lookup_cons] at h ⊢
      by_cases e : x = n
      · subst e
        simp at h ⊢
        exact ⟨by simpa using hk, h⟩
      · have : (x == n) = false := by simpa using e
        rw [this] at h ⊢
        exact filter_lookup h
    · rename_i hk
      have ih := filter_lookup (l := l) h
      refine ⟨ih.1, ?_⟩
      rw [List.lookup_cons]
      have : (x == n) = false := by
        have : x ≠ n := fun e => hk (by subst e; simpa using ih.1)
        simpa using this
      rw [this]; exact ih.2

theorem bindL_at {k : Str → Option NameKind} : ∀ {binds : List (Str × Value)} {m : Str → Option Value} {x : Str} {v : Value}, (binds.map (·.1)).Nodup → k x = some .local → binds.lookup x = some v → bindL k binds m x = some v
  | (n, u) :: r, m, x, v, hn, hk, h => by
    obtain ⟨h1, h2⟩ := List.nodup_cons.mp (show (n :: r.map (·.1)).Nodup from hn)
    have keep : ∀ {r : List (Str × Value)} {m : Str → Option Value}, x ∉ r.map (·.1) → bindL k r m x = m x := by
      intro r
      induction r with
      | nil => intro m _; rfl
      | cons p r ih =>
        obtain ⟨n', u'⟩ := p
        intro m hx
        unfold bindL
        rw [ih fun hm => hx (List.mem_cons_of_mem _ hm)]
        have hne : x ≠ n' := fun e => hx (e ▸ List.mem_cons_self)
        split
        · exact if_neg hne
        · rfl
    unfold bindL
    rw [List.lookup_cons] at h
    by_cases e : x = n
    · subst e
      simp at h
      rw [keep h1, if_pos hk, if_pos rfl, h]
    · have : (x == n) = false := by simpa using e
      rw [this] at h
      exact bindL_at h2 hk h
theorem bindC_at {k : Str → Option NameKind} : ∀ {binds : List (Str × Value)} {m : Str → Option Value} {x : Str} {v : Value}, (binds.map (·.1)).Nodup → k x = some .cell → binds.lookup x = some v → bindC k binds m x = some v
  | (n, u) :: r, m, x, v, hn, hk, h => by
    obtain ⟨h1, h2⟩ := List.nodup_cons.mp (show (n :: r.map (·.1)).Nodup from hn)
    have keep : ∀ {r : List (Str × Value)} {m : Str → Option Value}, x ∉ r.map (·.1) → bindC k r m x = m x := by
      intro r
      induction r with
      | nil => intro m _; rfl
      | cons p r ih =>
        obtain ⟨n', u'⟩ := p
        intro m hx
        unfold bindC
        rw [ih fun hm => hx (List.mem_cons_of_mem _ hm)]
        have hne : x ≠ n' := fun e => hx (e ▸ List.mem_cons_self)
        split
        · rfl
        · exact if_neg hne
    unfold bindC
    rw [List.lookup_cons] at h
    by_cases e : x = n
    · subst e
      simp at h
      rw [keep h1, if_neg (by rw [hk]; decide), if_pos rfl, h]
    · have : (x == n) = false := by simpa using e
      rw [this] at h
      exact bindC_at h2 hk h

theorem all2_lookup {Z : ZP} {ρ : List Addr} : ∀ {names : List Str} {pvs : List PV} {vs : List Value} {x : Str} {pv : PV}, All2 (VR Z ρ) pvs vs → (names.zip pvs).lookup x = some pv → ∃ v, (names.zip vs).lookup x = some v ∧ VR Z ρ pv v
  | [], _, _, x, pv, _, h => by simp at h
  | n :: names, [], _, x, pv, _, h => by simp at h
  | n :: names, p :: pvs, _, x, pv, .cons (b := v) (bs := vs) h1 h2, h => by
    rw [List.zip_cons_cons, List.lookup_cons] at h ⊢
    by_cases e : x = n
    · subst e
      simp at h ⊢
      subst h; exact h1
    · have : (x == n) = false := by simpa using e
      rw [this] at h ⊢
      exact all2_lookup h2 h

theorem cellsFrom_nodup : ∀ {names : List (Str × NameKind)} {m : Nat} {acc : List (Str × Addr)}, (names.map (·.1)).Nodup → (acc.map (·.1)).Nodup → (∀ x ∈ acc.map (·.1), x ∉ names.map (·.1)) → ((cellsFrom m names acc).map (·.1)).Nodup
  | [], m, acc, _, h, _ => h
  | (n, k) :: r, m, acc, hn, ha, hd => by
    obtain ⟨h1, h2⟩ := List.nodup_cons.mp (show (n :: r.map (·.1)).Nodup from hn)
    unfold cellsFrom
    split
    · refine cellsFrom_nodup h2 (List.nodup_cons.mpr ⟨fun hm => hd n hm List.mem_cons_self, ha⟩) fun x hx => ?_
      rcases List.mem_cons.mp hx with e | hx
      · exact e ▸ h1
      · exact fun hm => hd x hx (List.mem_cons_of_mem _ hm)
    · exact cellsFrom_nodup h2 ha fun x hx hm => hd x hx (List.mem_cons_of_mem _ hm)

/-- what a body's end gives back -/
def retV : Fl → Option PV
  | .ret pv => some pv
  | .nxt => some (.d .none)
  | _ => none

section
variable {prog : Program} {w : World} {h₀ : Heap} {A : Around} {E : Value → Shared → Prop} {s s' : Shared} {Z Z' : ZP} {ρ ρ' : List Addr} {σ σ' σ'' σ₁ : Store} {env : Env} {φ φ' : Frm} {n : Nat} {X : List Addr} {sc : Scope} {T : Txt} {R : Result → Shared → Prop}

/-- a function's frame at its start -/
theorem entry_loc {a : Addr} {fd : FuncData} {body : List Stmt} {ig : Bool} (F : FnOk h₀ a fd body ig) {names : List Str} {pvs : List PV} {vals : List Value} (hnn : names.Nodup) (hlen : names.length = vals.length) (B : Base prog w h₀ Z ρ σ s) (hv : All2 (VR Z ρ) pvs vals)
    (x : InCallC s (callEnvC fd s.heap.objs.size a).locals (bindL (callEnvC fd s.heap.objs.size a).kindOf (names.zip vals) fun _ => none) (callEnvC fd s.heap.objs.size a).cells (bindC (callEnvC fd s.heap.objs.size a).kindOf (names.zip vals) fun _ => none) s') :
    Grow [] Z ρ s Z ρ s' ∧ Base prog w h₀ Z ρ σ s' ∧ Loc Z ρ (callEnvC fd s.heap.objs.size a) (frmOf fd.scope (names.zip pvs)) s' ∧ ∀ b ∈ envAdrs (callEnvC fd s.heap.objs.size a), s.heap.get? b = none := by
  have hkeep := x.toInCall.keep
  obtain ⟨h1, tk, hs⟩ := x.toInCall.same
  have g : Grow [] Z ρ s Z ρ s' := .ext hkeep (by rw [hs]; exact Sh.heap _ _)
  have B' : Base prog w h₀ Z ρ σ s' := B.ext hkeep
  have hfresh : ∀ b, s.heap.objs.size ≤ b → (∀ o, ¬ Z b o) ∧ b ∉ ρ := fun b hb => ⟨B.notZ (none_size _ hb), B.notR (none_size _ hb)⟩
  have hloc : (callEnvC fd s.heap.objs.size a).locals = s.heap.objs.size := rfl
  have hcl : (callEnvC fd s.heap.objs.size a).cells = cellsFrom (s.heap.objs.size + 1) fd.scope.names [] := rfl
  have hsc : (callEnvC fd s.heap.objs.size a).scope = fd.scope := rfl
  have hbn : ((names.zip vals).map (·.1)).Nodup := by rw [List.map_fst_zip (by omega)]; exact hnn
  have hck : ((cellsFrom (s.heap.objs.size + 1) fd.scope.names []).map (·.1)).Nodup := cellsFrom_nodup F.nd List.nodup_nil (by simp)
  refine ⟨g, B', ⟨F.kind, F.gl, F.bl, ⟨_, x.toInCall.ns, fun y pv h => ?_⟩, fun y pv h => ?_, fun y c h => ?_, fun y h => ?_, hfresh _ (Nat.le_refl _), fun y c h => ?_, x.apart, fun y c h _ => x.above y c h, ?_⟩, fun b hb => ?_⟩
  · obtain ⟨q1, q2⟩ := filter_lookup h
    obtain ⟨v, e1, e2⟩ := all2_lookup hv q2
    exact ⟨v, bindL_at hbn q1 e1, e2⟩
  · obtain ⟨q1, q2⟩ := filter_lookup h
    obtain ⟨v, e1, e2⟩ := all2_lookup hv q2
    obtain ⟨c, hc⟩ := lookup_some (l := cellsFrom (s.heap.objs.size + 1) fd.scope.names []) (cellsFrom_key.mpr (.inr (mem_of_lookup q1)))
    have := x.cell y c hc
    rw [bindC_at hbn q1 e1] at this
    exact ⟨c, v, hc, this, e2⟩
  · exact ⟨_, x.cell y c (lookup_mem hck h)⟩
  · rcases h with h | h
    · exact lookup_some (l := cellsFrom (s.heap.objs.size + 1) fd.scope.names []) (cellsFrom_key.mpr (.inr (mem_of_lookup h)))
    · exact absurd (mem_of_lookup h) (F.nofree y)
  · have := x.above y c h
    obtain ⟨p, q⟩ := hfresh c (Nat.le_of_lt this)
    exact ⟨p, q, Nat.ne_of_gt this⟩
  · obtain ⟨c, o, vs, t, e, ho, hd, _⟩ := F.code
    exact .inr ⟨c, o, vs, e, B.old _ _ ho, hd⟩
  · rcases List.mem_cons.mp hb with e | hb
    · rw [e]; exact none_size _ (Nat.le_refl _)
    · have := (List.mem_filter.mp hb).2
      rw [decide_eq_true_eq] at this
      exact none_size _ (Nat.le_of_lt this)

/-- a call of a function, from what its body does -/
theorem call_fn {a : Addr} {fd : FuncData} {body : List Stmt} (F : FnOk h₀ a fd body) (hA : AOk (n + 1) A) {names : List Str} {pvs : List PV} {vals : List Value} (hnn : names.Nodup) (hlen : names.length = vals.length) (B : Base prog w h₀ Z ρ σ s) (hv : All2 (VR Z ρ) pvs vals)
    (hbind : bindArgs fd ⟨vals, []⟩ = pure (names.zip vals)) (hkind : ∀ x ∈ names, fd.scope.names.lookup x = some .local ∨ fd.scope.names.lookup x = some .cell) {pv : PV}
    (hbody : ∀ (env : Env) (s₁ : Shared), env.scope = fd.scope → Base prog w h₀ Z ρ σ s₁ → Loc Z ρ env (frmOf fd.scope (names.zip pvs)) s₁ → (∀ b ∈ envAdrs env, s.heap.get? b = none) →
      ∀ (E : Value → Shared → Prop) (Q : Flow → Shared → Prop), (∀ f s' Z' ρ', Grow (envAdrs env) Z ρ s₁ Z' ρ' s' → Base prog w h₀ Z' ρ' σ' s' → VR Z' ρ' pv (match f with | .ret v => v | _ => .none) → Q f s') → wpAny (model prog w) (A.deeper env) (execs body env) Q E s₁) :
    SndV prog w h₀ A Z ρ s (call (.ref a) vals) pv σ' := fun E Q k => by
  obtain ⟨o, ho, hd⟩ := F.at_
  refine wpAny_call (codeAny_call_cells hA.room (B.h0 _ _ ho) hd (F.lim.keeps B.h0) (F.code.keeps B.h0) F.body hbind F.clo (fun y hy => ?_) (fun s₁ x => ?_) F.co F.gen F.kind)
  · have hm : y.1 ∈ names := (List.of_mem_zip (a := y.1) (b := y.2) hy).1
    rcases hkind y.1 hm with q | q
    · exact .inl q
    · refine .inr ⟨q, ?_⟩
      obtain ⟨c, hc⟩ := lookup_some (l := cellsFrom (s.heap.objs.size + 1) fd.scope.names []) (cellsFrom_key.mpr (.inr (mem_of_lookup q)))
      rw [hc]; rfl
  · obtain ⟨g, B₁, L₁, hfr⟩ := entry_loc F hnn hlen B hv x
    refine hbody _ s₁ rfl B₁ L₁ hfr _ _ fun f s' Z' ρ' g' B' r' => ?_
    refine k _ s' Z' ρ' ?_ B' r'
    have gg : Grow (envAdrs (callEnvC fd s.heap.objs.size a)) Z ρ s Z' ρ' s' := g.nil.trans B₁ L₁.alive g'
    exact gg.trim fun b hb => .inr (hfr b hb)

/-- ... when the evaluator says what the body does -/
theorem call_ev {a : Addr} {fd : FuncData} {body : List Stmt} {r : Rec} (S : SoundR prog w h₀ r n) (F : FnOk h₀ a fd body) (hA : AOk (n + 1) A) {names : List Str} {pvs : List PV} {vals : List Value} (hnn : names.Nodup) (hlen : names.length = vals.length) (B : Base prog w h₀ Z ρ σ s) (hv : All2 (VR Z ρ) pvs vals)
    (hbind : bindArgs fd ⟨vals, []⟩ = pure (names.zip vals)) (hkind : ∀ x ∈ names, fd.scope.names.lookup x = some .local ∨ fd.scope.names.lookup x = some .cell) {f : Fl} {φ' : Frm} {pv : PV}
    (hev : exs r fd.scope body (frmOf fd.scope (names.zip pvs)) σ = some (f, φ', σ')) (hf : retV f = some pv) : SndV prog w h₀ A Z ρ s (call (.ref a) vals) pv σ' :=
  call_fn F hA hnn hlen B hv hbind hkind fun env s₁ he B₁ L₁ _ E Q k => snd_exs S (hA.deeper env) he hev B₁ L₁ E Q fun v s' Z' ρ' g B' L' hfl => k v s' Z' ρ' g B' (by
    cases f with
    | nxt => cases hfl; cases hf; exact .none
    | ret p => obtain ⟨u, rfl, hu⟩ := hfl; cases hf; exact hu
    | brk => cases hf
    | cnt => cases hf)

/-- a list in the store that nobody turns any more becomes data -/
theorem SndV.freeze {t : Sem Value} {k : Nat} {xs : List PyData} (h : SndV prog w h₀ A Z ρ s t (.ref k) σ') (hk : σ'[k]? = some (.list xs)) : SndV prog w h₀ A Z ρ s t (.d (.list xs)) (σ'.set k .dead) := fun E Q q =>
  h E Q fun v s' Z' ρ' g B r => by
    obtain ⟨a, ha, rfl⟩ := r
    obtain ⟨vs, ⟨m, ho⟩, hv⟩ := B.objs _ a _ ha hk
    exact q _ s' _ ρ' (g.trans B (fun _ h => nomatch h) (.bury ha)) (B.bury ha ho) (VD.list (ZAdd.here _ _ _) rfl rfl (by simpa using hv.mono (ZAdd.sub _ _ _)))

theorem VR.bury {k : Nat} {a : Addr} {o : Obj} {pv : PV} {v : Value} (h : VR Z ρ pv v) : VR (ZAdd Z a o) ρ pv v := by
  have := VR.mono (l := []) (ZAdd.sub Z a o) h
  rwa [List.append_nil] at this
/-- a frame whose name's list is frozen -/
theorem Loc.melt {x : Str} {k : Nat} {xs : List PyData} (B : Base prog w h₀ Z ρ σ s) (L : Loc Z ρ env φ s) (hx : φ.loc.lookup x = some (.ref k)) (hk : σ[k]? = some (.list xs)) :
    ∃ Z', Grow [] Z ρ s Z' ρ s ∧ Base prog w h₀ Z' ρ (σ.set k .dead) s ∧ Loc Z' ρ env { φ with loc := putL φ.loc x (.d (.list xs)) } s := by
  obtain ⟨m, hn, hm⟩ := L.ns
  obtain ⟨u, hu, a, ha, rfl⟩ := hm x _ hx
  obtain ⟨vs, ⟨e, ho⟩, hv⟩ := B.objs _ a _ ha hk
  have g : Grow [] Z ρ s (ZAdd Z a { cls := .type "list", data := .seq vs.toArray e }) ρ s := .bury ha
  have L' := L.grow g
  refine ⟨_, g, B.bury ha ho, ⟨L'.hk, L'.gl, L'.bl, ?_, L'.ce, L'.al, L'.ck, L'.zL, L'.zc, L'.ap, L'.wc, L'.cd⟩⟩
  obtain ⟨m', hn', hm'⟩ := L'.ns
  refine ⟨m, hn, fun y pv h => ?_⟩
  rw [putL_lookup] at h
  by_cases e2 : y = x
  · rw [if_pos e2] at h
    cases h
    exact ⟨_, by rw [e2]; exact hu, VD.list (ZAdd.here _ _ _) rfl rfl (by simpa using hv.mono (ZAdd.sub _ _ _))⟩
  · rw [if_neg e2] at h
    obtain ⟨v, q1, q2⟩ := hm y pv h
    exact ⟨v, q1, q2.grow g⟩
end
end Mine
end
section
open PySem PySem.W PyProof.Rows
set_option maxRecDepth 100000
set_option linter.all false
namespace Mine

def isDef (n : Str) : Stmt → Option (List Stmt × Scope)
  | .FunctionDef m _ b _ _ _ sc _ _ _ => if m == n then some (b, sc) else none
  | _ => none
def clsOf (n : Str) : Stmt → Option (List Stmt)
  | .ClassDef m _ _ b _ _ _ _ _ _ _ => if m == n then some b else none
  | _ => none
def txtOf (n : String) : List Stmt × Scope := ((PySem.Challenge.pw_ft5022_01.main.body.findSome? (isDef (S n))).getD ([], default))
def txtG (n : String) : List Stmt × Scope := ((((PySem.Challenge.pw_ft5022_01.main.body.findSome? (clsOf (S "Graph"))).getD []).findSome? (isDef (S n))).getD ([], default))

def gvK (x : Str) : Option Value :=
  if x == S "len" then some (.builtin "len") else if x == S "sorted" then some (.builtin "sorted") else if x == S "max" then some (.builtin "max") else if x == S "sum" then some (.builtin "sum")
  else if x == S "range" then some (.type "range") else if x == S "list" then some (.type "list") else if x == S "set" then some (.type "set")
  else if x == S "_law_joined" then some (.ref 659) else if x == S "_law_numbers" then some (.ref 645) else if x == S "_law_ties" then some (.ref 652)
  else if x == S "_law_way" then some (.ref 664) else if x == S "_law_greatest" then some (.ref 669) else if x == S "_law_lots" then some (.ref 674)
  else if x == S "_plain_bfs" then some (.ref 35) else if x == S "connected_components" then some (.ref 28) else if x == S "Graph" then some (.ref 632) else if x == S "iter" then some (.builtin "iter")
  else none
def caK (C : Addr) (x : Str) : Option Value :=
  if C == 632 then
    if x == S "add_nodes_from" then some (.ref 489) else if x == S "add_edge" then some (.ref 527)
    else if x == S "graph_attr_dict_factory" then some (.type "dict") else if x == S "node_dict_factory" then some (.type "dict") else if x == S "adjlist_outer_dict_factory" then some (.type "dict")
    else if x == S "adjlist_inner_dict_factory" then some (.type "dict") else if x == S "node_attr_dict_factory" then some (.type "dict") else if x == S "edge_attr_dict_factory" then some (.type "dict")
    else none
  else none
def owK (C : Addr) (x : Str) : Bool := C == 632 && (x == S "graph" || x == S "_node" || x == S "_adj")
def T0 : Txt := ⟨gvK, caK, owK, fun _ _ _ => none⟩

def memT (ties : List PyData) (u v : Int) : Bool := ties.any fun y => PyData.eqv y (.tuple [.int u, .int v])

def retE : List Stmt → Expr
  | [.Return (some e) _] => e
  | _ => .Constant .none 0 default
def boolA : Expr → Nat → Expr
  | .BoolOp _ es _, n => es.getD n (.Constant .none 0 default)
  | e, _ => e

theorem joined_e (n : Nat) (ties : List PyData) (u v : Int) (σ : Store) :
    (R T0 5).ev (txtOf "_law_joined").2 (frmOf (txtOf "_law_joined").2 [(S "ties", .d (.list ties)), (S "u", .d (.int u)), (S "v", .d (.int v))]) (boolA (retE (txtOf "_law_joined").1) 0) σ = some (.d (.bool (memT ties u v)), σ) := by
  kernel_rfl
end Mine
end
section
open PySem PySem.W PyProof.Rows
set_option maxRecDepth 100000
set_option linter.all false
namespace Mine

def fdAt (K : Frag) (a : Addr) : Option FuncData := match K.lookup a with
  | some o => match o.data with
    | .func fd => some fd
    | _ => none
  | none => none
def codeOk (K : Frag) (fd : FuncData) : Bool := match fd.code with
  | .ref c => match K.lookup c with
    | some o => match o.data with
      | .fields vs => match (vs[1]? : Option PySem.Value) with
        | some (PySem.Value.str q _) => q == fd.qualname
        | _ => false
      | _ => false
    | none => false
  | _ => false
/-- everything that FnOk asks, as one test -/
def fnTest (K : Frag) (fd : FuncData) (ig : Bool := false) : Bool :=
  decide (fd.closure = []) && decide (fd.globals = mainGlobals) && decide (fd.builtins = builtinsNs) && decide (fd.scope.kind = .function) && !fd.scope.isCoroutine && (fd.scope.isGenerator == ig) &&
    fd.scope.names.all (fun p => decide (p.2 ≠ .free)) && decide (fd.scope.names.map (·.1)).Nodup && codeOk K fd

theorem fnOk {K : Frag} {h : Heap} {a : Addr} {fd : FuncData} {body : List Stmt} {ig : Bool} (X : K.In h) (hl : h.NoLimit) (e : fdAt K a = some fd) (t : fnTest K fd ig = true) (hb : fd.body = .stmts body) : FnOk h a fd body ig := by
  unfold fdAt at e
  split at e
  · rename_i o ho
    split at e
    · rename_i fd' hd
      cases e
      unfold fnTest at t
      simp only [Bool.and_eq_true, decide_eq_true_eq, Bool.not_eq_true', beq_iff_eq] at t
      obtain ⟨⟨⟨⟨⟨⟨⟨⟨t1, t2⟩, t3⟩, t4⟩, t5⟩, t6⟩, t7⟩, t8⟩, t9⟩ := t
      refine ⟨⟨o, X _ _ ho, hd⟩, hb, t1, t2, t3, t4, t5, t6, fun x hx => ?_, t8, ?_, hl⟩
      · have := List.all_eq_true.mp t7 _ hx
        simp at this
      · unfold codeOk at t9
        split at t9
        · rename_i c hc
          split at t9
          · rename_i oc hoc
            split at t9
            · rename_i vs hvs
              split at t9
              · rename_i q tk hq
                exact ⟨c, oc, vs, tk, hc, X _ _ hoc, hvs, by rw [hq, eq_of_beq t9]⟩
              · cases t9
            · cases t9
          · cases t9
        · cases t9
    · cases e
  · cases e

/-- a call run by the evaluator: what it gives back and the store; fz: the list it gives is nobody's any more -/
def runF (T : Txt) (N : Nat) (fz : Bool) (p : List Stmt × Scope) (names : List Str) (vs : List PV) (σ : Store) : Option (PV × Store) :=
  if names.length = vs.length then
    match exs (R T N) p.2 p.1 (frmOf p.2 (names.zip vs)) σ with
    | some (f, _, σ') => match retV f with
      | some pv => if fz then match pv with
          | .ref k => match σ'[k]? with
            | some (.list xs) => some (.d (.list xs), σ'.set k .dead)
            | _ => none
          | _ => none
        else some (pv, σ')
      | none => none
    | none => none
  else none

section
variable {prog : Program} {w : World} {h₀ : Heap} {A : Around} {s : Shared} {Z : ZP} {ρ : List Addr} {σ σ' : Store} {n : Nat} {T : Txt}

theorem runF_snd {a : Addr} {fd : FuncData} {body : List Stmt} {N : Nat} {fz : Bool} {names : List Str} {pvs : List PV} {vals : List Value} {pv : PV} (TT : TOk prog w h₀ T n) (F : FnOk h₀ a fd body) (hA : AOk (n + 1) A) (hnn : names.Nodup)
    (hbind : ∀ vals : List Value, vals.length = names.length → bindArgs fd ⟨vals, []⟩ = pure (names.zip vals)) (hkind : ∀ x ∈ names, fd.scope.names.lookup x = some .local ∨ fd.scope.names.lookup x = some .cell)
    (h : runF T N fz (body, fd.scope) names pvs σ = some (pv, σ')) (B : Base prog w h₀ Z ρ σ s) (hv : All2 (VR Z ρ) pvs vals) : SndV prog w h₀ A Z ρ s (call (.ref a) vals) pv σ' := by
  unfold runF at h
  split at h
  · rename_i hl
    have hvl := hv.length
    split at h
    · rename_i f φ' σ₁ he
      split at h
      · rename_i pv₁ hr
        have base := call_ev (sound TT N) F hA hnn (by omega) B hv (hbind vals (by omega)) hkind he hr
        split at h
        · split at h
          · rename_i k
            split at h
            · rename_i xs hk
              cases h
              exact base.freeze hk
            · cases h
          · cases h
        · cases h
          exact base
      · cases h
    · cases h
  · cases h
end
end Mine
end
section
open PySem PySem.W PyProof.Rows
set_option maxRecDepth 100000
set_option linter.all false
namespace Mine
section
variable {prog : Program} {w : World} {h₀ : Heap} {A : Around} {E : Value → Shared → Prop} {s s' : Shared} {Z Z' : ZP} {ρ ρ' : List Addr} {σ σ' σ'' σ₁ σb : Store} {env : Env} {φ φ' : Frm} {n : Nat} {X : List Addr} {sc : Scope} {T : Txt} {R : Result → Shared → Prop}

/-- how a call's arguments are bound: the values by name, and the store after it -/
def BindS (prog : Program) (w : World) (h₀ : Heap) (A : Around) (Z : ZP) (ρ : List Addr) (s : Shared) (fd : FuncData) (vals : List Value) (names : List Str) (pvs : List PV) (σb : Store) : Prop :=
  ∀ (E : Value → Shared → Prop) (Q : List (Str × Value) → Shared → Prop), (∀ s' Z' ρ' vs, Grow [] Z ρ s Z' ρ' s' → Base prog w h₀ Z' ρ' σb s' → All2 (VR Z' ρ') pvs vs → names.length = vs.length → Q (names.zip vs) s') → wpAny (model prog w) A.in1 (bindArgs fd ⟨vals, []⟩) Q E s

theorem call_fnB {a : Addr} {fd : FuncData} {body : List Stmt} (F : FnOk h₀ a fd body) (hA : AOk (n + 1) A) {names : List Str} {pvs : List PV} {vals : List Value} (hnn : names.Nodup) (B : Base prog w h₀ Z ρ σ s)
    (hbind : BindS prog w h₀ A Z ρ s fd vals names pvs σb) (hkind : ∀ x ∈ names, fd.scope.names.lookup x = some .local ∨ fd.scope.names.lookup x = some .cell) {pv : PV}
    (hbody : ∀ (env : Env) (s₁ : Shared) (Z₁ : ZP) (ρ₁ : List Addr), env.scope = fd.scope → Base prog w h₀ Z₁ ρ₁ σb s₁ → Loc Z₁ ρ₁ env (frmOf fd.scope (names.zip pvs)) s₁ →
      ∀ (E : Value → Shared → Prop) (Q : Flow → Shared → Prop), (∀ f s' Z' ρ', Grow (envAdrs env) Z₁ ρ₁ s₁ Z' ρ' s' → Base prog w h₀ Z' ρ' σ' s' → VR Z' ρ' pv (match f with | .ret v => v | _ => .none) → Q f s') → wpAny (model prog w) (A.deeper env) (execs body env) Q E s₁) :
    SndV prog w h₀ A Z ρ s (call (.ref a) vals) pv σ' := fun E Q k => by
  obtain ⟨o, ho, hd⟩ := F.at_
  refine wpAny_call (codeAny_call_function hA.room (B.h0 _ _ ho) hd F.co F.gen F.body (F.code.keeps B.h0) ?_)
  refine hbind _ _ fun sb Zb ρb vs gb Bb hv hlen => ?_
  rw [F.clo]
  refine wpAny_newFunctionEnv_cells F.kind (fun y hy => ?_) fun env he s₁ x => ?_
  · have hm : y.1 ∈ names := (List.of_mem_zip (a := y.1) (b := y.2) hy).1
    rcases hkind y.1 hm with q | q
    · exact .inl q
    · refine .inr ⟨q, ?_⟩
      obtain ⟨c, hc⟩ := lookup_some (l := cellsFrom (sb.heap.objs.size + 1) fd.scope.names []) (cellsFrom_key.mpr (.inr (mem_of_lookup q)))
      rw [hc]; rfl
  · subst he
    have x' : InCallC sb (callEnvC fd sb.heap.objs.size a).locals (bindL (callEnvC fd sb.heap.objs.size a).kindOf (names.zip vs) fun _ => none) (callEnvC fd sb.heap.objs.size a).cells (bindC (callEnvC fd sb.heap.objs.size a).kindOf (names.zip vs) fun _ => none) s₁ := x
    obtain ⟨g, B₁, L₁, hfr⟩ := entry_loc F hnn hlen Bb hv x'
    refine ⟨F.lim.keeps B₁.h0, codeAny_func ?_⟩
    refine hbody (callEnvC fd sb.heap.objs.size a) s₁ Zb ρb rfl B₁ L₁ _ _ fun f s' Z' ρ' g' B' r' => ?_
    refine k _ s' Z' ρ' ?_ B' r'
    have gg : Grow (envAdrs (callEnvC fd sb.heap.objs.size a)) Zb ρb sb Z' ρ' s' := g.nil.trans B₁ L₁.alive g'
    have g3 : Grow (envAdrs (callEnvC fd sb.heap.objs.size a)) Zb ρb sb Z' ρ' s' := gg
    exact gb.tr Bb (g3.trim fun b hb => .inr (hfr b hb))

theorem call_evB {a : Addr} {fd : FuncData} {body : List Stmt} {r : Rec} (S : SoundR prog w h₀ r n) (F : FnOk h₀ a fd body) (hA : AOk (n + 1) A) {names : List Str} {pvs : List PV} {vals : List Value} (hnn : names.Nodup) (B : Base prog w h₀ Z ρ σ s)
    (hbind : BindS prog w h₀ A Z ρ s fd vals names pvs σb) (hkind : ∀ x ∈ names, fd.scope.names.lookup x = some .local ∨ fd.scope.names.lookup x = some .cell) {f : Fl} {φ' : Frm} {pv : PV}
    (hev : exs r fd.scope body (frmOf fd.scope (names.zip pvs)) σb = some (f, φ', σ')) (hf : retV f = some pv) : SndV prog w h₀ A Z ρ s (call (.ref a) vals) pv σ' :=
  call_fnB F hA hnn B hbind hkind fun env s₁ Z₁ ρ₁ he B₁ L₁ E Q k => snd_exs S (hA.deeper env) he hev B₁ L₁ E Q fun v s' Z' ρ' g B' L' hfl => k v s' Z' ρ' g B' (by
    cases f with
    | nxt => cases hfl; cases hf; exact .none
    | ret p => obtain ⟨u, rfl, hu⟩ := hfl; cases hf; exact hu
    | brk => cases hf
    | cnt => cases hf)

/-- plain binding -/
theorem bind_plain {fd : FuncData} {vals : List Value} {names : List Str} {pvs : List PV} (B : Base prog w h₀ Z ρ σ s) (hv : All2 (VR Z ρ) pvs vals) (hl : names.length = vals.length) (h : bindArgs fd ⟨vals, []⟩ = pure (names.zip vals)) :
    BindS prog w h₀ A Z ρ s fd vals names pvs σ := fun E Q k => wpAny_of_eq h (k s Z ρ vals (.refl ..) B hv hl)
end
end Mine
end
section
open PySem PySem.W PyProof.Rows Builtin Builtin.ObjectAttr
set_option maxRecDepth 100000
set_option linter.all false
namespace Mine
section
variable {prog : Program} {w : World} {h₀ : Heap} {A : Around} {E : Value → Shared → Prop} {s s' : Shared} {Z Z' : ZP} {ρ ρ' : List Addr} {σ σ' σb : Store} {n : Nat} {K : Frag}

theorem bind_kw {fd : FuncData} {vals : List Value} {names : List Str} {kw : Str} {pvs : List PV} (hold : ∃ a o, sysModules ≤ a ∧ h₀.get? a = some o) (B : Base prog w h₀ Z ρ σ s) (hv : All2 (VR Z ρ) pvs vals) (hl : names.length = vals.length)
    (h : bindArgs fd ⟨vals, []⟩ = (alloc { cls := .type "dict", data := .dict #[] } >>= fun d => pure (names.zip vals ++ [(kw, .ref d)]))) :
    BindS prog w h₀ A Z ρ s fd vals (names ++ [kw]) (pvs ++ [.ref σ.length]) (σ ++ [.dict []]) := fun E Q k => by
  rw [h]
  have hs : s.heap.objs.size ≠ sysModules := by
    obtain ⟨a, o, ha, ho⟩ := hold
    have := Heap.lt_size (B.h0 _ _ ho)
    exact fun e => Nat.not_lt.mpr ha (e ▸ this)
  obtain ⟨Z', ρ', g, B', r⟩ := push_new (tk := s.toks) (po := .dict []) (o := { cls := .type "dict", data := .dict #[] }) B (dict_or s.heap B hs)
  refine wpAny_bind (wpAny_alloc (wpAny_pure ?_))
  have e : names.zip vals ++ [(kw, Value.ref s.heap.objs.size)] = (names ++ [kw]).zip (vals ++ [.ref s.heap.objs.size]) := by rw [List.zip_append hl]; rfl
  rw [e]
  obtain ⟨l, el, _⟩ := g.pre
  refine k _ Z' ρ' _ g B' ?_ (by simp [hl])
  refine All2.append (hv.mono fun _ _ q => ?_) (.cons r .nil)
  rw [el]; exact VR.mono g.zz q

theorem inst_at {x d C : Addr} {o : Obj} (hx : s.heap.get? x = some { cls := .ref C, dict := some d }) (hd : s.heap.get? d = some o) : InstAt s.heap x { cls := .ref C, dict := some d } C (some o) := ⟨hx, rfl, rfl, hd⟩

def plainC (K : Frag) (C : Addr) : Bool := findIn K (.ref C) "__getattribute__" == some (some (.builtin "object.__getattribute__")) && findIn K (.ref C) "__getattr__" == some none && hasDictIn K C
/-- a function of the class -/
def fnTestC (K : Frag) (C : Addr) (name : Str) (f : Addr) : Bool := plainC K C && findIn K (.ref C) name == some (some (.ref f)) && typeIn K (.ref f) == some (.type "function")
/-- dict, as it stands in the class -/
def tyTestC (K : Frag) (C : Addr) (name : Str) : Bool := plainC K C && findIn K (.ref C) name == some (some (.type "dict")) && !copiedNames.contains name
theorem dict_no_get : specialOf (.type "dict") "__get__" = pure none := by
  unfold specialOf
  rw [F.isi_meta_dict]
  show typeLookup (.type "type") "__get__" = pure none
  rw [typeLookup_type, builtinLookup_eq_fast]; kernel_rfl
theorem looks_dict {M : Model} {h : Heap} {x C : Addr} {ox o : Obj} {name : Str} (X : K.In h) (I : InstAt h x ox C (some o)) (hC : hasDictIn K C = true) (ha : findIn K (.ref C) name = some (some (.type "dict"))) (hc : copiedNames.contains name = false) (hn : lookIn name o = some none) :
    Looks M h (find (.ref x) (.ref C) name) (.value (.type "dict")) := by
  obtain ⟨cd, hcd, hd⟩ := any_some hC
  have L1 := looks_findIn (M := M) X ha
  have L2 : Looks M h (getOf (some (.type "dict"))) none := Looks.of_pure dict_no_get
  have L3 : Looks M h (inOwnDict name (.ref x)) none := looks_own X I hcd (by unfold W.ownOf; rw [if_pos hd]; exact hn)
  have G : Looks M h (copiedAttributeGuard name (.ref x)) () := by
    unfold copiedAttributeGuard
    dsimp only
    split
    · rename_i q
      have q2 : copiedNames.contains name = true := q
      rw [hc] at q2; cases q2
    · exact .now
  refine L1.andThen (L2.andThen (Looks.now.andThen ?_))
  exact L3.andThen (G.andThen (Looks.tag ((Looks.of_pure (handedOut_of rfl)).andThen .now)))
/-- no slot of the class -/
def owTestC (K : Frag) (C : Addr) (name : Str) : Bool := plainC K C && findIn K (.ref C) name == some none

theorem get_fn {C : Addr} {name : Str} {f : Addr} (X : K.In h₀) (t : fnTestC K C name f = true) {Q : Value × List Value → Shared → Prop} {x d : Addr} {o : Obj} {pl : Sem Bool} (hk : ∀ b o, h₀.get? b = some o → s.heap.get? b = some o)
    (hx : s.heap.get? x = some { cls := .ref C, dict := some d }) (hd : s.heap.get? d = some o) (hn : lookIn name o = some none) (q : Q (.ref f, [.ref x]) s) : wpAny (model prog w) A (getMethod (.ref x) name pl) Q E s := by
  unfold fnTestC plainC at t
  simp only [Bool.and_eq_true, beq_iff_eq] at t
  obtain ⟨⟨⟨⟨t1, t2⟩, t3⟩, t4⟩, t5⟩ := t
  exact method_fn (X.keeps hk) (inst_at hx hd) t1 t2 t4 t5 (by show (lookIn name o).map _ = _; rw [hn]; rfl) q

theorem get_ty {C : Addr} {name : Str} (X : K.In h₀) (t : tyTestC K C name = true) {Q : Value × List Value → Shared → Prop} {x d : Addr} {o : Obj} {pl : Sem Bool} (hk : ∀ b o, h₀.get? b = some o → s.heap.get? b = some o)
    (hx : s.heap.get? x = some { cls := .ref C, dict := some d }) (hd : s.heap.get? d = some o) (hn : lookIn name o = some none) (q : ∀ tk, Q (.type "dict", []) { s with toks := tk }) : wpAny (model prog w) A (getMethod (.ref x) name pl) Q E s := by
  unfold tyTestC plainC at t
  simp only [Bool.and_eq_true, beq_iff_eq, Bool.not_eq_true'] at t
  obtain ⟨⟨⟨⟨t1, t2⟩, t3⟩, t4⟩, t7⟩ := t
  have I := inst_at hx hd
  have X' := X.keeps hk
  have hcan := PySem.F.canon_object_ga
  have u : wpAny (model prog w) A (getAttr (.ref x) name) (fun v => Q (v, [])) E s := by
    refine get_open X' I t1 ?_
    obtain ⟨hh', g, d', tk, os⟩ := s
    have L0 := I.type (M := model prog w)
    have L1 := looks_dict (M := model prog w) X' I t3 t4 t7 hn
    refine wpAny_bind (wpAny_pure (wpAny_bind (L0.at (wpAny_bind (L1.at ?_)))))
    refine wpAny_pure ?_
    show wpAny _ _ (handedOut (.type "dict")) _ _ _
    rw [handedOut_of rfl]
    exact wpAny_pure (q _)
  unfold getMethod specialOf
  refine wpAny_bind (wpAny_bind (I.type.here ((looks_findIn X' t1).here ?_)))
  dsimp only
  rw [hcan, if_neg (by decide)]
  refine wpAny_bind (wpAny_bind (I.type.here ((looks_findIn X' t2).here ?_)))
  refine wpAny_bind (wpAny_bind (I.type.here ((looks_findIn X' t4).here ?_)))
  refine wpAny_bind (wpAny_of_eq F.isi_meta_dict ?_)
  rw [if_pos (by decide)]
  exact wpAny_bind (wpAny_mono u (fun _ _ z => wpAny_pure z) fun _ _ z => z)

theorem get_own' {C : Addr} {name : Str} (X : K.In h₀) (t : owTestC K C name = true) {Q : Value → Shared → Prop} {x d : Addr} {o : Obj} {v : Value} (hk : ∀ b o, h₀.get? b = some o → s.heap.get? b = some o)
    (hx : s.heap.get? x = some { cls := .ref C, dict := some d }) (hd : s.heap.get? d = some o) (hn : lookIn name o = some (some v)) (hh : handedIn v = true) (q : ∀ tk, Q v { s with toks := tk }) : wpAny (model prog w) A (getAttr (.ref x) name true) Q E s := by
  unfold owTestC plainC at t
  simp only [Bool.and_eq_true, beq_iff_eq] at t
  obtain ⟨⟨⟨t1, t2⟩, t3⟩, t4⟩ := t
  exact get_value (X.keeps hk) (inst_at hx hd) t1 (findObj_own t3 t4 rfl hn) hh (q _)
end
end Mine
end
section
open PySem PySem.W PyProof.Rows
set_option maxRecDepth 100000
set_option linter.all false
namespace Mine
section
variable {prog : Program} {w : World} {h₀ : Heap} {A : Around} {E : Value → Shared → Prop} {s s' : Shared} {Z Z' : ZP} {ρ ρ' : List Addr} {σ σ' σb : Store} {n : Nat} {K : Frag}

def isD : PV → Bool
  | .d _ => true
  | _ => false

theorem Base.empty (B : Base prog w h₀ Z ρ σ s) : Base prog w h₀ Z [] [] s := ⟨B.keep, B.old, rfl, fun k a po h => by simp at h, fun k a po h => by simp at h, List.nodup_nil⟩

theorem all2_D : ∀ {pvs : List PV} {vals : List Value} {ρ' : List Addr}, pvs.all isD = true → All2 (VR Z ρ) pvs vals → All2 (VR Z ρ') pvs vals
  | _, _, _, _, .nil => .nil
  | .d x :: pvs, _, _, h, .cons a b => .cons a (all2_D (by rw [List.all_cons, Bool.and_eq_true] at h; exact h.2) b)
  | .ref k :: pvs, _, _, h, .cons a b => by simp [isD] at h
  | .rng .. :: pvs, _, _, h, .cons a b => by simp [isD] at h

/-- the frame rule: what runs on an empty store runs on every one -/
theorem frame {t : Sem Value} {x : PyData} (B : Base prog w h₀ Z ρ σ s) (h : SndV prog w h₀ A Z [] s t (.d x) σ') : SndV prog w h₀ A Z ρ s t (.d x) σ := fun E Q k =>
  h E Q fun v s' Z' ρ'' g B' r => by
    have hold : ∀ b o, s.heap.get? b = some o → s'.heap.get? b = some o := fun b o e => g.old b o (fun h => nomatch h) (fun h => nomatch h) e
    have zn : ∀ b o, Z' b o → Z b o ∨ s.heap.get? b = none ∨ b ∈ ρ := fun b o hz => by
      rcases g.zn b o hz with q | q | q
      · exact .inl q
      · exact .inr (.inl q)
      · cases q
    refine k v s' Z' ρ ⟨g.zz, zn, ⟨[], by simp, fun _ h => nomatch h⟩, fun b o _ _ e => hold b o e, g.sh⟩ ⟨B'.keep, B'.old, B.len, fun j a po h1 h2 => ?_, fun j a po h1 h2 h3 o hz => ?_, B.nd⟩ r
    · have := (B.objs j a po h1 h2).keeps (l := []) g.zz (fun o e => hold a o e)
      rwa [List.append_nil] at this
    · rcases g.zn a o hz with q | q | q
      · exact B.zr j a po h1 h2 h3 o q
      · obtain ⟨o', ho'⟩ := B.alive (List.mem_of_getElem? h1)
        rw [ho'] at q; cases q
      · cases q

/-- a data function's entry in the oracle: run on the empty store -/
def dataO (r : List PV → Option (PV × Store)) (vs : List PV) (σ : Store) : Option (PV × Store) :=
  if vs.all isD then match r vs with
    | some (.d x, _) => some (.d x, σ)
    | _ => none
  else none

theorem dataO_snd {r : List PV → Option (PV × Store)} {a : Addr} {pvs : List PV} {vals : List Value} {pv : PV} (h : dataO r pvs σ = some (pv, σ')) (B : Base prog w h₀ Z ρ σ s) (hv : All2 (VR Z ρ) pvs vals)
    (hr : ∀ {pv σ'}, r pvs = some (pv, σ') → Base prog w h₀ Z [] [] s → All2 (VR Z []) pvs vals → SndV prog w h₀ A Z [] s (call (.ref a) vals) pv σ') : SndV prog w h₀ A Z ρ s (call (.ref a) vals) pv σ' := by
  unfold dataO at h
  split at h
  · rename_i hd
    split at h
    · rename_i x σ₁ h1
      cases h
      exact frame B (hr h1 B.empty (all2_D hd hv))
    · cases h
  · cases h
end
end Mine
end
section
open PySem PySem.W PyProof.Rows
set_option maxRecDepth 100000
set_option linter.all false
namespace Mine

theorem evBool_or {r : Rec} {sc : Scope} {φ : Frm} {e1 e2 : Expr} {σ : Store} {b1 b2 : Bool} (h1 : r.ev sc φ e1 σ = some (.d (.bool b1), σ)) (h2 : r.ev sc φ e2 σ = some (.d (.bool b2), σ)) : evBool r .Or sc φ [e1, e2] σ = some (.d (.bool (b1 || b2)), σ) := by
  cases b1 <;> simp [evBool, h1, h2, sTruthy]

def joinedR (vs : List PV) : Option (PV × Store) := runF T0 12 false (txtOf "_law_joined") [S "ties", S "u", S "v"] vs []
def jF (ties : List PyData) (u v : Int) : Frm := frmOf (txtOf "_law_joined").2 [(S "ties", .d (.list ties)), (S "u", .d (.int u)), (S "v", .d (.int v))]
theorem joined_1 (ties : List PyData) (u v : Int) (σ : Store) : (R T0 10).ev (txtOf "_law_joined").2 (jF ties u v) (boolA (retE (txtOf "_law_joined").1) 0) σ = some (.d (.bool (memT ties u v)), σ) := by kernel_rfl
theorem joined_2 (ties : List PyData) (u v : Int) (σ : Store) : (R T0 10).ev (txtOf "_law_joined").2 (jF ties u v) (boolA (retE (txtOf "_law_joined").1) 1) σ = some (.d (.bool (memT ties v u)), σ) := by kernel_rfl
theorem joined_3 (ties : List PyData) (u v : Int) (σ : Store) : (R T0 11).ev (txtOf "_law_joined").2 (jF ties u v) (retE (txtOf "_law_joined").1) σ =
    evBool (R T0 10) .Or (txtOf "_law_joined").2 (jF ties u v) [boolA (retE (txtOf "_law_joined").1) 0, boolA (retE (txtOf "_law_joined").1) 1] σ := by kernel_rfl
def st0 (p : List Stmt × Scope) (n : Nat) : Stmt := p.1.getD n (.Pass default)
theorem joined_4 (ties : List PyData) (u v : Int) (σ : Store) : (R T0 12).ex (txtOf "_law_joined").2 (st0 (txtOf "_law_joined") 0) (jF ties u v) σ =
    match (R T0 11).ev (txtOf "_law_joined").2 (jF ties u v) (retE (txtOf "_law_joined").1) σ with
    | some (p, σ') => some (.ret p, jF ties u v, σ')
    | none => none := by kernel_rfl
theorem joined_b : (txtOf "_law_joined").1 = [st0 (txtOf "_law_joined") 0] := by kernel_rfl
def jn (ties : List PyData) (u v : Int) : Bool := memT ties u v || memT ties v u
theorem joined_run (ties : List PyData) (u v : Int) : joinedR [.d (.list ties), .d (.int u), .d (.int v)] = some (.d (.bool (jn ties u v)), []) := by
  have h : exs (R T0 12) (txtOf "_law_joined").2 (txtOf "_law_joined").1 (jF ties u v) [] = some (.ret (.d (.bool (jn ties u v))), jF ties u v, []) := by
    rw [joined_b]
    unfold exs
    rw [joined_4, joined_3, evBool_or (joined_1 ties u v []) (joined_2 ties u v [])]
    rfl
  unfold joinedR runF
  rw [if_pos (by rfl)]
  show (match exs (R T0 12) (txtOf "_law_joined").2 (txtOf "_law_joined").1 (jF ties u v) [] with | some (f, _, σ') => _ | none => none) = _
  rw [h]
  rfl
def O1 (a : Addr) (vs : List PV) (σ : Store) : Option (PV × Store) := if a = 659 then dataO joinedR vs σ else none
theorem joined_O (ties : List PyData) (u v : Int) (σ : Store) : O1 659 [.d (.list ties), .d (.int u), .d (.int v)] σ = some (.d (.bool (jn ties u v)), σ) := by
  unfold O1
  rw [if_pos rfl]
  unfold dataO
  rw [joined_run]; rfl
end Mine
end
section
open PySem PySem.W PyProof.Rows
set_option maxRecDepth 100000
set_option linter.all false
namespace Mine

def flatP (p : PyData → Bool) (f : PyData → List PyData) (items : List PyData) : List PyData := items.flatMap fun v => if p v then f v else []

theorem cItems_flat {r : Rec} {sc : Scope} {x : Str} {ifs : List Expr} {inner : Frm → List PyData → Store → Option (Frm × List PyData × Store)} {σ : Store} (I : Frm → Prop) (p : PyData → Bool) (f : PyData → List PyData) :
    ∀ (items : List PyData), (∀ v ∈ items, ∀ φ acc, I φ → acc.length + (if p v then f v else []).length < 1000000 → ∃ φ1, stN sc φ x (.d v) = some φ1 ∧ evIfs r sc φ1 ifs σ = some (p v, σ) ∧
      (if p v then ∃ φ2, I φ2 ∧ inner φ1 acc σ = some (φ2, acc ++ f v, σ) else I φ1)) →
    ∀ φ acc, I φ → acc.length + (flatP p f items).length < 1000000 → ∃ φ', I φ' ∧ cItems r sc x ifs inner items φ acc σ = some (φ', acc ++ flatP p f items, σ)
  | [], _, φ, acc, hI, _ => ⟨φ, hI, by simp [cItems, flatP]⟩
  | v :: vs, h, φ, acc, hI, hb => by
    have hb' : acc.length + (if p v then f v else []).length + (flatP p f vs).length < 1000000 := by
      unfold flatP at hb ⊢
      rw [List.flatMap_cons, List.length_append] at hb
      omega
    obtain ⟨φ1, h1, h2, h3⟩ := h v List.mem_cons_self φ acc hI (by omega)
    have hrec := cItems_flat I p f vs (fun v' hv' => h v' (List.mem_cons_of_mem _ hv'))
    have hcons : flatP p f (v :: vs) = (if p v then f v else []) ++ flatP p f vs := by unfold flatP; rw [List.flatMap_cons]
    rw [hcons]
    unfold cItems
    simp only [h1, h2]
    cases hp : p v with
    | true =>
      rw [hp] at h3 hb'
      simp only [if_true] at h3 hb'
      obtain ⟨φ2, hI2, h4⟩ := h3
      simp only [h4]
      obtain ⟨φ', hI', h5⟩ := hrec φ2 (acc ++ f v) hI2 (by rw [List.length_append]; omega)
      exact ⟨φ', hI', by rw [h5]; simp⟩
    | false =>
      rw [hp] at h3 hb'
      simp only [Bool.false_eq_true, if_false, List.length_nil] at h3 hb'
      obtain ⟨φ', hI', h5⟩ := hrec φ1 acc h3 (by omega)
      exact ⟨φ', hI', h5.trans (by simp)⟩

/-- the element's part -/
theorem cEmit_eq {r : Rec} {sc : Scope} {elt : Expr} {φ : Frm} {acc : List PyData} {σ : Store} {x : PyData} (h : r.ev sc φ elt σ = some (.d x, σ)) (hb : acc.length < 1000000) : cEmit r sc elt φ acc σ = some (φ, acc ++ [x], σ) := by
  unfold cEmit; simp [h, hb]

theorem cInner_eq {r : Rec} {sc : Scope} {elt : Expr} {y : Str} {iter : Expr} {ifs : List Expr} {φ : Frm} {acc : List PyData} {σ : Store} {v : PV} {items : List PyData} (h : r.ev sc φ iter σ = some (v, σ)) (hi : pIter v = some items) :
    cInner r sc elt y iter ifs φ acc σ = cItems r sc y ifs (cEmit r sc elt) items φ acc σ := by
  unfold cInner; simp [h, hi]

theorem evIfs_nil {r : Rec} {sc : Scope} {φ : Frm} {σ : Store} : evIfs r sc φ [] σ = some (true, σ) := rfl
theorem evIfs_one {r : Rec} {sc : Scope} {φ : Frm} {c : Expr} {σ : Store} {b : Bool} (h : r.tr sc φ c σ = some (b, σ)) : evIfs r sc φ [c] σ = some (b, σ) := by
  cases b <;> simp [evIfs, h]
theorem evIfs_two {r : Rec} {sc : Scope} {φ : Frm} {c d : Expr} {σ : Store} {b1 b2 : Bool} (h : r.tr sc φ c σ = some (b1, σ)) (h2 : b1 = true → r.tr sc φ d σ = some (b2, σ)) : evIfs r sc φ [c, d] σ = some (b1 && b2, σ) := by
  cases b1
  · simp [evIfs, h]
  · have := evIfs_one (h2 rfl)
    show (match r.tr sc φ c σ with | some (true, σ) => evIfs r sc φ [d] σ | some (false, σ) => some (false, σ) | none => none) = _
    rw [h]
    exact this.trans (by simp)

theorem flatP_len (p : PyData → Bool) (f : PyData → List PyData) (k : Nat) : ∀ (items : List PyData), (∀ v ∈ items, (f v).length ≤ k) → (flatP p f items).length ≤ items.length * k
  | [], _ => by simp [flatP]
  | v :: vs, h => by
    have := flatP_len p f k vs (fun v' hv' => h v' (List.mem_cons_of_mem _ hv'))
    have h1 := h v List.mem_cons_self
    unfold flatP at this ⊢
    rw [List.flatMap_cons, List.length_append, List.length_cons, Nat.add_mul]
    have : (if p v then f v else []).length ≤ k := by split <;> simp [h1]
    omega
end Mine
end
section
open PySem PySem.W PyProof.Rows
set_option maxRecDepth 100000
set_option linter.all false
namespace Mine

/-! projections into the text -/
def xN : Expr := .Constant .none 0 default
def sVal : Stmt → Expr
  | .Assign _ v _ => v
  | .While t _ _ _ => t
  | .If t _ _ _ => t
  | .For _ i _ _ _ => i
  | .Return (some e) _ => e
  | .Expr e _ => e
  | .AugAssign _ _ v _ => v
  | _ => xN
def sBody : Stmt → List Stmt
  | .While _ b _ _ => b
  | .If _ b _ _ => b
  | .For _ _ b _ _ => b
  | _ => []
def sElse : Stmt → List Stmt
  | .If _ _ b _ => b
  | _ => []
def sAt (b : List Stmt) (n : Nat) : Stmt := b.getD n (.Pass default)
def eArg : Expr → Nat → Expr
  | .Call _ as _ _, n => as.getD n xN
  | .Compare l _ rs _, n => if n = 0 then l else rs.getD (n - 1) xN
  | .BinOp l _ r _, n => if n = 0 then l else r
  | .BoolOp _ es _, n => es.getD n xN
  | .Tuple es _ _, n => es.getD n xN
  | .List es _, n => es.getD n xN
  | .Subscript o i _, n => if n = 0 then o else i
  | .IfExp t b o _, n => if n = 0 then t else if n = 1 then b else o
  | .UnaryOp _ x _, _ => x
  | .Attribute o _ _, _ => o
  | _, _ => xN
def lcE : Expr → Expr
  | .ListComp e _ _ _ => e
  | _ => xN
def lcG : Expr → Nat → Comprehension
  | .ListComp _ gs _ _, n => gs.getD n ⟨xN, xN, [], 0⟩
  | _, _ => ⟨xN, xN, [], 0⟩
def gI : Comprehension → Expr
  | ⟨_, i, _, _⟩ => i
def gF : Comprehension → List Expr
  | ⟨_, _, f, _⟩ => f
def lcS : Expr → Scope
  | .ListComp _ _ s _ => s
  | _ => default

def OJ (a : Addr) (vs : List PV) (σ : Store) : Option (PV × Store) := if a = 659 then match vs with | [.d (.list ties), .d (.int u), .d (.int v)] => some (.d (.bool (jn ties u v)), σ) | _ => none else none
def TJ : Txt := { T0 with O := OJ }

/-! _law_greatest -/
def gT : List Stmt × Scope := txtOf "_law_greatest"
def gW : Stmt := sAt gT.1 2
def gB : Stmt := sAt (sBody gW) 0
def gL : Expr := sVal (sAt (sBody gW) 1)
def gS : Scope := relabelS (lcS gL) gT.2
def gCel (n : Int) (ties : List PyData) (j : Bool) : List (Str × PV) := [(S "n", .d (.int n)), (S "ties", .d (.list ties)), (S "joined", .d (.bool j))]
def gFr (n : Int) (ties : List PyData) (j : Bool) (rows : List PyData) (best : Int) : Frm := ⟨[(S "rows", .d (.list rows)), (S "best", .d (.int best))], gCel n ties j, []⟩
theorem g_body : gT.1 = [sAt gT.1 0, sAt gT.1 1, gW, sAt gT.1 3] := by kernel_rfl
theorem g_wbody : sBody gW = [gB, sAt (sBody gW) 1] := by kernel_rfl
theorem g_0 (n : Int) (ties : List PyData) (j : Bool) (σ : Store) : (R TJ 40).ex gT.2 (sAt gT.1 0) (frmOf gT.2 [(S "n", .d (.int n)), (S "ties", .d (.list ties)), (S "joined", .d (.bool j))]) σ = some (.nxt, ⟨[(S "rows", .d (.list [.list []]))], gCel n ties j, []⟩, σ) := by kernel_rfl
theorem g_1 (n : Int) (ties : List PyData) (j : Bool) (σ : Store) : (R TJ 40).ex gT.2 (sAt gT.1 1) ⟨[(S "rows", .d (.list [.list []]))], gCel n ties j, []⟩ σ = some (.nxt, gFr n ties j [.list []] 0, σ) := by kernel_rfl
theorem g_2 (n : Int) (ties : List PyData) (j : Bool) (σ : Store) : (R TJ 40).ex gT.2 gW (gFr n ties j [.list []] 0) σ = (R TJ 39).wh gT.2 (sVal gW) (sBody gW) (gFr n ties j [.list []] 0) σ := by kernel_rfl
theorem g_3 (n : Int) (ties : List PyData) (j : Bool) (rows : List PyData) (best : Int) (σ : Store) : (R TJ 40).ex gT.2 (sAt gT.1 3) (gFr n ties j rows best) σ = some (.ret (.d (.int best)), gFr n ties j rows best, σ) := by kernel_rfl
theorem g_t (N : Nat) (n : Int) (ties : List PyData) (j : Bool) (rows : List PyData) (best : Int) (σ : Store) : (R TJ (N + 3)).tr gT.2 (gFr n ties j rows best) (sVal gW) σ = (pCmp .NotEq (.list rows) (.list [])).map fun b => (b, σ) := by kernel_rfl
theorem g_wh (N : Nat) (φ : Frm) (σ : Store) : (R TJ (N + 1)).wh gT.2 (sVal gW) (sBody gW) φ σ = stepWh (R TJ N) gT.2 (sVal gW) (sBody gW) φ σ := by kernel_rfl
theorem g_len (N : Nat) (n : Int) (ties : List PyData) (j : Bool) (r : PyData) (rows : List PyData) (best : Int) (σ : Store) : (R TJ (N + 5)).ev gT.2 (gFr n ties j (r :: rows) best) (eArg (sVal gB) 0) σ = ((itemAt (r :: rows) 0).map PV.d).map fun x => (x, σ) := by kernel_rfl
theorem g_best (N : Nat) (n : Int) (ties : List PyData) (j : Bool) (rows : List PyData) (best : Int) (σ : Store) : (R TJ (N + 7)).ex gT.2 gB (gFr n ties j rows best) σ =
   match (match evs (R TJ (N + 5)) gT.2 (gFr n ties j rows best) [eArg (sVal gB) 0] σ with
   | some (vs, σ) => (pFun "len" vs σ).map fun v => (v, σ)
   | none => none) with
   | some (v, σ) => (stN gT.2 (gFr n ties j rows best) (S "best") v).map fun φ => (.nxt, φ, σ)
   | none => none := by kernel_rfl
end Mine
end
section
open PySem PySem.W PyProof.Rows
set_option maxRecDepth 100000
set_option linter.all false
namespace Mine

theorem shallow_nil (xs : List PyData) : shallow (.list xs) (.list []) = true := by
  unfold shallow
  have : decide ((PyData.list []).depth ≤ 64) = true := by decide
  rw [this, Bool.or_true]
theorem eqv_nil (xs : List PyData) : PyData.eqv (.list xs) (.list []) = xs.isEmpty := by cases xs <;> rfl
theorem pCmp_ne_nil (xs : List PyData) : pCmp .NotEq (.list xs) (.list []) = some (!xs.isEmpty) := by
  show (if shallow (.list xs) (.list []) then some (!PyData.eqv (.list xs) (.list [])) else none) = _
  rw [shallow_nil, eqv_nil]; rfl
theorem pCmp_eq_nil (xs : List PyData) : pCmp .Eq (.list xs) (.list []) = some xs.isEmpty := by
  show (if shallow (.list xs) (.list []) then some (PyData.eqv (.list xs) (.list [])) else none) = _
  rw [shallow_nil, eqv_nil]; rfl
theorem pCmp_ne_bool (a b : Bool) : pCmp .NotEq (.bool a) (.bool b) = some (a != b) := by cases a <;> cases b <;> decide +kernel
theorem pCmp_eq_bool (a b : Bool) : pCmp .Eq (.bool a) (.bool b) = some (a == b) := by cases a <;> cases b <;> decide +kernel

def gC0 (n : Int) (ties : List PyData) (j : Bool) : List (Str × PV) := celOf (lcS gL).names (gCel n ties j)
theorem g_c0 (n : Int) (ties : List PyData) (j : Bool) : gC0 n ties j = gCel n ties j := by kernel_rfl
def gRo : List Str := freeN (lcS gL).names
theorem g_comp (N : Nat) (n : Int) (ties : List PyData) (j : Bool) (rows : List PyData) (best : Int) (σ : Store) : (R TJ (N + 3)).ex gT.2 (sAt (sBody gW) 1) (gFr n ties j rows best) σ =
   match (match cItems (R TJ (N + 2)) gS (S "row") [] (cInner (R TJ (N + 2)) gS (lcE gL) (S "v") (gI (lcG gL 1)) (gF (lcG gL 1))) rows ⟨[], gCel n ties j, gRo⟩ [] σ with
     | some (_, acc, σ) => some (acc, σ)
     | none => none) with
   | some (xs, σ) => (stN gT.2 (gFr n ties j rows best) (S "rows") (.d (.list xs))).map fun φ => (.nxt, φ, σ)
   | none => none := by kernel_rfl

/-- frames of the comprehension -/
def gP (r : List (Str × PV)) (c : List (Str × PV)) : Frm := ⟨r, c, gRo⟩
def gV (n : Int) (ties : List PyData) (j : Bool) (v : PyData) : List (Str × PV) := gCel n ties j ++ [(S "v", .d v)]
theorem g_row1 (n : Int) (ties : List PyData) (j : Bool) (c : List (Str × PV)) (r : PyData) : stN gS (gP [] c) (S "row") (.d r) = some (gP [(S "row", .d r)] c) := by kernel_rfl
theorem g_row2 (n : Int) (ties : List PyData) (j : Bool) (c : List (Str × PV)) (q : PV) (r : PyData) : stN gS (gP [(S "row", q)] c) (S "row") (.d r) = some (gP [(S "row", .d r)] c) := by kernel_rfl
theorem g_v1 (n : Int) (ties : List PyData) (j : Bool) (l : List (Str × PV)) (v : PyData) : stN gS (gP l (gCel n ties j)) (S "v") (.d v) = some (gP l (gV n ties j v)) := by kernel_rfl
theorem g_v2 (n : Int) (ties : List PyData) (j : Bool) (l : List (Str × PV)) (u v : PyData) : stN gS (gP l (gV n ties j u)) (S "v") (.d v) = some (gP l (gV n ties j v)) := by kernel_rfl
end Mine
end
section
open PySem PySem.W PyProof.Rows
set_option maxRecDepth 100000
set_option linter.all false
namespace Mine

/-! arms with a test of the shape -/
section
variable {T : Txt} {N : Nat} {sc : Scope} {φ φ' : Frm} {e : Expr} {st : Stmt} {σ σ1 σ2 σ3 : Store} {v v1 v2 : PV} {b : Bool}

theorem R_ev : (R T (N + 1)).ev = stepEv T (R T N) := by rfl
theorem R_tr : (R T (N + 1)).tr = stepTr (R T N) := by rfl
theorem R_ex : (R T (N + 1)).ex = stepEx (R T N) := by rfl
theorem R_wh : (R T (N + 1)).wh = stepWh (R T N) := by rfl
def isBin (op : Operator) : Expr → Bool
  | .BinOp _ o _ _ => decide (o = op)
  | _ => false
theorem ev_bin {op : Operator} {i k : Int} {x : PyData} (hs : isBin op e = true) (h1 : (R T N).ev sc φ (eArg e 0) σ = some (.d (.int i), σ1)) (h2 : (R T N).ev sc φ (eArg e 1) σ1 = some (.d (.int k), σ2)) (hx : pBin op (.int i) (.int k) = some x) :
    (R T (N + 1)).ev sc φ e σ = some (.d x, σ2) := by
  cases e <;> simp only [isBin, Bool.false_eq_true] at hs
  rename_i l o rr p
  simp only [decide_eq_true_eq] at hs
  subst hs
  simp only [eArg, if_true, if_false, Nat.one_ne_zero] at h1 h2
  rw [R_ev]
  simp only [stepEv, h1, h2, hx, Option.map_some]

def isIfE : Expr → Bool
  | .IfExp .. => true
  | _ => false
theorem ev_ifT (hs : isIfE e = true) (h1 : (R T N).tr sc φ (eArg e 0) σ = some (true, σ1)) (h2 : (R T N).ev sc φ (eArg e 1) σ1 = some (v, σ2)) : (R T (N + 1)).ev sc φ e σ = some (v, σ2) := by
  cases e <;> simp only [isIfE, Bool.false_eq_true] at hs
  simp only [eArg, if_true, if_false, Nat.one_ne_zero] at h1 h2
  rw [R_ev]
  simp only [stepEv, h1, h2]
theorem ev_ifF (hs : isIfE e = true) (h1 : (R T N).tr sc φ (eArg e 0) σ = some (false, σ1)) (h2 : (R T N).ev sc φ (eArg e 2) σ1 = some (v, σ2)) : (R T (N + 1)).ev sc φ e σ = some (v, σ2) := by
  cases e <;> simp only [isIfE, Bool.false_eq_true] at hs
  replace h2 : (R T N).ev sc φ _ σ1 = _ := h2
  simp [eArg] at h1 h2
  rw [R_ev]
  simp only [stepEv, h1, h2]

def isCmp (op : CmpOp) : Expr → Bool
  | .Compare l [o] [rr] _ => decide (o = op) && !behindInMarks op rr
  | _ => false
theorem cmp_shape {op : CmpOp} (hs : isCmp op e = true) : ∃ p, e = .Compare (eArg e 0) [op] [eArg e 1] p ∧ behindInMarks op (eArg e 1) = false := by
  unfold isCmp at hs
  split at hs
  · rename_i l o rr p
    simp only [Bool.and_eq_true, decide_eq_true_eq, Bool.not_eq_true'] at hs
    obtain ⟨rfl, h⟩ := hs
    exact ⟨p, rfl, h⟩
  · cases hs
theorem ev_cmp {op : CmpOp} (hs : isCmp op e = true) (h1 : (R T N).ev sc φ (eArg e 0) σ = some (v1, σ1)) (h2 : (R T N).ev sc φ (eArg e 1) σ1 = some (v2, σ2)) (hx : sCmp op v1 v2 σ2 = some b) :
    (R T (N + 1)).ev sc φ e σ = some (.d (.bool b), σ2) := by
  obtain ⟨p, he, hb⟩ := cmp_shape hs
  rw [he]
  rw [R_ev]
  simp only [stepEv, hb, Bool.false_eq_true, if_false, h1, h2, hx, Option.map_some]
theorem tr_cmp {op : CmpOp} (hs : isCmp op e = true) (h1 : (R T N).ev sc φ (eArg e 0) σ = some (v1, σ1)) (h2 : (R T N).ev sc φ (eArg e 1) σ1 = some (v2, σ2)) (hx : sCmp op v1 v2 σ2 = some b) :
    (R T (N + 1)).tr sc φ e σ = some (b, σ2) := by
  obtain ⟨p, he, hb⟩ := cmp_shape hs
  rw [he]
  rw [R_tr]
  simp only [stepTr, hb, Bool.false_eq_true, if_false, h1, h2, hx, Option.map_some]
end
end Mine
end
section
open PySem PySem.W PyProof.Rows
set_option maxRecDepth 100000
set_option linter.all false
namespace Mine
section
variable {T : Txt} {N : Nat} {sc : Scope} {φ φ' : Frm} {e : Expr} {st : Stmt} {σ σ1 σ2 σ3 : Store} {v v1 v2 v3 : PV} {b : Bool}

def eArgs : Expr → List Expr
  | .Call _ as _ _ => as
  | .Tuple es _ _ => es
  | .List es _ => es
  | _ => []
def isCallN (f : Str) : Expr → Bool
  | .Call (.Name g _) as [] _ => g == f && decide (as.length < 20)
  | _ => false
theorem evs_nil {r : Rec} : evs r sc φ [] σ = some ([], σ) := by unfold evs; rfl
def noStar : Expr → Bool
  | .Starred .. => false
  | _ => true
theorem evs_cons {r : Rec} {es : List Expr} {vs : List PV} (hs : noStar e = true) (h1 : r.ev sc φ e σ = some (v, σ1)) (h2 : evs r sc φ es σ1 = some (vs, σ2)) : evs r sc φ (e :: es) σ = some (v :: vs, σ2) := by
  cases e <;> simp only [noStar, Bool.false_eq_true] at hs <;> simp only [evs, h1, h2]
theorem Str.beq_eq {a b : Str} (h : (a == b) = true) : a = b := by exact eq_of_beq h
theorem ev_callN {f : Str} {vs : List PV} (hs : isCallN f e = true) (h1 : evs (R T N) sc φ (eArgs e) σ = some (vs, σ1)) (h2 : evCallN T sc f vs σ1 = some (v, σ2)) : (R T (N + 1)).ev sc φ e σ = some (v, σ2) := by
  unfold isCallN at hs
  split at hs
  · rename_i g p as p'
    simp only [Bool.and_eq_true, decide_eq_true_eq] at hs
    have hf := Str.beq_eq hs.1
    subst hf
    simp only [eArgs] at h1
    rw [R_ev]
    simp only [stepEv, hs.2, if_true, h1, h2]
  · cases hs
def isSub : Expr → Bool
  | .Subscript _ (.Slice ..) _ => false
  | .Subscript .. => true
  | _ => false
theorem ev_sub (hs : isSub e = true) (h1 : (R T N).ev sc φ (eArg e 0) σ = some (v1, σ1)) (h2 : (R T N).ev sc φ (eArg e 1) σ1 = some (v2, σ2)) (hx : sItem v1 v2 σ2 = some v) : (R T (N + 1)).ev sc φ e σ = some (v, σ2) := by
  unfold isSub at hs
  split at hs
  · cases hs
  · rename_i o i p hns
    replace h1 : (R T N).ev sc φ o σ = _ := h1
    replace h2 : (R T N).ev sc φ i σ1 = _ := h2
    rw [R_ev]
    cases i <;> first | exact (hns _ _ _ _ rfl).elim | simp only [stepEv, h1, h2, hx, Option.map_some]
  · cases hs
end
end Mine
end
section
open PySem PySem.W PyProof.Rows
set_option maxRecDepth 100000
set_option linter.all false
namespace Mine
section
variable {T : Txt} {r : Rec} {N : Nat} {sc : Scope} {φ φ' : Frm} {e : Expr} {st : Stmt} {σ σ1 σ2 σ3 : Store} {v v1 v2 v3 : PV} {b : Bool}

def evC (r : Rec) (sc : Scope) (φ : Frm) (e : Expr) (σ : Store) : Option (List PyData × Store) :=
  match e with
  | .ListComp elt gens scope _ => evComp r sc φ elt gens scope σ
  | _ => none
def lcOk1 (sc : Scope) (x : Str) : Expr → Bool
  | .ListComp _ [⟨.Name y _, iter, _, a⟩] s _ => y == x && (decide (a = 0 ∧ plainIter iter = true ∧ s.kind = .function ∧ takes sc s.names = true ∧ (s.names.map (·.1)).Nodup))
  | _ => false
def lcOk2 (sc : Scope) (x z : Str) : Expr → Bool
  | .ListComp _ [⟨.Name y _, iter, _, a⟩, ⟨.Name y1 _, iter1, _, a1⟩] s _ => y == x && y1 == z && (decide (a = 0 ∧ a1 = 0 ∧ plainIter iter = true ∧ plainIter iter1 = true ∧ s.kind = .function ∧ takes sc s.names = true ∧ (s.names.map (·.1)).Nodup))
  | _ => false
def cScope (sc : Scope) (e : Expr) : Scope := relabelS (lcS e) sc
def cFrm (e : Expr) (φ : Frm) : Frm := ⟨[], celOf (lcS e).names φ.cel, freeN (lcS e).names⟩
theorem evC1 {x : Str} {items xs : List PyData} (hs : lcOk1 sc x e = true) (h1 : r.ev sc φ (gI (lcG e 0)) σ = some (v, σ1)) (hi : pIter v = some items)
    (h2 : cItems r (cScope sc e) x (gF (lcG e 0)) (cEmit r (cScope sc e) (lcE e)) items (cFrm e φ) [] σ1 = some (φ', xs, σ2)) : evC r sc φ e σ = some (xs, σ2) := by
  unfold lcOk1 at hs
  split at hs
  · rename_i elt y p iter ifs a s p'
    simp only [Bool.and_eq_true, decide_eq_true_eq] at hs
    have hf := Str.beq_eq hs.1
    subst hf
    replace h1 : r.ev sc φ iter σ = _ := h1
    replace h2 : cItems r (relabelS s sc) y ifs (cEmit r (relabelS s sc) elt) items ⟨[], celOf s.names φ.cel, freeN s.names⟩ [] σ1 = _ := h2
    unfold evC
    simp only [evComp]
    rw [if_pos hs.2]
    simp only [h1, hi, h2]
  · cases hs
theorem evC2 {x z : Str} {items xs : List PyData} (hs : lcOk2 sc x z e = true) (h1 : r.ev sc φ (gI (lcG e 0)) σ = some (v, σ1)) (hi : pIter v = some items)
    (h2 : cItems r (cScope sc e) x (gF (lcG e 0)) (cInner r (cScope sc e) (lcE e) z (gI (lcG e 1)) (gF (lcG e 1))) items (cFrm e φ) [] σ1 = some (φ', xs, σ2)) : evC r sc φ e σ = some (xs, σ2) := by
  unfold lcOk2 at hs
  split at hs
  · rename_i elt y p iter ifs a y1 p1 iter1 ifs1 a1 s p'
    simp only [Bool.and_eq_true, decide_eq_true_eq] at hs
    have hf := Str.beq_eq hs.1.1
    have hf1 := Str.beq_eq hs.1.2
    subst hf; subst hf1
    replace h1 : r.ev sc φ iter σ = _ := h1
    replace h2 : cItems r (relabelS s sc) y ifs (cInner r (relabelS s sc) elt y1 iter1 ifs1) items ⟨[], celOf s.names φ.cel, freeN s.names⟩ [] σ1 = _ := h2
    unfold evC
    simp only [evComp]
    rw [if_pos hs.2]
    simp only [h1, hi, h2]
  · cases hs
def isLC : Expr → Bool
  | .ListComp .. => true
  | _ => false
theorem ev_lc {xs : List PyData} (hs : isLC e = true) (h : evC (R T N) sc φ e σ = some (xs, σ1)) : (R T (N + 1)).ev sc φ e σ = some (.d (.list xs), σ1) := by
  cases e <;> simp only [isLC, Bool.false_eq_true] at hs
  rw [R_ev]
  simp only [stepEv, evNew]
  unfold evC at h
  simp only [h, Option.map_some]
/-- assignments -/
def isAs (x : Str) : Stmt → Bool
  | .Assign [.Name y _] _ _ => y == x
  | _ => false
theorem ex_as_lc {x : Str} {xs : List PyData} (hs : isAs x st = true) (hl : isLC (sVal st) = true) (hm : mutN.contains x = false) (h : evC (R T N) sc φ (sVal st) σ = some (xs, σ1)) (hst : stN sc φ x (.d (.list xs)) = some φ') :
    (R T (N + 1)).ex sc st φ σ = some (.nxt, φ', σ1) := by
  unfold isAs at hs
  split at hs
  · rename_i y p value p'
    have hf := Str.beq_eq hs
    subst hf
    replace hl : isLC value = true := hl
    cases value <;> simp only [isLC, Bool.false_eq_true] at hl
    simp only [sVal, evC] at h
    rw [R_ex]
    simp only [stepEx, h, hm, hst, Bool.false_eq_true, if_false, Option.map_some]
  · cases hs
theorem ex_as {x : Str} (hs : isAs x st = true) (hl : plainVal (sVal st) = true) (hm : (mutN.contains x && isNewForm (sVal st)) = false) (h : (R T N).ev sc φ (sVal st) σ = some (v, σ1)) (hst : stN sc φ x v = some φ') :
    (R T (N + 1)).ex sc st φ σ = some (.nxt, φ', σ1) := by
  unfold isAs at hs
  split at hs
  · rename_i y p value p'
    have hf := Str.beq_eq hs
    subst hf
    replace hl : plainVal value = true := hl
    simp only [sVal] at h hm
    rw [R_ex]
    cases value <;> first | (exfalso; simp only [plainVal, Bool.false_eq_true] at hl; done) | simp only [stepEx, hl, h, hm, hst, Bool.false_eq_true, if_false, if_true, Option.map_some]
  · cases hs
theorem exs_cons {l : List Stmt} {fl : Fl} (h : r.ex sc st φ σ = some (.nxt, φ', σ1)) (h2 : exs r sc l φ' σ1 = some (fl, φ2, σ2)) : exs r sc (st :: l) φ σ = some (fl, φ2, σ2) := by
  unfold exs; simp only [h, h2]
theorem exs_ret {l : List Stmt} (h : r.ex sc st φ σ = some (.ret v, φ', σ1)) : exs r sc (st :: l) φ σ = some (.ret v, φ', σ1) := by
  unfold exs; simp only [h]
theorem exs_nil : exs r sc [] φ σ = some (.nxt, φ, σ) := by unfold exs; rfl
end
end Mine
end
section
open PySem PySem.W PyProof.Rows
set_option maxRecDepth 100000
set_option linter.all false
namespace Mine

def natD (xs : List Nat) : List PyData := xs.map fun k => .int (Int.ofNat k)
def nextOf (xs : List Nat) : Int := match xs.getLast? with
  | none => 0
  | some k => Int.ofNat k + 1
theorem natD_len (xs : List Nat) : (natD xs).length = xs.length := by simp [natD]
theorem itemAt_last {xs : List PyData} {x : PyData} (hl : xs.length < 1000000) (h : xs.getLast? = some x) : itemAt xs (-1) = some x := by
  unfold itemAt
  rw [if_pos hl, if_neg (by decide)]
  have hne : xs ≠ [] := by intro h0; subst h0; cases h
  have hp : 0 < xs.length := List.length_pos_iff.mpr hne
  rw [if_pos (by omega)]
  have : ((xs.length : Int) + -1).toNat = xs.length - 1 := by omega
  rw [this, ← List.getLast?_eq_getElem?, h]
theorem itemAt_0 {xs : List PyData} (hl : xs.length < 1000000) : itemAt xs 0 = xs.head? := by
  unfold itemAt
  rw [if_pos hl, if_pos (by decide)]
  cases xs <;> rfl

def gR : Expr := gI (lcG gL 1)
def gRow (xs : List Nat) : List (Str × PV) := [(S "row", .d (.list (natD xs)))]
theorem g_ia : eArgs gR = [eArg gR 0, eArg gR 1] := by kernel_rfl
theorem g_rs1 : isCallN (S "range") gR = true := by kernel_rfl
theorem g_rs2 : isIfE (eArg gR 0) = true := by kernel_rfl
theorem g_rs3 : isCmp .NotEq (eArg (eArg gR 0) 0) = true := by kernel_rfl
theorem g_rs4 : isBin .Add (eArg (eArg gR 0) 1) = true := by kernel_rfl
theorem g_rs5 : isSub (eArg (eArg (eArg gR 0) 1) 0) = true := by kernel_rfl
theorem g_rs6 : noStar (eArg gR 0) = true := by kernel_rfl
theorem g_rs7 : noStar (eArg gR 1) = true := by kernel_rfl
section
variable (N : Nat) (n : Int) (ties : List PyData) (j : Bool) (ext : List (Str × PV)) (xs : List Nat) (σ : Store)
theorem g_r1 : (R TJ (N + 2)).ev gS (gP (gRow xs) (gCel n ties j ++ ext)) (eArg (eArg (eArg gR 0) 0) 0) σ = some (.d (.list (natD xs)), σ) := by kernel_rfl
theorem g_r2 : (R TJ (N + 2)).ev gS (gP (gRow xs) (gCel n ties j ++ ext)) (eArg (eArg (eArg gR 0) 0) 1) σ = some (.d (.list []), σ) := by kernel_rfl
theorem g_r3 : (R TJ (N + 2)).ev gS (gP (gRow xs) (gCel n ties j ++ ext)) (eArg (eArg (eArg (eArg gR 0) 1) 0) 0) σ = some (.d (.list (natD xs)), σ) := by kernel_rfl
theorem g_r4 : (R TJ (N + 2)).ev gS (gP (gRow xs) (gCel n ties j ++ ext)) (eArg (eArg (eArg (eArg gR 0) 1) 0) 1) σ = some (.d (.int (-1)), σ) := by kernel_rfl
theorem g_r5 : (R TJ (N + 2)).ev gS (gP (gRow xs) (gCel n ties j ++ ext)) (eArg (eArg (eArg gR 0) 1) 1) σ = some (.d (.int 1), σ) := by kernel_rfl
theorem g_r6 : (R TJ (N + 2)).ev gS (gP (gRow xs) (gCel n ties j ++ ext)) (eArg (eArg gR 0) 2) σ = some (.d (.int 0), σ) := by kernel_rfl
theorem g_r7 : (R TJ (N + 2)).ev gS (gP (gRow xs) (gCel n ties j ++ ext)) (eArg gR 1) σ = some (.d (.int n), σ) := by kernel_rfl
theorem g_r8 (a : Int) : evCallN TJ gS (S "range") [.d (.int a), .d (.int n)] σ = some (.rng a n 1, σ) := by kernel_rfl
theorem g_if (hl : xs.length < 1000000) : (R TJ (N + 5)).ev gS (gP (gRow xs) (gCel n ties j ++ ext)) (eArg gR 0) σ = some (.d (.int (nextOf xs)), σ) := by
  have ht : (R TJ (N + 4)).tr gS (gP (gRow xs) (gCel n ties j ++ ext)) (eArg (eArg gR 0) 0) σ = some (!(natD xs).isEmpty, σ) :=
    tr_cmp g_rs3 (g_r1 (N + 1) n ties j ext xs σ) (g_r2 (N + 1) n ties j ext xs σ) (by exact pCmp_ne_nil (natD xs))
  cases h : xs.getLast? with
  | none =>
    have : xs = [] := List.getLast?_eq_none_iff.mp h
    subst this
    exact ev_ifF g_rs2 ht (g_r6 (N + 2) n ties j ext [] σ)
  | some k =>
    have hne : xs ≠ [] := by intro h0; subst h0; cases h
    have hn : nextOf xs = Int.ofNat k + 1 := by unfold nextOf; rw [h]
    have hg : (natD xs).getLast? = some (.int (Int.ofNat k)) := by unfold natD; rw [List.getLast?_map, h]; rfl
    have ht' : (!(natD xs).isEmpty) = true := by cases xs <;> simp_all [natD]
    rw [ht'] at ht
    rw [hn]
    refine ev_ifT g_rs2 ht (ev_bin g_rs4 (i := Int.ofNat k) (k := 1) (ev_sub g_rs5 (g_r3 N n ties j ext xs σ) (g_r4 N n ties j ext xs σ) ?_) (g_r5 (N + 1) n ties j ext xs σ) (by rfl))
    show (itemAt (natD xs) (-1)).map PV.d = _
    rw [itemAt_last (by rw [natD_len]; exact hl) hg]; rfl
theorem g_rng (hl : xs.length < 1000000) : (R TJ (N + 6)).ev gS (gP (gRow xs) (gCel n ties j ++ ext)) gR σ = some (.rng (nextOf xs) n 1, σ) := by
  refine ev_callN g_rs1 (σ1 := σ) (vs := [.d (.int (nextOf xs)), .d (.int n)]) ?_ (g_r8 n σ _)
  rw [g_ia]
  exact evs_cons g_rs6 (g_if N n ties j ext xs σ hl) (evs_cons g_rs7 (g_r7 (N + 3) n ties j ext xs σ) evs_nil)
end
end Mine
end
section
open PySem PySem.W PyProof.Rows
set_option maxRecDepth 100000
set_option linter.all false
namespace Mine

theorem flatP_empty (p : PyData → Bool) (x : PyData) : ∀ items : List PyData, (flatP p (fun _ => [x]) items).isEmpty = !items.any p
  | [] => rfl
  | v :: vs => by
    have := flatP_empty p x vs
    unfold flatP at this ⊢
    rw [List.flatMap_cons, List.any_cons]
    cases hp : p v
    · simpa [hp] using this
    · simp [hp]
theorem flatP_len1 (p : PyData → Bool) (x : PyData) (items : List PyData) : (flatP p (fun _ => [x]) items).length ≤ items.length := by
  have := flatP_len p (fun _ => [x]) 1 items (fun _ _ => by simp)
  omega

def gC : Expr := (gF (lcG gL 1)).getD 0 xN
def gN : Expr := eArg gC 0
def gS2 : Scope := cScope gS gN
def gC2 : Expr := (gF (lcG gN 0)).getD 0 xN
def gRo2 : List Str := freeN (lcS gN).names
def gU (ties : List PyData) (j : Bool) (v : PyData) (l : List (Str × PV)) : Frm := ⟨l, [(S "ties", .d (.list ties)), (S "joined", .d (.bool j)), (S "v", .d v)], gRo2⟩
theorem g_f1 : gF (lcG gL 1) = [gC] := by kernel_rfl
theorem g_f2 : gF (lcG gN 0) = [gC2] := by kernel_rfl
theorem g_n1 : lcOk1 gS (S "u") gN = true := by kernel_rfl
theorem g_n2 : isCmp .Eq gC = true := by kernel_rfl
theorem g_n3 : isLC gN = true := by kernel_rfl
theorem g_n4 : isCmp .NotEq gC2 = true := by kernel_rfl
theorem g_n5 : isCallN (S "_law_joined") (eArg gC2 0) = true := by kernel_rfl
theorem g_n6 : eArgs (eArg gC2 0) = [eArg (eArg gC2 0) 0, eArg (eArg gC2 0) 1, eArg (eArg gC2 0) 2] := by kernel_rfl
theorem g_n7 : noStar (eArg (eArg gC2 0) 0) = true := by kernel_rfl
theorem g_n8 : noStar (eArg (eArg gC2 0) 1) = true := by kernel_rfl
theorem g_n9 : noStar (eArg (eArg gC2 0) 2) = true := by kernel_rfl
section
variable (N : Nat) (n : Int) (ties : List PyData) (j : Bool) (xs : List Nat) (u v : Int) (σ : Store)
theorem g_u1 (w : PyData) : stN gS2 (gU ties j (.int v) []) (S "u") (.d w) = some (gU ties j (.int v) [(S "u", .d w)]) := by kernel_rfl
theorem g_u2 (w : PyData) (q : PV) : stN gS2 (gU ties j (.int v) [(S "u", q)]) (S "u") (.d w) = some (gU ties j (.int v) [(S "u", .d w)]) := by kernel_rfl
theorem g_a0 : (R TJ (N + 2)).ev gS2 (gU ties j (.int v) [(S "u", .d (.int u))]) (eArg (eArg gC2 0) 0) σ = some (.d (.list ties), σ) := by kernel_rfl
theorem g_a1 : (R TJ (N + 2)).ev gS2 (gU ties j (.int v) [(S "u", .d (.int u))]) (eArg (eArg gC2 0) 1) σ = some (.d (.int u), σ) := by kernel_rfl
theorem g_a2 : (R TJ (N + 2)).ev gS2 (gU ties j (.int v) [(S "u", .d (.int u))]) (eArg (eArg gC2 0) 2) σ = some (.d (.int v), σ) := by kernel_rfl
theorem g_a3 : (R TJ (N + 2)).ev gS2 (gU ties j (.int v) [(S "u", .d (.int u))]) (eArg gC2 1) σ = some (.d (.bool j), σ) := by kernel_rfl
theorem g_a4 : evCallN TJ gS2 (S "_law_joined") [.d (.list ties), .d (.int u), .d (.int v)] σ = some (.d (.bool (jn ties u v)), σ) := by kernel_rfl
theorem g_a5 (φ : Frm) : (R TJ (N + 2)).ev gS2 φ (lcE gN) σ = some (.d (.int 1), σ) := by kernel_rfl
theorem g_a6 : cFrm gN (gP (gRow xs) (gV n ties j (.int v))) = gU ties j (.int v) [] := by kernel_rfl
theorem g_a7 : (R TJ (N + 2)).ev gS (gP (gRow xs) (gV n ties j (.int v))) (gI (lcG gN 0)) σ = some (.d (.list (natD xs)), σ) := by kernel_rfl
theorem g_a8 : (R TJ (N + 2)).ev gS (gP (gRow xs) (gV n ties j (.int v))) (eArg gC 1) σ = some (.d (.list []), σ) := by kernel_rfl
theorem g_cond : (R TJ (N + 4)).tr gS2 (gU ties j (.int v) [(S "u", .d (.int u))]) gC2 σ = some (jn ties u v != j, σ) := by
  refine tr_cmp g_n4 (σ1 := σ) (ev_callN g_n5 (σ1 := σ) (vs := [.d (.list ties), .d (.int u), .d (.int v)]) ?_ (g_a4 ties u v σ)) (g_a3 (N + 1) ties j u v σ) (by exact pCmp_ne_bool _ _)
  rw [g_n6]
  exact evs_cons g_n7 (g_a0 N ties j u v σ) (evs_cons g_n8 (g_a1 N ties j u v σ) (evs_cons g_n9 (g_a2 N ties j u v σ) evs_nil))
def badP (ties : List PyData) (j : Bool) (v : Int) : PyData → Bool
  | .int u => jn ties u v != j
  | _ => false
theorem g_list (hl : xs.length < 100000) : ∃ l, evC (R TJ (N + 4)) gS (gP (gRow xs) (gV n ties j (.int v))) gN σ = some (l, σ) ∧ l.isEmpty = !(natD xs).any (badP ties j v) := by
  have hlen := flatP_len1 (badP ties j v) (.int 1) (natD xs)
  rw [natD_len] at hlen
  obtain ⟨φ', _, h⟩ := cItems_flat (r := R TJ (N + 4)) (sc := gS2) (x := S "u") (ifs := gF (lcG gN 0)) (inner := cEmit (R TJ (N + 4)) gS2 (lcE gN)) (σ := σ)
    (fun φ => φ = gU ties j (.int v) [] ∨ ∃ q, φ = gU ties j (.int v) [(S "u", q)]) (badP ties j v) (fun _ => [.int 1]) (natD xs)
    (by
      intro w hw φ acc hI hb
      unfold natD at hw
      obtain ⟨k, -, rfl⟩ := List.mem_map.mp hw
      refine ⟨gU ties j (.int v) [(S "u", .d (.int (Int.ofNat k)))], ?_, ?_, ?_⟩
      · rcases hI with rfl | ⟨q, rfl⟩
        · exact g_u1 ties j v _
        · exact g_u2 ties j v _ _
      · rw [g_f2]; exact evIfs_one (g_cond N ties j _ v σ)
      · split
        · exact ⟨_, .inr ⟨_, rfl⟩, cEmit_eq (g_a5 (N + 2) σ _) (by omega)⟩
        · exact .inr ⟨_, rfl⟩)
    (gU ties j (.int v) []) [] (.inl rfl) (by rw [List.length_nil]; omega)
  refine ⟨_, evC1 (φ' := φ') g_n1 (g_a7 (N + 2) n ties j xs v σ) rfl ?_, flatP_empty _ (.int 1) _⟩
  rw [g_a6]
  exact h
theorem g_filter (hl : xs.length < 100000) : evIfs (R TJ (N + 6)) gS (gP (gRow xs) (gV n ties j (.int v))) (gF (lcG gL 1)) σ = some (!(natD xs).any (badP ties j v), σ) := by
  obtain ⟨l, h, he⟩ := g_list N n ties j xs v σ hl
  rw [g_f1]
  rw [← he]
  exact evIfs_one (tr_cmp g_n2 (ev_lc g_n3 h) (g_a8 (N + 3) n ties j xs v σ) (by exact pCmp_eq_nil l))
end
end Mine
end
section
open PySem PySem.W PyProof.Rows
set_option maxRecDepth 100000
set_option linter.all false
namespace Mine
section
variable {T : Txt} {r : Rec} {N : Nat} {sc : Scope} {φ φ' : Frm} {e : Expr} {st : Stmt} {σ σ1 σ2 σ3 : Store} {v v1 v2 v3 : PV} {b : Bool}
theorem ev_cat {xs ys : List PyData} (hs : isBin .Add e = true) (h1 : (R T N).ev sc φ (eArg e 0) σ = some (.d (.list xs), σ1)) (h2 : (R T N).ev sc φ (eArg e 1) σ1 = some (.d (.list ys), σ2)) (hx : xs.length + ys.length < 1000000) :
    (R T (N + 1)).ev sc φ e σ = some (.d (.list (xs ++ ys)), σ2) := by
  cases e <;> simp only [isBin, Bool.false_eq_true] at hs
  rename_i l o rr p
  simp only [decide_eq_true_eq] at hs
  subst hs
  simp only [eArg, if_true, if_false, Nat.one_ne_zero] at h1 h2
  rw [R_ev]
  simp only [stepEv, h1, evNew, h2, if_pos hx, Option.map_some]
end

def startN (xs : List Nat) : Nat := match xs.getLast? with
  | none => 0
  | some k => k + 1
theorem nextOf_eq (xs : List Nat) : nextOf xs = Int.ofNat (startN xs) := by
  unfold nextOf startN
  cases xs.getLast? <;> rfl
theorem pIter_rng (a n : Nat) (ha : a < 1000000) (hn : n < 1000000) : pIter (.rng (Int.ofNat a) (Int.ofNat n) 1) = some (natD (List.range' a (n - a))) := by
  unfold pIter
  simp only [if_true]
  rw [if_pos ⟨by simpa using ha, by simpa using hn⟩]
  have : (Int.ofNat n - Int.ofNat a).toNat = n - a := by simp only [Int.ofNat_eq_natCast]; omega
  rw [this]
  congr 1
  unfold natD
  rw [List.range'_eq_map_range, List.map_map]
  apply List.map_congr_left
  intro i _
  simp
def okP (ties : List PyData) (j : Bool) (xs : List Nat) (v : Int) : Bool := !(natD xs).any (badP ties j v)
def pX (ties : List PyData) (j : Bool) (xs : List Nat) : PyData → Bool
  | .int v => okP ties j xs v
  | _ => false
def fX (xs : List Nat) (v : PyData) : List PyData := [.list (natD xs ++ [v])]
theorem g_e1 : isBin .Add (lcE gL) = true := by kernel_rfl
section
variable (N : Nat) (n : Int) (ties : List PyData) (j : Bool) (xs : List Nat) (v : Int) (σ : Store)
theorem g_e2 (c : List (Str × PV)) : (R TJ (N + 3)).ev gS (gP (gRow xs) c) (eArg (lcE gL) 0) σ = some (.d (.list (natD xs)), σ) := by kernel_rfl
theorem g_e3 : (R TJ (N + 3)).ev gS (gP (gRow xs) (gV n ties j (.int v))) (eArg (lcE gL) 1) σ = some (.d (.list [.int v]), σ) := by kernel_rfl
theorem g_elt (hl : xs.length < 100000) : (R TJ (N + 4)).ev gS (gP (gRow xs) (gV n ties j (.int v))) (lcE gL) σ = some (.d (.list (natD xs ++ [.int v])), σ) :=
  ev_cat g_e1 (g_e2 N xs σ _) (g_e3 N n ties j xs v σ) (by rw [natD_len]; simp; omega)
end
theorem g_inner (N : Nat) (n : Nat) (ties : List PyData) (j : Bool) (xs : List Nat) (ext : List (Str × PV)) (hext : ext = [] ∨ ∃ q, ext = [(S "v", .d q)]) (acc : List PyData) (σ : Store) (hl : xs.length < 100000) (hs : startN xs < 1000000) (hn : n < 1000000)
    (hb : acc.length + (flatP (pX ties j xs) (fX xs) (natD (List.range' (startN xs) (n - startN xs)))).length < 1000000) :
    ∃ ext', (ext' = [] ∨ ∃ q, ext' = [(S "v", .d q)]) ∧ cInner (R TJ (N + 6)) gS (lcE gL) (S "v") gR (gF (lcG gL 1)) (gP (gRow xs) (gCel (Int.ofNat n) ties j ++ ext)) acc σ =
      some (gP (gRow xs) (gCel (Int.ofNat n) ties j ++ ext'), acc ++ flatP (pX ties j xs) (fX xs) (natD (List.range' (startN xs) (n - startN xs))), σ) := by
  have hr := g_rng N (Int.ofNat n) ties j ext xs σ (by omega)
  rw [nextOf_eq] at hr
  rw [cInner_eq hr (pIter_rng (startN xs) n hs hn)]
  obtain ⟨φ', hI, h⟩ := cItems_flat (r := R TJ (N + 6)) (sc := gS) (x := S "v") (ifs := gF (lcG gL 1)) (inner := cEmit (R TJ (N + 6)) gS (lcE gL)) (σ := σ)
    (fun φ => ∃ ext', (ext' = [] ∨ ∃ q, ext' = [(S "v", .d q)]) ∧ φ = gP (gRow xs) (gCel (Int.ofNat n) ties j ++ ext')) (pX ties j xs) (fX xs) (natD (List.range' (startN xs) (n - startN xs)))
    (by
      intro w hw φ acc hI hb
      unfold natD at hw
      obtain ⟨k, -, rfl⟩ := List.mem_map.mp hw
      have hx : (S "v", PV.d (.int (Int.ofNat k))) = (S "v", PV.d (.int (Int.ofNat k))) := rfl
      refine ⟨gP (gRow xs) (gV (Int.ofNat n) ties j (.int (Int.ofNat k))), ?_, g_filter N (Int.ofNat n) ties j xs _ σ hl, ?_⟩
      · obtain ⟨ext', (rfl | ⟨q, rfl⟩), rfl⟩ := hI
        · rw [List.append_nil]; exact g_v1 (Int.ofNat n) ties j _ _
        · exact g_v2 (Int.ofNat n) ties j _ q _
      · split
        · exact ⟨_, ⟨_, .inr ⟨_, rfl⟩, rfl⟩, cEmit_eq (g_elt (N + 2) (Int.ofNat n) ties j xs _ σ hl) (by omega)⟩
        · exact ⟨_, .inr ⟨_, rfl⟩, rfl⟩)
    _ acc ⟨ext, hext, rfl⟩ hb
  obtain ⟨ext', he, rfl⟩ := hI
  exact ⟨ext', he, h⟩
end Mine
end
section
open PySem PySem.W PyProof.Rows
set_option maxRecDepth 100000
set_option linter.all false
namespace Mine

def rowsD (rows : List (List Nat)) : List PyData := rows.map fun r => .list (natD r)
def succs (n : Nat) (ties : List PyData) (j : Bool) (xs : List Nat) : List (List Nat) := ((List.range' (startN xs) (n - startN xs)).filter fun v => okP ties j xs (Int.ofNat v)).map fun v => xs ++ [v]
def nextRows (n : Nat) (ties : List PyData) (j : Bool) (rows : List (List Nat)) : List (List Nat) := rows.flatMap (succs n ties j)
theorem natD_app (xs : List Nat) (v : Nat) : natD (xs ++ [v]) = natD xs ++ [.int (Int.ofNat v)] := by simp [natD]
theorem flatP_X (ties : List PyData) (j : Bool) (xs : List Nat) : ∀ l : List Nat, flatP (pX ties j xs) (fX xs) (natD l) = rowsD ((l.filter fun v => okP ties j xs (Int.ofNat v)).map fun v => xs ++ [v])
  | [] => rfl
  | v :: l => by
    have ih := flatP_X ties j xs l
    unfold flatP natD rowsD at ih ⊢
    rw [List.map_cons, List.flatMap_cons, ih, List.filter_cons]
    have hp : pX ties j xs (.int (Int.ofNat v)) = okP ties j xs (Int.ofNat v) := rfl
    rw [hp]
    cases okP ties j xs (Int.ofNat v)
    · simp
    · simp [fX, natD]
def decI : PyData → Nat
  | .int i => i.toNat
  | _ => 0
def decN : PyData → List Nat
  | .list l => l.map decI
  | _ => []
theorem decN_natD (xs : List Nat) : decN (.list (natD xs)) = xs := by
  show (natD xs).map decI = xs
  unfold natD
  rw [List.map_map]
  conv => rhs; rw [← List.map_id xs]
  apply List.map_congr_left
  intro a _
  rfl
def fRow (n : Nat) (ties : List PyData) (j : Bool) (w : PyData) : List PyData := rowsD (succs n ties j (decN w))
theorem flatP_rows (n : Nat) (ties : List PyData) (j : Bool) : ∀ rows : List (List Nat), flatP (fun _ => true) (fRow n ties j) (rowsD rows) = rowsD (nextRows n ties j rows)
  | [] => rfl
  | xs :: rows => by
    have ih := flatP_rows n ties j rows
    unfold flatP rowsD nextRows at ih ⊢
    rw [List.map_cons, List.flatMap_cons, ih, List.flatMap_cons, List.map_append]
    simp [fRow, decN_natD, rowsD]
theorem g_l1 : lcOk2 gT.2 (S "row") (S "v") gL = true := by kernel_rfl
theorem g_l2 : gF (lcG gL 0) = [] := by kernel_rfl
theorem g_l3 (n : Int) (ties : List PyData) (j : Bool) (rows : List PyData) (best : Int) : cFrm gL (gFr n ties j rows best) = gP [] (gCel n ties j) := by kernel_rfl
theorem g_l4 (N : Nat) (n : Int) (ties : List PyData) (j : Bool) (rows : List PyData) (best : Int) (σ : Store) : (R TJ (N + 1)).ev gT.2 (gFr n ties j rows best) (gI (lcG gL 0)) σ = some (.d (.list rows), σ) := by kernel_rfl
theorem g_turn (N : Nat) (n : Nat) (ties : List PyData) (j : Bool) (rows : List (List Nat)) (best : Int) (σ : Store) (hn : n < 1000000) (h1 : ∀ xs ∈ rows, xs.length < 100000 ∧ startN xs < 1000000) (h2 : (nextRows n ties j rows).length < 1000000) :
    evC (R TJ (N + 6)) gT.2 (gFr (Int.ofNat n) ties j (rowsD rows) best) gL σ = some (rowsD (nextRows n ties j rows), σ) := by
  obtain ⟨φ', hI, h⟩ := cItems_flat (r := R TJ (N + 6)) (sc := gS) (x := S "row") (ifs := gF (lcG gL 0)) (inner := cInner (R TJ (N + 6)) gS (lcE gL) (S "v") gR (gF (lcG gL 1))) (σ := σ)
    (fun φ => ∃ ext', (ext' = [] ∨ ∃ q, ext' = [(S "v", .d q)]) ∧ ∃ loc, (loc = [] ∨ ∃ q, loc = [(S "row", q)]) ∧ φ = gP loc (gCel (Int.ofNat n) ties j ++ ext')) (fun _ => true) (fRow n ties j) (rowsD rows)
    (by
      intro w hw φ acc hI hb
      unfold rowsD at hw
      obtain ⟨xs, hxs, rfl⟩ := List.mem_map.mp hw
      obtain ⟨ext', he, loc, hloc, rfl⟩ := hI
      have hb' := hb
      simp only [if_true, fRow, decN_natD] at hb'
      obtain ⟨ext2, he2, hin⟩ := g_inner N n ties j xs ext' he acc σ (h1 xs hxs).1 (h1 xs hxs).2 hn (by rw [flatP_X]; exact hb')
      refine ⟨gP (gRow xs) (gCel (Int.ofNat n) ties j ++ ext'), ?_, ?_, ?_⟩
      · rcases hloc with rfl | ⟨q, rfl⟩
        · exact g_row1 0 [] j _ _
        · exact g_row2 0 [] j _ _ _
      · rw [g_l2]; exact evIfs_nil
      · rw [if_pos rfl]
        refine ⟨_, ⟨ext2, he2, gRow xs, .inr ⟨_, rfl⟩, rfl⟩, ?_⟩
        rw [hin, flatP_X]
        unfold fRow
        rw [decN_natD]; rfl)
    (gP [] (gCel (Int.ofNat n) ties j)) [] ⟨[], .inl rfl, [], .inl rfl, by rw [List.append_nil]⟩ (by rw [flatP_rows]; unfold rowsD; simpa using h2)
  refine evC2 (φ' := φ') g_l1 (g_l4 (N + 5) (Int.ofNat n) ties j (rowsD rows) best σ) rfl ?_
  rw [g_l3]
  refine h.trans ?_
  rw [flatP_rows, List.nil_append]
end Mine
end
section
open PySem PySem.W PyProof.Rows
set_option maxRecDepth 100000
set_option linter.all false
namespace Mine

def grLoop (n : Nat) (ties : List PyData) (j : Bool) : Nat → List (List Nat) → Nat → Nat
  | 0, _, best => best
  | f + 1, rows, best => match rows with
    | [] => best
    | r :: rs => grLoop n ties j f (nextRows n ties j (r :: rs)) r.length

/-- rows of one length, rising, below n -/
def RowsOk (n k : Nat) (rows : List (List Nat)) : Prop := (∀ xs ∈ rows, xs.length = k ∧ k ≤ startN xs ∧ startN xs ≤ n) ∧ rows.length ≤ 5 ^ k
theorem startN_app (xs : List Nat) (v : Nat) : startN (xs ++ [v]) = v + 1 := by unfold startN; simp
theorem succs_len {n : Nat} (hn : n ≤ 5) (ties : List PyData) (j : Bool) (xs : List Nat) : (succs n ties j xs).length ≤ 5 := by
  unfold succs
  rw [List.length_map]
  refine Nat.le_trans (List.length_filter_le _ _) ?_
  rw [List.length_range']; omega
theorem flatMap_len {α β : Type} (f : α → List β) (k : Nat) : ∀ l : List α, (∀ a ∈ l, (f a).length ≤ k) → (l.flatMap f).length ≤ l.length * k
  | [], _ => by simp
  | a :: l, h => by
    have := flatMap_len f k l (fun b hb => h b (List.mem_cons_of_mem _ hb))
    have h1 := h a List.mem_cons_self
    rw [List.flatMap_cons, List.length_append, List.length_cons, Nat.add_mul]
    omega
theorem RowsOk.next {n k : Nat} {rows : List (List Nat)} (hn : n ≤ 5) (ties : List PyData) (j : Bool) (h : RowsOk n k rows) : RowsOk n (k + 1) (nextRows n ties j rows) := by
  constructor
  · intro ys hy
    unfold nextRows at hy
    obtain ⟨xs, hxs, hy⟩ := List.mem_flatMap.mp hy
    unfold succs at hy
    obtain ⟨v, hv, rfl⟩ := List.mem_map.mp hy
    have hv' := (List.mem_filter.mp hv).1
    rw [List.mem_range'_1] at hv'
    obtain ⟨h1, h2, h3⟩ := h.1 xs hxs
    rw [startN_app, List.length_append]
    simp only [List.length_cons, List.length_nil]
    omega
  · have := flatMap_len (succs n ties j) 5 rows (fun xs _ => succs_len hn ties j xs)
    unfold nextRows
    have h2 := h.2
    rw [Nat.pow_succ]
    omega
theorem RowsOk.empty {n k : Nat} {rows : List (List Nat)} (h : RowsOk n k rows) (hk : n < k) : rows = [] := by
  cases rows with
  | nil => rfl
  | cons xs rs =>
    have := h.1 xs List.mem_cons_self
    omega
theorem g_b1 : isAs (S "rows") (sAt (sBody gW) 1) = true := by kernel_rfl
theorem g_b2 : isLC gL = true := by kernel_rfl
theorem g_b3 (n : Int) (ties : List PyData) (j : Bool) (rows rows' : List PyData) (best : Int) : stN gT.2 (gFr n ties j rows best) (S "rows") (.d (.list rows')) = some (gFr n ties j rows' best) := by kernel_rfl
theorem g_b4 (n : Int) (ties : List PyData) (j : Bool) (rows : List PyData) (best best' : Int) : stN gT.2 (gFr n ties j rows best) (S "best") (.d (.int best')) = some (gFr n ties j rows best') := by kernel_rfl
theorem g_b5 : isAs (S "best") gB = true := by kernel_rfl
theorem g_b6 : plainVal (sVal gB) = true := by kernel_rfl
theorem g_b7 : (mutN.contains (S "best") && isNewForm (sVal gB)) = false := by kernel_rfl
theorem g_b8 : isCallN (S "len") (sVal gB) = true := by kernel_rfl
theorem g_b9 : eArgs (sVal gB) = [eArg (sVal gB) 0] := by kernel_rfl
theorem g_b10 : noStar (eArg (sVal gB) 0) = true := by kernel_rfl
theorem g_b11 : mutN.contains (S "rows") = false := by kernel_rfl
theorem g_b12 (xs : List PyData) (σ : Store) : evCallN TJ gT.2 (S "len") [.d (.list xs)] σ = (if xs.length < 1000000 then some (PV.d (.int xs.length)) else none).map fun v => (v, σ) := by kernel_rfl
theorem g_bestE (N : Nat) (n : Int) (ties : List PyData) (j : Bool) (r : List Nat) (rows : List (List Nat)) (best : Int) (σ : Store) (h1 : (r :: rows).length < 1000000) (h2 : r.length < 1000000) :
    (R TJ (N + 7)).ex gT.2 gB (gFr n ties j (rowsD (r :: rows)) best) σ = some (.nxt, gFr n ties j (rowsD (r :: rows)) (Int.ofNat r.length), σ) := by
  refine ex_as g_b5 g_b6 g_b7 (σ1 := σ) (v := .d (.int (Int.ofNat r.length))) (ev_callN g_b8 (σ1 := σ) (vs := [.d (.list (natD r))]) ?_ ?_) (g_b4 n ties j _ _ _)
  · rw [g_b9]
    refine evs_cons g_b10 ?_ evs_nil
    refine (g_len N n ties j _ _ best σ).trans ?_
    rw [itemAt_0 (by simpa [rowsD] using h1)]; rfl
  · rw [g_b12, if_pos (by rw [natD_len]; exact h2), natD_len]; rfl
theorem g_loop (n : Nat) (hn : n ≤ 5) (ties : List PyData) (j : Bool) (σ : Store) : ∀ (f k N : Nat) (rows : List (List Nat)) (best : Nat), RowsOk n k rows → n < k + f → k ≤ 7 → ∃ rows', (R TJ (N + f + 9)).wh gT.2 (sVal gW) (sBody gW) (gFr (Int.ofNat n) ties j (rowsD rows) (Int.ofNat best)) σ =
    some (.nxt, gFr (Int.ofNat n) ties j (rowsD rows') (Int.ofNat (grLoop n ties j f rows best)), σ)
  | f, k, N, [], best, h, hf, hk => by
    refine ⟨[], ?_⟩
    have ht := (g_t (N + f + 5) (Int.ofNat n) ties j (rowsD []) (Int.ofNat best) σ).trans (by rw [show rowsD [] = [] from rfl, pCmp_ne_nil]; rfl : _ = some (false, σ))
    have : grLoop n ties j f [] best = best := by cases f <;> rfl
    rw [this, R_wh]
    unfold stepWh
    simp only [ht]
  | 0, k, N, r :: rs, best, h, hf, hk => by have := h.empty hf; cases this
  | f + 1, k, N, r :: rs, best, h, hf, hk => by
    have hrow := h.1 r List.mem_cons_self
    have h5 : k ≤ 5 := by omega
    have hlen : (r :: rs).length ≤ 5 ^ 5 := Nat.le_trans h.2 (Nat.pow_le_pow_right (by omega) h5)
    have hnx := h.next hn ties j
    have hlen' : (nextRows n ties j (r :: rs)).length ≤ 5 ^ 6 := Nat.le_trans hnx.2 (Nat.pow_le_pow_right (by omega) (by omega))
    obtain ⟨rows', hrec⟩ := g_loop n hn ties j σ f (k + 1) N (nextRows n ties j (r :: rs)) r.length hnx (by omega) (by omega)
    refine ⟨rows', ?_⟩
    have ht := (g_t (N + f + 6) (Int.ofNat n) ties j (rowsD (r :: rs)) (Int.ofNat best) σ).trans (by rw [pCmp_ne_nil]; rfl : _ = some (true, σ))
    have hb := g_bestE (N + f + 2) (Int.ofNat n) ties j r rs (Int.ofNat best) σ (by omega) (by omega)
    have hc := ex_as_lc g_b1 g_b2 g_b11 (g_turn (N + f + 2) n ties j (r :: rs) (Int.ofNat r.length) σ (by omega) (fun xs hx => by have := h.1 xs hx; omega) (by omega)) (g_b3 (Int.ofNat n) ties j _ _ _)
    have hbody : exs (R TJ (N + f + 9)) gT.2 (sBody gW) (gFr (Int.ofNat n) ties j (rowsD (r :: rs)) (Int.ofNat best)) σ = some (.nxt, gFr (Int.ofNat n) ties j (rowsD (nextRows n ties j (r :: rs))) (Int.ofNat r.length), σ) := by
      rw [g_wbody]
      exact exs_cons hb (exs_cons hc exs_nil)
    show (R TJ ((N + f + 9) + 1)).wh _ _ _ _ _ = _
    rw [R_wh]
    unfold stepWh
    simp only [ht, hbody]
    exact hrec
end Mine
end
section
open PySem PySem.W PyProof.Rows
set_option maxRecDepth 100000
set_option linter.all false
namespace Mine
def grF (n : Nat) (ties : List PyData) (j : Bool) : Nat := grLoop n ties j 7 [[]] 0
def greatR (vs : List PV) : Option (PV × Store) := runF TJ 40 false (txtOf "_law_greatest") [S "n", S "ties", S "joined"] vs []
theorem g_exs (n : Nat) (hn : n ≤ 5) (ties : List PyData) (j : Bool) (σ : Store) : ∃ φ', exs (R TJ 40) gT.2 gT.1 (frmOf gT.2 [(S "n", .d (.int (Int.ofNat n))), (S "ties", .d (.list ties)), (S "joined", .d (.bool j))]) σ = some (.ret (.d (.int (Int.ofNat (grF n ties j)))), φ', σ) := by
  obtain ⟨rows', hw⟩ := g_loop n hn ties j σ 7 0 23 [[]] 0 ⟨by intro xs hx; simp at hx; subst hx; exact ⟨rfl, Nat.le_refl 0, Nat.zero_le n⟩, by decide⟩ (by omega) (by omega)
  refine ⟨gFr (Int.ofNat n) ties j (rowsD rows') (Int.ofNat (grF n ties j)), ?_⟩
  rw [g_body]
  exact exs_cons (g_0 _ ties j σ) (exs_cons (g_1 _ ties j σ) (exs_cons ((g_2 _ ties j σ).trans hw) (exs_ret (g_3 _ ties j _ _ σ))))
theorem great_run (n : Nat) (hn : n ≤ 5) (ties : List PyData) (j : Bool) : greatR [.d (.int (Int.ofNat n)), .d (.list ties), .d (.bool j)] = some (.d (.int (Int.ofNat (grF n ties j))), []) := by
  obtain ⟨φ', h⟩ := g_exs n hn ties j []
  unfold greatR runF
  rw [if_pos (by rfl)]
  show (match exs (R TJ 40) gT.2 gT.1 (frmOf gT.2 [(S "n", .d (.int (Int.ofNat n))), (S "ties", .d (.list ties)), (S "joined", .d (.bool j))]) [] with | some (f, _, σ') => _ | none => none) = _
  rw [h]
  rfl
end Mine
end
section
open PySem PySem.W PyProof.Rows
set_option maxRecDepth 100000
set_option linter.all false
namespace Mine
section
variable {T : Txt} {r : Rec} {N : Nat} {sc : Scope} {φ φ' : Frm} {e : Expr} {st : Stmt} {σ σ1 σ2 σ3 : Store} {v v1 v2 v3 : PV} {b b1 b2 : Bool}
def bArgs : Expr → List Expr
  | .BoolOp _ es _ => es
  | _ => []
def isBo (op : BoolOp) : Expr → Bool
  | .BoolOp o _ _ => match op, o with
    | .And, .And => true
    | .Or, .Or => true
    | _, _ => false
  | _ => false
theorem tr_and (hs : isBo .And e = true) (h : evAll (R T N) .And sc φ (bArgs e) σ = some (b, σ1)) : (R T (N + 1)).tr sc φ e σ = some (b, σ1) := by
  cases e <;> simp only [isBo, Bool.false_eq_true] at hs
  rename_i o es p
  cases o
  · rw [R_tr]; simp only [stepTr]; exact h
  · cases hs
theorem evAll_cons {es : List Expr} (h : r.tr sc φ e σ = some (b1, σ)) (h2 : b1 = true → evAll r .And sc φ es σ = some (b2, σ)) : evAll r .And sc φ (e :: es) σ = some (b1 && b2, σ) := by
  cases b1
  · unfold evAll; simp only [h, Bool.false_and]
  · unfold evAll; simp only [h, Bool.true_and]; exact h2 rfl
theorem evAll_nil : evAll r .And sc φ [] σ = some (true, σ) := by unfold evAll; rfl
theorem tr_of_call {f : Str} (hs : isCallN f e = true) (h : (R T (N + 1)).ev sc φ e σ = some (v, σ1)) (ht : sTruthy v σ1 = some b) : (R T (N + 2)).tr sc φ e σ = some (b, σ1) := by
  unfold isCallN at hs
  split at hs
  · rw [R_tr]; simp only [stepTr, h, ht, Option.map_some]
  · cases hs
def isSlc : Expr → Bool
  | .Subscript _ (.Slice none (some _) none _) _ => true
  | _ => false
def slU : Expr → Expr
  | .Subscript _ (.Slice none (some u) none _) _ => u
  | _ => xN
theorem ev_slc {xs ys : List PyData} {i : Int} (hs : isSlc e = true) (h1 : (R T N).ev sc φ (eArg e 0) σ = some (.d (.list xs), σ1)) (h2 : (R T N).ev sc φ (slU e) σ1 = some (.d (.int i), σ2)) (hx : sliceTo xs i = some (.list ys)) : (R T (N + 1)).ev sc φ e σ = some (.d (.list ys), σ2) := by
  unfold isSlc at hs
  split at hs
  · rename_i o u p p'
    replace h1 : (R T N).ev sc φ o σ = _ := h1
    replace h2 : (R T N).ev sc φ u σ1 = _ := h2
    rw [R_ev]
    simp only [stepEv, h1, h2, hx, Option.map_some]
  · cases hs
end
theorem pCmp_ne_int (a b : Int) : pCmp .NotEq (.int a) (.int b) = some (!decide (a = b)) := by
  show (if shallow (.int a) (.int b) then some (!PyData.eqv (.int a) (.int b)) else none) = _
  rw [if_pos (by rfl)]
  congr 2
theorem pCmp_ni (w : Int) (ys : List PyData) : pCmp .NotIn (.int w) (.list ys) = some (!ys.any fun y => PyData.eqv y (.int w)) := by kernel_rfl
theorem sliceTo_m1 (xs : List PyData) (h : xs.length < 1000000) : sliceTo xs (-1) = some (.list (xs.take (xs.length - 1))) := by
  unfold sliceTo
  rw [if_pos h, if_neg (by decide), if_pos rfl]
theorem any_natD (xs : List Nat) (w : Nat) : ((natD xs).any fun y => PyData.eqv y (.int (Int.ofNat w))) = xs.contains w := by
  induction xs with
  | nil => rfl
  | cons a l ih =>
    have h : natD (a :: l) = .int (Int.ofNat a) :: natD l := rfl
    rw [h, List.any_cons, ih, List.contains_cons]
    have : PyData.eqv (.int (Int.ofNat a)) (.int (Int.ofNat w)) = (w == a) := by
      show decide (Int.ofNat a = Int.ofNat w) = _
      by_cases hw : a = w
      · subst hw; simp
      · have : ¬ w = a := fun h => hw h.symm
        rw [decide_eq_false (fun h => hw (Int.ofNat.inj h))]
        exact (beq_eq_false_iff_ne.mpr this).symm
    rw [this]
theorem natD_take (xs : List Nat) : (natD xs).take ((natD xs).length - 1) = natD xs.dropLast := by
  unfold natD
  rw [List.length_map, ← List.map_take, List.dropLast_eq_take]
end Mine
end
section
open PySem PySem.W PyProof.Rows
set_option maxRecDepth 100000
set_option linter.all false
namespace Mine
/-! _law_way, the first list -/
def wT : List Stmt × Scope := txtOf "_law_way"
def wL : Expr := sVal (sAt wT.1 0)
def wS : Scope := cScope wT.2 wL
def wCel (n : Int) (ties : List PyData) : List (Str × PV) := [(S "n", .d (.int n)), (S "ties", .d (.list ties))]
def wRo : List Str := freeN (lcS wL).names
def wP (loc : List (Str × PV)) (n : Int) (ties : List PyData) : Frm := ⟨loc, wCel n ties, wRo⟩
def wUV (u : PyData) (ext : List (Str × PV)) : List (Str × PV) := (S "u", .d u) :: ext
def wV (v : PyData) : List (Str × PV) := [(S "v", .d v)]
def wF : Expr := (gF (lcG wL 1)).getD 0 xN
def wF0 : Expr := (bArgs wF).getD 0 xN
def wF1 : Expr := (bArgs wF).getD 1 xN
theorem w_1 : lcOk2 wT.2 (S "u") (S "v") wL = true := by kernel_rfl
theorem w_2 : gF (lcG wL 0) = [] := by kernel_rfl
theorem w_3 : gF (lcG wL 1) = [wF] := by kernel_rfl
theorem w_4 : isBo .And wF = true := by kernel_rfl
theorem w_5 : bArgs wF = [wF0, wF1] := by kernel_rfl
theorem w_6 : isCmp .NotEq wF0 = true := by kernel_rfl
theorem w_7 : isCallN (S "_law_joined") wF1 = true := by kernel_rfl
theorem w_8 : eArgs wF1 = [eArg wF1 0, eArg wF1 1, eArg wF1 2] := by kernel_rfl
theorem w_9 : (noStar (eArg wF1 0) && noStar (eArg wF1 1) && noStar (eArg wF1 2)) = true := by kernel_rfl
section
variable (N : Nat) (n : Int) (ties : List PyData) (u v : Int) (φ : Frm) (ext : List (Str × PV)) (σ : Store) (q q' : PV) (d : PyData)
theorem w_u0 : stN wS (wP [] n ties) (S "u") (.d d) = some (wP (wUV d []) n ties) := by kernel_rfl
theorem w_u1 : stN wS (wP ((S "u", q) :: ext) n ties) (S "u") (.d d) = some (wP (wUV d ext) n ties) := by kernel_rfl
theorem w_v0 : stN wS (wP [(S "u", q)] n ties) (S "v") (.d d) = some (wP ((S "u", q) :: wV d) n ties) := by kernel_rfl
theorem w_v1 : stN wS (wP [(S "u", q), (S "v", q')] n ties) (S "v") (.d d) = some (wP ((S "u", q) :: wV d) n ties) := by kernel_rfl
theorem w_i0 (loc : List (Str × PV)) : (R TJ (N + 3)).ev wT.2 ⟨loc, wCel n ties, []⟩ (gI (lcG wL 0)) σ = some (.rng 0 n 1, σ) := by kernel_rfl
theorem w_i1 (loc : List (Str × PV)) : (R TJ (N + 3)).ev wS (wP loc n ties) (gI (lcG wL 1)) σ = some (.rng 0 n 1, σ) := by kernel_rfl
theorem w_fr (loc : List (Str × PV)) : cFrm wL ⟨loc, wCel n ties, []⟩ = wP [] n ties := by kernel_rfl
theorem w_a0 : (R TJ (N + 2)).ev wS (wP (wUV (.int u) (wV (.int v))) n ties) (eArg wF0 0) σ = some (.d (.int u), σ) := by kernel_rfl
theorem w_a1 : (R TJ (N + 2)).ev wS (wP (wUV (.int u) (wV (.int v))) n ties) (eArg wF0 1) σ = some (.d (.int v), σ) := by kernel_rfl
theorem w_a2 : (R TJ (N + 2)).ev wS (wP (wUV (.int u) (wV (.int v))) n ties) (eArg wF1 0) σ = some (.d (.list ties), σ) := by kernel_rfl
theorem w_a3 : (R TJ (N + 2)).ev wS (wP (wUV (.int u) (wV (.int v))) n ties) (eArg wF1 1) σ = some (.d (.int u), σ) := by kernel_rfl
theorem w_a4 : (R TJ (N + 2)).ev wS (wP (wUV (.int u) (wV (.int v))) n ties) (eArg wF1 2) σ = some (.d (.int v), σ) := by kernel_rfl
theorem w_a5 : evCallN TJ wS (S "_law_joined") [.d (.list ties), .d (.int u), .d (.int v)] σ = some (.d (.bool (jn ties u v)), σ) := by kernel_rfl
theorem w_a6 : (R TJ (N + 4)).ev wS (wP (wUV (.int u) (wV (.int v))) n ties) (lcE wL) σ = some (.d (.list [.int u, .int v]), σ) := by kernel_rfl
theorem w_c1 : (R TJ (N + 5)).tr wS (wP (wUV (.int u) (wV (.int v))) n ties) wF1 σ = some (jn ties u v, σ) := by
  have hs := w_9
  simp only [Bool.and_eq_true] at hs
  refine tr_of_call w_7 (ev_callN w_7 (σ1 := σ) (vs := [.d (.list ties), .d (.int u), .d (.int v)]) ?_ (w_a5 ties u v σ)) rfl
  rw [w_8]
  exact evs_cons hs.1.1 (w_a2 (N + 1) n ties u v σ) (evs_cons hs.1.2 (w_a3 (N + 1) n ties u v σ) (evs_cons hs.2 (w_a4 (N + 1) n ties u v σ) evs_nil))
theorem w_c : evIfs (R TJ (N + 6)) wS (wP (wUV (.int u) (wV (.int v))) n ties) (gF (lcG wL 1)) σ = some (!decide (u = v) && jn ties u v, σ) := by
  rw [w_3]
  refine evIfs_one (tr_and w_4 ?_)
  rw [w_5, show (!decide (u = v) && jn ties u v) = (!decide (u = v) && (jn ties u v && true)) by rw [Bool.and_true]]
  exact evAll_cons (tr_cmp w_6 (w_a0 (N + 2) n ties u v σ) (w_a1 (N + 2) n ties u v σ) (by exact pCmp_ne_int u v)) fun _ => evAll_cons (w_c1 N n ties u v σ) fun _ => evAll_nil
end
def way1 (n : Nat) (ties : List PyData) (u : Nat) : List (List Nat) := ((List.range' 0 n).filter fun v => !decide (Int.ofNat u = Int.ofNat v) && jn ties (Int.ofNat u) (Int.ofNat v)).map fun v => [u, v]
def way0 (n : Nat) (ties : List PyData) : List (List Nat) := (List.range' 0 n).flatMap (way1 n ties)
def pW (ties : List PyData) (u : Int) : PyData → Bool
  | .int v => !decide (u = v) && jn ties u v
  | _ => false
/-- a filter and a map, as the comprehension gives them -/
theorem flatP_nat (p : PyData → Bool) (f : PyData → List PyData) (p' : Nat → Bool) (g : Nat → List Nat) (hp : ∀ v, p (.int (Int.ofNat v)) = p' v) (hf : ∀ v, f (.int (Int.ofNat v)) = [.list (natD (g v))]) :
    ∀ l : List Nat, flatP p f (natD l) = rowsD ((l.filter p').map g)
  | [] => rfl
  | v :: l => by
    have ih := flatP_nat p f p' g hp hf l
    unfold flatP natD rowsD at ih ⊢
    rw [List.map_cons, List.flatMap_cons, ih, List.filter_cons, hp, hf]
    cases p' v <;> simp [natD]
theorem flatP_flat (f : PyData → List PyData) (g : Nat → List (List Nat)) (hf : ∀ v, f (.int (Int.ofNat v)) = rowsD (g v)) : ∀ l : List Nat, flatP (fun _ => true) f (natD l) = rowsD (l.flatMap g)
  | [] => rfl
  | v :: l => by
    have ih := flatP_flat f g hf l
    unfold flatP natD rowsD at ih ⊢
    rw [List.map_cons, List.flatMap_cons, ih, List.flatMap_cons, List.map_append, hf]
    simp [rowsD]
def fW1 (u : Int) (v : PyData) : List PyData := [.list [.int u, v]]
theorem w_p1 (n : Nat) (ties : List PyData) (u : Nat) : flatP (pW ties (Int.ofNat u)) (fW1 (Int.ofNat u)) (natD (List.range' 0 n)) = rowsD (way1 n ties u) :=
  flatP_nat _ _ (fun v => !decide (Int.ofNat u = Int.ofNat v) && jn ties (Int.ofNat u) (Int.ofNat v)) (fun v => [u, v]) (fun v => rfl) (fun v => rfl) _
theorem w_inner (N : Nat) (n : Nat) (ties : List PyData) (u : Nat) (ext : List (Str × PV)) (hext : ext = [] ∨ ∃ q, ext = [(S "v", q)]) (acc : List PyData) (σ : Store) (hn : n < 1000000) (hb : acc.length + (rowsD (way1 n ties u)).length < 1000000) :
    ∃ ext', (ext' = [] ∨ ∃ q, ext' = [(S "v", q)]) ∧ cInner (R TJ (N + 6)) wS (lcE wL) (S "v") (gI (lcG wL 1)) (gF (lcG wL 1)) (wP (wUV (.int (Int.ofNat u)) ext) (Int.ofNat n) ties) acc σ =
      some (wP (wUV (.int (Int.ofNat u)) ext') (Int.ofNat n) ties, acc ++ rowsD (way1 n ties u), σ) := by
  have hi : pIter (.rng 0 (Int.ofNat n) 1) = some (natD (List.range' 0 n)) := pIter_rng 0 n (by omega) hn
  rw [cInner_eq (w_i1 (N + 3) (Int.ofNat n) ties σ _) hi, ← w_p1]
  obtain ⟨φ', hI, h⟩ := cItems_flat (r := R TJ (N + 6)) (sc := wS) (x := S "v") (ifs := gF (lcG wL 1)) (inner := cEmit (R TJ (N + 6)) wS (lcE wL)) (σ := σ)
    (fun φ => ∃ ext', (ext' = [] ∨ ∃ q, ext' = [(S "v", q)]) ∧ φ = wP (wUV (.int (Int.ofNat u)) ext') (Int.ofNat n) ties) (pW ties (Int.ofNat u)) (fW1 (Int.ofNat u)) (natD (List.range' 0 n))
    (by
      intro w hw φ acc hI hb
      unfold natD at hw
      obtain ⟨k, -, rfl⟩ := List.mem_map.mp hw
      refine ⟨wP (wUV (.int (Int.ofNat u)) (wV (.int (Int.ofNat k)))) (Int.ofNat n) ties, ?_, w_c N (Int.ofNat n) ties _ _ σ, ?_⟩
      · obtain ⟨ext', (rfl | ⟨q, rfl⟩), rfl⟩ := hI
        · exact w_v0 _ ties _ _
        · exact w_v1 _ ties _ _ _
      · split
        · exact ⟨_, ⟨_, .inr ⟨_, rfl⟩, rfl⟩, cEmit_eq (w_a6 (N + 2) (Int.ofNat n) ties _ _ σ) (by simp [fW1] at hb; omega)⟩
        · exact ⟨_, .inr ⟨_, rfl⟩, rfl⟩)
    _ acc ⟨ext, hext, rfl⟩ (by rw [w_p1]; exact hb)
  obtain ⟨ext', he, rfl⟩ := hI
  exact ⟨ext', he, h⟩
end Mine
end
section
open PySem PySem.W PyProof.Rows Builtin Builtin.ObjectAttr
set_option maxRecDepth 100000
set_option linter.all false
namespace Mine
/-! a store into a thing's own dict -/
theorem putL_new (name : Str) (hsh : Int) (key v : Value) : ∀ ds : List DictEntry, ds.find? (·.key.isStr name) = none → W.putL name hsh key v ds = ds ++ [⟨hsh, key, v⟩]
  | [], _ => rfl
  | e :: r, h => by
    rw [List.find?_cons] at h
    cases q : e.key.isStr name with
    | true => rw [q] at h; cases h
    | false =>
      rw [q] at h
      unfold W.putL
      rw [q]
      simp only [Bool.false_eq_true, if_false]
      rw [putL_new name hsh key v r h]; rfl
theorem getL_none {name : Str} {ds : List DictEntry} (h : getL name ds = some none) : ds.find? (·.key.isStr name) = none ∧ ds.any (·.refKey) = false := by
  unfold getL at h
  split at h
  · cases h
  · rename_i q
    split at h
    · cases h
    · rename_i z
      exact ⟨q, by simpa using z⟩
theorem getL_app (name y : Str) (hsh : Int) (tk : Tok) (v : Value) (ds : List DictEntry) (h : getL name ds = some none) :
    getL y (ds ++ [⟨hsh, .str name tk, v⟩]) = if y = name then some (some v) else getL y ds := by
  obtain ⟨h1, h2⟩ := getL_none h
  unfold getL
  rw [List.find?_append]
  have hk : (⟨hsh, .str name tk, v⟩ : DictEntry).key.isStr y = (name == y) := rfl
  have hr : (⟨hsh, .str name tk, v⟩ : DictEntry).refKey = false := rfl
  by_cases e : y = name
  · subst e
    rw [h1, if_pos rfl]
    simp [List.find?_cons, hk]
  · rw [if_neg e]
    have hf : (name == y) = false := by simpa using fun q => e q.symm
    have : List.find? (fun x => x.key.isStr y) [(⟨hsh, .str name tk, v⟩ : DictEntry)] = none := by rw [List.find?_cons, hk, hf]; rfl
    rw [this, Option.or_none, List.any_append]
    simp [hr]

def setTestC (K : Frag) (C : Addr) (name : Str) : Bool := plainOver K C && takerIn K C name == some none && hasDictIn K C && findIn K (.ref C) "__setattr__" == some (some (.builtin "object.__setattr__"))
section
variable {prog : Program} {w : World} {h₀ : Heap} {A : Around} {E : Value → Shared → Prop} {s s' : Shared} {Z Z' : ZP} {ρ ρ' : List Addr} {σ σ' σb : Store} {n : Nat} {K : Frag} {R : Result → Shared → Prop}

theorem osa_own {x d C : Addr} {name : Str} {tk : Tok} {v : Value} {ds : List DictEntry} {m : Nat} (X : K.In s.heap) (I : InstAt s.heap x { cls := .ref C, dict := some d } C (some (dictOf ds m))) (hp : plainOver K C = true) (ht : takerIn K C name = some none)
    (hh : hasDictIn K C = true) (hl : getL name ds = some none) (hz : ds.length ≤ 100)
    (h : ∀ h' m', Heap.SameBut d s.heap h' → h'.get? d = some (dictOf (ds ++ [⟨PyData.keyHash w.params name, .str name s.toks, v⟩]) m') → R (.ok (.ret .none)) { s with heap := h', toks := s.toks + 1 }) :
    codeAny (model prog w) A (.call (.builtin "object.__setattr__") ⟨[.ref x, .str name tk, v], []⟩) R s := by
  refine osa_open X I hp ht fun b => ?_
  obtain ⟨cd, hc, hd'⟩ := any_some hh
  obtain ⟨hx, hcl, hn, D⟩ := I
  replace D : s.heap.get? d = some (dictOf ds m) := D
  obtain ⟨l1, l2⟩ := getL_none hl
  refine wpAny_bind (wpAny_pure (wpAny_bind (wpAny_bind (wpAny_loadPart hx (wpAny_bind ((looks_clsIn X hc).here ?_))))))
  rw [hd']
  refine wpAny_pure (a := some d) (wpAny_bind (wpAny_pure (wpAny_bind ?_)))
  unfold nsSet
  refine wpAny_bind (wpAny_bind (wpAny_askSetting (wpAny_pure (wpAny_bind (wpAny_mkText (wpAny_bind (wpAny_loadPart D ?_)))))))
  dsimp only
  have c : (!ds.toArray.any (·.key.isStr name) && ds.toArray.any (·.refKey)) = false := by
    rw [← Array.any_toList, ← Array.any_toList]
    show (_ && ds.any _) = false
    rw [l2, Bool.and_false]
  rw [aRefKeyMayBeTheName_at, c]
  have hput : Obj.putName name (PyData.keyHash w.params name) (.str name s.toks) v (dictOf ds m) = dictOf (ds ++ [⟨PyData.keyHash w.params name, .str name s.toks, v⟩]) (putN name ds m) := by
    rw [putName_dict, putL_new _ _ _ _ _ l1]
  refine wpAny_updatePart D ?_
  have D' : (s.heap.update d (Obj.putName name (PyData.keyHash w.params name) (.str name s.toks) v)).get? d = some (dictOf (ds ++ [⟨PyData.keyHash w.params name, .str name s.toks, v⟩]) (putN name ds m)) := by
    exact hput ▸ Heap.get?_update_self _ D (by rw [hput]; rfl)
  refine wpAny_bind (wpAny_lookBehind D' (pastItsLine_dict (by rw [List.size_toArray, sizeLine_eq, List.length_append]; simp; omega)) ?_)
  refine wpAny_pure ?_
  exact h _ _ (Heap.SameBut.update _ _ _) D'
end
end Mine
end
section
open PySem PySem.W PyProof.Rows Builtin Builtin.ObjectAttr
set_option maxRecDepth 100000
set_option linter.all false
namespace Mine
section
variable {prog : Program} {w : World} {h₀ : Heap} {A : Around} {E : Value → Shared → Prop} {s s' : Shared} {Z Z' : ZP} {ρ ρ' : List Addr} {σ σ₁ σ₂ σ' σb : Store} {n : Nat} {K : Frag} {env : Env} {φ φ₁ φ₂ : Frm} {sc : Scope}

theorem lookup_snoc (es : List (Str × PV)) (name y : Str) (pv : PV) (hn : es.lookup name = none) : (es ++ [(name, pv)]).lookup y = if y = name then some pv else es.lookup y := by
  rw [List.lookup_append]
  by_cases e : y = name
  · subst e
    rw [hn, if_pos rfl]; simp
  · rw [if_neg e]
    have : List.lookup y [(name, pv)] = none := by
      rw [List.lookup_cons]
      have : (y == name) = false := by simpa using e
      rw [this]; rfl
    rw [this, Option.or_none]

theorem setAttr_snd {C x : Addr} {name : Str} {j d : Nat} {es : List (Str × PV)} {pv : PV} {v : Value} (X : K.In h₀) (t : setTestC K C name = true) (B : Base prog w h₀ Z ρ σ s) (hx : ρ[j]? = some x) (hj : σ[j]? = some (.inst C d)) (hd : σ[d]? = some (.attrs es))
    (hn : es.lookup name = none) (hl : es.length ≤ 100) (hv : VR Z ρ pv v) {Q : Unit → Shared → Prop} (k : ∀ s', Grow [] Z ρ s Z ρ s' → Base prog w h₀ Z ρ (σ.set d (.attrs (es ++ [(name, pv)]))) s' → Q () s') :
    wpAny (model prog w) A (setAttr (.ref x) name v) Q E s := by
  unfold setTestC at t
  simp only [Bool.and_eq_true, beq_iff_eq] at t
  obtain ⟨⟨⟨t1, t2⟩, t3⟩, t4⟩ := t
  obtain ⟨dx, hdx, hox⟩ := B.objs _ x _ hx hj
  obtain ⟨o, ho, p1, p2, ds, m, rfl, hsz⟩ := B.objs _ dx _ hdx hd
  have I := inst_at hox ho
  have hgl : getL name ds = some none := p2 name hn
  refine set_plain (X.keeps B.h0) I t4 ?_
  refine osa_own (s := { s with toks := s.toks + 1 }) (X.keeps B.h0) I t1 t2 t3 hgl (by omega) fun h' m' hsb D' => ?_
  have hor : OR prog w Z ρ h' dx (.attrs (es ++ [(name, pv)])) := by
    refine ⟨_, D', fun y pv' hy => ?_, fun y hy => ?_, _, _, rfl, by simp; omega⟩
    · show ∃ u, getL y _ = some (some u) ∧ _
      rw [lookup_snoc es name y pv hn] at hy
      rw [getL_app _ _ _ _ _ _ hgl]
      by_cases e : y = name
      · rw [if_pos e] at hy ⊢
        cases hy
        exact ⟨v, rfl, hv⟩
      · rw [if_neg e] at hy ⊢
        exact p1 y pv' hy
    · show getL y _ = some none
      rw [lookup_snoc es name y pv hn] at hy
      rw [getL_app _ _ _ _ _ _ hgl]
      by_cases e : y = name
      · rw [if_pos e] at hy; cases hy
      · rw [if_neg e] at hy ⊢
        exact p2 y hy
  obtain ⟨g, B'⟩ := change_fin (tk := s.toks + 1 + 1) (po := .attrs (es ++ [(name, pv)])) B hdx hd (fun q => nomatch q) hsb hor
  exact k _ g B'

/-- self.attr = value -/
def saOk (x a : Str) : Stmt → Bool
  | .Assign [.Attribute (.Name y _) b _] v _ => y == x && b == a && plainVal v
  | _ => false
def saVal : Stmt → Expr
  | .Assign _ v _ => v
  | _ => .Constant .none 0 default
theorem snd_setattr {r : Rec} (S : SoundR prog w h₀ r n) (hA : AOk n A) (hs : env.scope = sc) {x a : Str} {st : Stmt} {C : Addr} {j d : Nat} {es : List (Str × PV)} {pv : PV} (X : K.In h₀) (t : setTestC K C a = true) (hst : saOk x a st = true)
    (h1 : r.ev sc φ (saVal st) σ = some (pv, σ₁)) (h2 : ldN sc φ x = some (.ref j)) (hdb : (x == ("__debug__" : Str)) = false) (hcd : (x == ("__classdict__" : Str)) = false) (hj : σ₁[j]? = some (.inst C d)) (hd : σ₁[d]? = some (.attrs es)) (hn : es.lookup a = none) (hl : es.length ≤ 100)
    (B : Base prog w h₀ Z ρ σ s) (L : Loc Z ρ env φ s) : SndF prog w h₀ A env Z ρ s (exec st env) .nxt φ (σ₁.set d (.attrs (es ++ [(a, pv)]))) := by
  unfold saOk at hst
  split at hst
  · rename_i y py b pb v pos
    simp only [Bool.and_eq_true] at hst
    obtain ⟨⟨e1, e2⟩, e3⟩ := hst
    have e1 := eq_of_beq e1
    have e2 := eq_of_beq e2
    subst e1 e2
    replace h1 : r.ev sc φ v σ = some (pv, σ₁) := h1
    intro E Q k
    refine plainObj_wpAny_Assign_Attribute ?_ (swaps_plain e3 _ _)
    refine S.ev h1 hA hs B L E _ fun u s₁ Z₁ ρ₁ g₁ B₁ r₁ => ?_
    have L₁ := L.grow g₁
    refine snd_name L₁ B₁ hs h2 hdb hcd E _ fun u₂ s₂ Z₂ ρ₂ g₂ B₂ r₂ => ?_
    obtain ⟨ax, hax, rfl⟩ := r₂
    refine setAttr_snd X t B₂ hax hj hd hn hl (r₁.grow g₂) fun s₃ g₃ B₃ => ?_
    exact k .next s₃ Z₂ ρ₂ ((g₁.tr B₁ g₂).tr B₂ g₃).nil B₃ ((L₁.grow g₂).grow g₃) rfl
  · cases hst

/-- statements one after the other -/
theorem SndF.seq {st : Stmt} {rest : List Stmt} {f : Fl} (h1 : SndF prog w h₀ A env Z ρ s (exec st env) .nxt φ₁ σ₁)
    (h2 : ∀ s₁ Z₁ ρ₁, Base prog w h₀ Z₁ ρ₁ σ₁ s₁ → Loc Z₁ ρ₁ env φ₁ s₁ → SndF prog w h₀ A env Z₁ ρ₁ s₁ (execs rest env) f φ₂ σ₂) : SndF prog w h₀ A env Z ρ s (execs (st :: rest) env) f φ₂ σ₂ := fun E Q k => by
  rw [execs_cons]
  refine wpAny_bind (h1 E _ fun v s₁ Z₁ ρ₁ g₁ B₁ L₁ hf => ?_)
  cases hf
  exact h2 s₁ Z₁ ρ₁ B₁ L₁ E Q fun u s₂ Z₂ ρ₂ g₂ B₂ L₂ hf₂ => k u s₂ Z₂ ρ₂ (g₁.trans B₁ L₁.alive g₂) B₂ L₂ hf₂
theorem execs_append (a b : List Stmt) : execs (a ++ b) env = execs a env >>= fun f => match f with | .next => execs b env | f => pure f := by
  induction a with
  | nil => rfl
  | cons st a ih =>
    rw [List.cons_append, execs_cons, execs_cons, ih]
    simp only [bind_assoc]
    congr 1
    funext f
    cases f <;> simp
theorem SndF.app {a b : List Stmt} {f : Fl} (h1 : SndF prog w h₀ A env Z ρ s (execs a env) .nxt φ₁ σ₁)
    (h2 : ∀ s₁ Z₁ ρ₁, Base prog w h₀ Z₁ ρ₁ σ₁ s₁ → Loc Z₁ ρ₁ env φ₁ s₁ → SndF prog w h₀ A env Z₁ ρ₁ s₁ (execs b env) f φ₂ σ₂) : SndF prog w h₀ A env Z ρ s (execs (a ++ b) env) f φ₂ σ₂ := fun E Q k => by
  rw [execs_append]
  refine wpAny_bind (h1 E _ fun v s₁ Z₁ ρ₁ g₁ B₁ L₁ hf => ?_)
  cases hf
  exact h2 s₁ Z₁ ρ₁ B₁ L₁ E Q fun u s₂ Z₂ ρ₂ g₂ B₂ L₂ hf₂ => k u s₂ Z₂ ρ₂ (g₁.trans B₁ L₁.alive g₂) B₂ L₂ hf₂
end
end Mine
end
section
open PySem PySem.W PyProof.Rows Builtin Builtin.ObjectAttr
set_option maxRecDepth 100000
set_option linter.all false
namespace Mine
section
variable {prog : Program} {w : World} {h₀ : Heap} {A : Around} {E : Value → Shared → Prop} {s s' : Shared} {Z Z' : ZP} {ρ ρ' : List Addr} {σ σ₁ σ₂ σ' σb : Store} {n : Nat} {K : Frag} {env : Env} {φ φ₁ φ₂ : Frm} {sc : Scope} {R : Result → Shared → Prop}

/-- a call's code, from what the body does -/
theorem code_fnB {a : Addr} {fd : FuncData} {body : List Stmt} (F : FnOk h₀ a fd body) (hA : AOk (n + 1) A) {names : List Str} {pvs : List PV} {vals : List Value} (hnn : names.Nodup) (B : Base prog w h₀ Z ρ σ s)
    (hbind : BindS prog w h₀ A Z ρ s fd vals names pvs σb) (hkind : ∀ x ∈ names, fd.scope.names.lookup x = some .local ∨ fd.scope.names.lookup x = some .cell) {pv : PV}
    (hbody : ∀ (env : Env) (s₁ : Shared) (Z₁ : ZP) (ρ₁ : List Addr), env.scope = fd.scope → Base prog w h₀ Z₁ ρ₁ σb s₁ → Loc Z₁ ρ₁ env (frmOf fd.scope (names.zip pvs)) s₁ →
      ∀ (E : Value → Shared → Prop) (Q : Flow → Shared → Prop), (∀ f s' Z' ρ', Grow (envAdrs env) Z₁ ρ₁ s₁ Z' ρ' s' → Base prog w h₀ Z' ρ' σ' s' → VR Z' ρ' pv (match f with | .ret v => v | _ => .none) → Q f s') → wpAny (model prog w) (A.deeper env) (execs body env) Q E s₁)
    (k : ∀ v s' Z' ρ', Grow [] Z ρ s Z' ρ' s' → Base prog w h₀ Z' ρ' σ' s' → VR Z' ρ' pv v → R (.ok (.ret v)) s') :
    codeAny (model prog w) A (.call (.ref a) ⟨vals, []⟩) R s := by
  obtain ⟨o, ho, hd⟩ := F.at_
  refine codeAny_call_function hA.room (B.h0 _ _ ho) hd F.co F.gen F.body (F.code.keeps B.h0) ?_
  refine hbind _ _ fun sb Zb ρb vs gb Bb hv hlen => ?_
  rw [F.clo]
  refine wpAny_newFunctionEnv_cells F.kind (fun y hy => ?_) fun env he s₁ x => ?_
  · have hm : y.1 ∈ names := (List.of_mem_zip (a := y.1) (b := y.2) hy).1
    rcases hkind y.1 hm with q | q
    · exact .inl q
    · refine .inr ⟨q, ?_⟩
      obtain ⟨c, hc⟩ := lookup_some (l := cellsFrom (sb.heap.objs.size + 1) fd.scope.names []) (cellsFrom_key.mpr (.inr (mem_of_lookup q)))
      rw [hc]; rfl
  · subst he
    have x' : InCallC sb (callEnvC fd sb.heap.objs.size a).locals (bindL (callEnvC fd sb.heap.objs.size a).kindOf (names.zip vs) fun _ => none) (callEnvC fd sb.heap.objs.size a).cells (bindC (callEnvC fd sb.heap.objs.size a).kindOf (names.zip vs) fun _ => none) s₁ := x
    obtain ⟨g, B₁, L₁, hfr⟩ := entry_loc F hnn hlen Bb hv x'
    refine ⟨F.lim.keeps B₁.h0, codeAny_func ?_⟩
    refine hbody (callEnvC fd sb.heap.objs.size a) s₁ Zb ρb rfl B₁ L₁ _ _ fun f s' Z' ρ' g' B' r' => ?_
    refine k _ s' Z' ρ' ?_ B' r'
    have gg : Grow (envAdrs (callEnvC fd sb.heap.objs.size a)) Zb ρb sb Z' ρ' s' := g.nil.trans B₁ L₁.alive g'
    exact gb.tr Bb (gg.trim fun b hb => .inr (hfr b hb))

/-- a body as one SndF -/
theorem body_of {f : Fl} {φ' : Frm} {pv : PV} {body : List Stmt} (h : SndF prog w h₀ A env Z ρ s (execs body env) f φ' σ') (hf : retV f = some pv) :
    ∀ (E : Value → Shared → Prop) (Q : Flow → Shared → Prop), (∀ f s' Z' ρ', Grow (envAdrs env) Z ρ s Z' ρ' s' → Base prog w h₀ Z' ρ' σ' s' → VR Z' ρ' pv (match f with | .ret v => v | _ => .none) → Q f s') → wpAny (model prog w) A (execs body env) Q E s := fun E Q k =>
  h E Q fun v s' Z' ρ' g B' L' hfl => k v s' Z' ρ' g B' (by
    cases f with
    | nxt => cases hfl; cases hf; exact .none
    | ret p => obtain ⟨u, rfl, hu⟩ := hfl; cases hf; exact hu
    | brk => cases hf
    | cnt => cases hf)

theorem AOk.undr (hA : AOk (n + 1) A) (C : Addr) (rest : List Value) (kw : List (Str × Value)) : AOk n (A.under (.builtin "type.__call__" ⟨.ref C :: rest, kw⟩)) := by
  have h1 : (A.under (.builtin "type.__call__" ⟨.ref C :: rest, kw⟩)).depth = A.depth + 1 := rfl
  have h2 : (A.under (.builtin "type.__call__" ⟨.ref C :: rest, kw⟩)).units = A.units + (Code.builtin "type.__call__" ⟨.ref C :: rest, kw⟩).cUnits := rfl
  have h3 : (Code.builtin "type.__call__" ⟨.ref C :: rest, kw⟩).cUnits ≤ 3 := by show (_ : Nat) ≤ 3; first | exact Nat.le_refl _ | exact Nat.le_of_ble_eq_true rfl | (kernel_rfl)
  have a1 := hA.dp
  have a2 := hA.un
  exact ⟨hA.hh, by rw [h1]; omega, by rw [h2]; omega⟩

theorem graph_snd {C fI : Addr} (X : K.In h₀) (mk : makesIn K C = true) (ini : findIn K (.ref C) "__init__" = some (some (.ref fI))) (tfI : typeIn K (.ref fI) = some (.type "function")) (hA : AOk (n + 1) A) (B : Base prog w h₀ Z ρ σ s)
    (hinit : ∀ (A' : Around) (s' : Shared) (Z' : ZP) (ρ' : List Addr) (x : Addr) (R : Result → Shared → Prop), AOk n A' → Base prog w h₀ Z' ρ' ((σ ++ [.attrs []]) ++ [.inst C σ.length]) s' → ρ'[σ.length + 1]? = some x →
      (∀ v s'' Z'' ρ'', Grow [] Z' ρ' s' Z'' ρ'' s'' → Base prog w h₀ Z'' ρ'' σ' s'' → VR Z'' ρ'' (.d .none) v → R (.ok (.ret v)) s'') → codeAny (model prog w) A' (.call (.ref fI) ⟨[.ref x], []⟩) R s') :
    SndV prog w h₀ A Z ρ s (call (.ref C) []) (.ref (σ.length + 1)) σ' := fun E Q k => by
  have X' := X.keeps B.h0
  obtain ⟨h, g, d, t, os⟩ := s
  have B0 := B
  obtain ⟨g1, B1⟩ := push_cell B (emptyDict) (.attrs []) ⟨_, Heap.get?_push_size _ rfl, fun x pv hx => by simp at hx, fun x _ => rfl, [], 0, rfl, Nat.le_refl _⟩
  have hl : (ρ ++ [h.objs.size])[σ.length]? = some h.objs.size := by rw [← B.len]; simp
  have hi : OR prog w Z ((ρ ++ [h.objs.size]) ++ [(h.push emptyDict).objs.size]) ((h.push emptyDict).push (instObj C h.objs.size)) (h.push emptyDict).objs.size (.inst C σ.length) :=
    ⟨h.objs.size, by rw [List.getElem?_append_left (by simp [B.len])]; exact hl, Heap.get?_push_size _ rfl⟩
  obtain ⟨g2, B2⟩ := push_cell B1 (instObj C h.objs.size) (.inst C σ.length) hi
  refine wpAny_call (make_core (makes_of X' mk) (looks_findIn X' ini) (fun self => bind_fn X' self tfI) (.inl rfl) ?_)
  have hx : ((ρ ++ [h.objs.size]) ++ [(h.push emptyDict).objs.size])[σ.length + 1]? = some (h.objs.size + 1) := by
    rw [List.getElem?_append_right (by simp [B.len])]
    simp [B.len, Heap.size_push]
  refine hinit _ _ _ _ _ _ (hA.undr _ _ _) B2 hx fun v s'' Z'' ρ'' g3 B3 r => ?_
  refine ⟨by cases r; rfl, ?_⟩
  refine k _ s'' Z'' ρ'' ((g1.tr B1 g2).tr B2 g3) B3 ?_
  obtain ⟨l, e, _⟩ := g3.pre
  refine ⟨_, ?_, rfl⟩
  rw [e, List.getElem?_append_left (by obtain ⟨q, _⟩ := List.getElem?_eq_some_iff.mp hx; exact q)]
  exact hx
end
end Mine
end
section
open PySem PySem.W PyProof.Rows
open Sem (wp)
set_option maxRecDepth 100000
set_option linter.all false
namespace Mine
section
variable {M : Model} {A : Around} {R : GenEnd} {Y : Protocol} {n : Nat} {s₀ : Shared} {c : Code} {fs : List Frame} {s : Shared} {env : Env}
  {K : Flow → Sem Fin} {H : Value → Sem Fin} {gd : Bool → Bool} {lv : List Value → List Value}

def backK (env : Env) (K : Flow → Sem Fin) (H : Value → Sem Fin) (gd : Bool → Bool) (lv : List Value → List Value) (r : Result) : Sem Fin :=
  ((match r with | .ok f => (.pure f : Sem Flow) | .error e => .raise e).onRaise fun (x : Value) => do
        if (← field x 1) == Value.none then unsupported "frame.own-activation:exception-without-traceback"
        setFlight x env.frame).wrap K H gd lv
theorem backK_ok (f : Flow) : backK env K H gd lv (.ok f) = K f := rfl

theorem seg_For {target iter : Expr} {body orelse : List Stmt} {pos : Pos} (hf : ∀ x, foldedSetIterable iter env x = pure x)
    (h : wpAny M (A.over c fs) (eval iter env) (fun x s₁ => wpAny M (A.over c fs) (pyIter x) (fun it s₂ => ∀ p, Seg M A R Y n s₀ (.forLoop target it body orelse env) (M.den (.forLoop target it body orelse env))
        (.ret (backK env K H gd lv) none (gd false) (lv []) c p [] :: fs) s₂) (fun x s' => Seg M A R Y n s₀ c (H x) fs s') s₁) (fun x s' => Seg M A R Y n s₀ c (H x) fs s') s) :
    Seg M A R Y n s₀ c ((exec (.For target iter body orelse pos) env).wrap K H gd lv) fs s := by
  rw [exec_For]
  refine seg_bind_wrap (wpAny_standAt (seg_bind_wrap (wpAny_mono h (fun x s₁ h₁ => ?_) fun _ _ e => e)))
  rw [hf]
  refine seg_bind_wrap (wpAny_pure (seg_bind_wrap (wpAny_standAt (seg_bind_wrap (wpAny_holding (wpAny_mono h₁ (fun it s₂ h₂ => ?_) fun _ _ e => e))))))
  exact seg_call h₂

theorem seg_If {test : Expr} {body orelse : List Stmt} {pos : Pos}
    (h : wpAny M (A.over c fs) (isTrue test env (eval test env)) (fun b s₁ => Seg M A R Y n s₀ c ((if b = true then execs body env else execs orelse env).wrap K H gd lv) fs s₁) (fun x s' => Seg M A R Y n s₀ c (H x) fs s') s) :
    Seg M A R Y n s₀ c ((exec (.If test body orelse pos) env).wrap K H gd lv) fs s := by
  rw [exec_If]
  exact seg_bind_wrap (wpAny_standAt (seg_bind_wrap h))
end

section
variable {prog : Program} {w : World} {A : Around} {R : GenEnd} {Y : Protocol} {n : Nat} {s₀ : Shared} {fs : List Frame} {s : Shared} {env : Env}

def failK (env : Env) (e : Value) : Sem Fin := (do noteFrame e env; theTreesLotGoes e : Sem Unit).wrap (fun _ => .raise e) .raise id id
def turnK (target : Expr) (it : Value) (body : List Stmt) (env : Env) (f : Flow) : Sem Fin := match f with
  | .next | .cont => .pure (.again (.forLoop target it body [] env))
  | .brk => .pure (.done .next)
  | .ret v => .pure (.done (.ret v))

theorem seg_forLoop {target : Expr} {it : Value} {body : List Stmt} (ht : ∀ v, letOwnedTupleGo target it v = pure ())
    (h : ∀ E, wpAny (model prog w) (A.over (.forLoop target it body [] env) fs) (pyNext it) (fun r s₁ => match r with
      | none => Seg (model prog w) A R Y n s₀ (.forLoop target it body [] env) (.pure (.again (.block [] env))) fs s₁
      | some v => ∀ E, wpAny (model prog w) (A.over (.forLoop target it body [] env) fs) (assign target env v) (fun _ s₂ =>
          Seg (model prog w) A R Y n s₀ (.forLoop target it body [] env) ((execs body env).wrap (turnK target it body env) (failK env) id id) fs s₂) E s₁) E s) :
    Seg (model prog w) A R Y n s₀ (.forLoop target it body [] env) ((model prog w).den (.forLoop target it body [] env)) fs s := by
  show Seg _ A R Y n s₀ _ ((forTurn target it body [] env).onRaise (fun x => do noteFrame x env; theTreesLotGoes x)) fs s
  unfold forTurn
  rw [Sem.onRaise_eq_wrap]
  refine seg_bind_wrap (wpAny_standAt (seg_bind_wrap (wpAny_onRaise (wpAny_mono (h _) (fun r s₁ h₁ => ?_) fun _ _ e => wpAny_standAt e))))
  cases r with
  | none => exact h₁
  | some v =>
    refine seg_bind_wrap (wpAny_of_eq (ht v) ?_)
    refine seg_bind_wrap (wpAny_mono (h₁ _) (fun _ s₂ h₂ => ?_) fun _ _ e => e)
    rw [Sem.bind_eq_wrap', Sem.wrap_wrap]
    rw [Sem.wrap_congr (execs body env) _ _ (K' := turnK target it body env) (H' := failK env) (fun f => by cases f <;> rfl)
        (fun e => by first | exact Sem.bind_eq_wrap _ _ | (show (do noteFrame e env; theTreesLotGoes e : Sem Unit).bind (fun _ => .raise e) = _; rw [Sem.bind_eq_wrap]; rfl))]
    exact h₂

theorem seg_block_nil (h : Seg (model prog w) A R Y n s₀ (.block [] env) (.pure (.done .next)) fs s) : Seg (model prog w) A R Y n s₀ (.block [] env) ((model prog w).den (.block [] env)) fs s := by
  show Seg _ A R Y n s₀ _ (Sem.bind ((execs [] env).onRaise (fun x => do noteFrame x env; theTreesLotGoes x)) fun f => .pure (.done f)) fs s
  exact h
end
end Mine
end
section
open PySem PySem.W PyProof.Rows
open Sem (wp)
set_option maxRecDepth 100000
set_option linter.all false
namespace Mine
section
variable {M : Model} {A : Around} {R : GenEnd} {Y : Protocol} {n : Nat} {s₀ : Shared} {c : Code} {fs : List Frame} {s : Shared} {env : Env}
  {K : Flow → Sem Fin} {H : Value → Sem Fin} {gd : Bool → Bool} {lv : List Value → List Value}
theorem execs_app_wrap (a b : List Stmt) : (execs (a ++ b) env).wrap K H gd lv = (execs a env).wrap (fun f => match f with | .next => (execs b env).wrap K H gd lv | f => K f) H gd lv := by
  rw [execs_append, Sem.bind_eq_wrap', Sem.wrap_wrap]
  exact Sem.wrap_congr _ _ _ (fun f => by cases f <;> rfl) (fun _ => rfl)
theorem seg_execs_app {a b : List Stmt} (h : Seg M A R Y n s₀ c ((execs a env).wrap (fun f => match f with | .next => (execs b env).wrap K H gd lv | f => K f) H gd lv) fs s) :
    Seg M A R Y n s₀ c ((execs (a ++ b) env).wrap K H gd lv) fs s := by
  rw [execs_app_wrap]; exact h
end

/-- what the loop of a generator does, turn by turn: j yields are left -/
inductive PL (r : Rec) (sc : Scope) (x : Str) (test : Expr) (pre : List Stmt) (ye : Expr) (pvY : Nat → PV) (σY σC : Nat → Store) : List PyData → Frm → Store → Nat → Prop
  | nil {φ : Frm} : PL r sc x test pre ye pvY σY σC [] φ (σC 0) 0
  | skip {v : PyData} {vs : List PyData} {φ φ₁ : Frm} {σ : Store} {j : Nat} : stN sc φ x (.d v) = some φ₁ → r.tr sc φ₁ test σ = some (false, σ) → PL r sc x test pre ye pvY σY σC vs φ₁ σ j → PL r sc x test pre ye pvY σY σC (v :: vs) φ σ j
  | yld {v : PyData} {vs : List PyData} {φ φ₁ φ₂ : Frm} {σ σ₁ : Store} {j : Nat} : stN sc φ x (.d v) = some φ₁ → r.tr sc φ₁ test σ = some (true, σ) → exs r sc pre φ₁ σ = some (.nxt, φ₂, σ₁) →
      r.ev sc φ₂ ye σ₁ = some (pvY (j + 1), σY (j + 1)) → PL r sc x test pre ye pvY σY σC vs φ₂ (σC j) j → PL r sc x test pre ye pvY σY σC (v :: vs) φ σ (j + 1)

structure GenC (prog : Program) (w : World) (h₀ : Heap) (cX : List Addr) (hs : Heap) (C : Nat → ZP → List Addr → Shared → Prop) : Prop where
  grow : ∀ {j : Nat} {X : List Addr} {Z Z' : ZP} {ρ ρ' : List Addr} {σ σ' : Store} {s s' : Shared}, C j Z ρ s → Base prog w h₀ Z ρ σ s → Grow X Z ρ s Z' ρ' s' → Base prog w h₀ Z' ρ' σ' s' → (∀ b ∈ X, b ∉ cX ∧ hs.get? b = none ∧ ∃ o, s.heap.get? b = some o) → C j Z' ρ' s'

def genY (prog : Program) (w : World) (h₀ : Heap) (cX : List Addr) (C : Nat → ZP → List Addr → Shared → Prop) (g : Nat) (pvY : Nat → PV) (σY σC : Nat → Store) : Protocol := fun m _ v s kap => match m with
  | 0 => False
  | m + 1 => ∃ (Z : ZP) (ρ : List Addr), Base prog w h₀ Z ρ (σY (m + 1)) s ∧ VR Z ρ (pvY (m + 1)) v ∧ C (m + 1) Z ρ s ∧ s.gens[g]? = some .running ∧
      ∀ (s'' : Shared) (Z'' : ZP) (ρ'' : List Addr), Grow cX Z ρ s Z'' ρ'' s'' → Base prog w h₀ Z'' ρ'' (σC m) s'' → C m Z'' ρ'' s'' → kap (.send .none) s''
def genP (prog : Program) (w : World) (h₀ : Heap) (C : Nat → ZP → List Addr → Shared → Prop) (g : Nat) (σC : Nat → Store) (n : Nat) (_ : Shared) (s₁ : Shared) : Prop :=
  n = 1 ∧ ∃ (Z : ZP) (ρ : List Addr), Base prog w h₀ Z ρ (σC 0) s₁ ∧ C 0 Z ρ s₁ ∧ s₁.gens[g]? = some .running
def genR (prog : Program) (w : World) (h₀ : Heap) (C : Nat → ZP → List Addr → Shared → Prop) (g : Nat) (σC : Nat → Store) : GenEnd := fun n s₀ r s₁ => r = .ok (.ret .none) ∧ genP prog w h₀ C g σC n s₀ s₁

section
variable {prog : Program} {w : World} {h₀ : Heap} {A : Around} {E : Value → Shared → Prop} {s s' s₀ : Shared} {Z Z' : ZP} {ρ ρ' : List Addr} {σ σ' σ'' σ₁ : Store} {env : Env} {φ φ' : Frm} {n : Nat} {X : List Addr} {sc : Scope} {T : Txt}

theorem Grow.gens {g : Nat} {x : GenState} (h : Grow X Z ρ s Z' ρ' s') (hg : s.gens[g]? = some x) : s'.gens[g]? = some x := by
  obtain ⟨l, e, _⟩ := h.sh.2
  have h1 : s.gens.toList[g]? = some x := by rw [Array.getElem?_toList]; exact hg
  have : s'.gens.toList[g]? = some x := by
    rw [e, List.getElem?_append_left (List.getElem?_eq_some_iff.mp h1).1]; exact h1
  rw [Array.getElem?_toList] at this
  exact this

theorem genFrame {body : List Stmt} {genv : Env} {target : Expr} {it : Value} {lb : List Stmt} {k : Result → Sem Fin} {p : Pos} :
    A.over (.forLoop target it lb [] genv) [.ret k none false [] (.func body genv) p []] = A.over (.func body genv) [] := by rfl
theorem AOk.gen (hA : AOk (n + 1) A) (body : List Stmt) (genv : Env) : AOk n (A.over (.func body genv) []) :=
  ⟨hA.hh, by have := hA.dp; show A.depth + 0 + 1 + n < 990; omega, by have := hA.un; show A.units + 0 + 3 + 3 * n + 100 < 9900; omega⟩
end
end Mine
end
section
open PySem PySem.W PyProof.Rows
open Sem (wp)
set_option maxRecDepth 100000
set_option linter.all false
namespace Mine
section
variable {prog : Program} {w : World} {h₀ : Heap} {A : Around} {E : Value → Shared → Prop} {s s' s₀ : Shared} {Z Z' : ZP} {ρ ρ' : List Addr} {σ σ' σ'' σ₁ : Store} {env : Env} {φ φ' : Frm} {n : Nat} {X : List Addr} {sc : Scope} {T : Txt}

theorem genFrame' {body : List Stmt} {genv : Env} {k : Result → Sem Fin} {p : Pos} {c : Code} (hc : c = .block [] genv) : A.over c [.ret k none false [] (.func body genv) p []] = A.over (.func body genv) [] := by subst hc; rfl

theorem gen_loop {r : Rec} (S : SoundR prog w h₀ r n) {body : List Stmt} {genv : Env} (hA : AOk n (A.over (.func body genv) [])) (hs : genv.scope = sc) (hco : genv.scope.isCoroutine = false) (hin : interactive genv = false)
    {x : Str} {px : Pos} {test : Expr} {pre : List Stmt} {ye : Expr} {yp ep ip : Pos} {I : Addr} {items : List PyData} {cX : List Addr} {hsH : Heap} {C : Nat → ZP → List Addr → Shared → Prop} {g : Nat} {pvY : Nat → PV} {σY σC : Nat → Store}
    (GC : GenC prog w h₀ cX hsH C) (hcX : ∀ b ∈ allAdrs genv, b ∉ cX) (hhs : ∀ b ∈ envAdrs genv, hsH.get? b = none) (hIX : I ∉ allAdrs genv) (hIc : I ∉ cX) (hIh : hsH.get? I = none) {kf : Result → Sem Fin} {p : Pos} (hkf : kf (.ok .next) = .pure (.done (.ret .none))) :
    ∀ (rest : List PyData) (i : Nat) {φ : Frm} {σ : Store} {Z : ZP} {ρ : List Addr} {s s₀ : Shared} {j : Nat}, items.drop i = rest → i ≤ items.length → PL r sc x test pre ye pvY σY σC rest φ σ j → Base prog w h₀ Z ρ σ s → Loc Z ρ genv φ s → Own I Z ρ s →
      Itr prog w (A.over (.func body genv) []) Z I items i s.heap → C j Z ρ s → s.gens[g]? = some .running →
      Seg (model prog w) A (genR prog w h₀ C g σC) (genY prog w h₀ cX C g pvY σY σC) (j + 1) s₀ (.forLoop (.Name x px) (.ref I) [.If test (pre ++ [.Expr (.Yield (some ye) yp) ep]) [] ip] [] genv)
        ((model prog w).den (.forLoop (.Name x px) (.ref I) [.If test (pre ++ [.Expr (.Yield (some ye) yp) ep]) [] ip] [] genv)) [.ret kf none false [] (.func body genv) p []] s
  | [], i, φ, σ, Z, ρ, s, s₀, j, hd, hi, hp, B, L, O, it, hC, hg => by
    have hin' : i = items.length := by
      have := List.drop_eq_nil_iff.mp hd
      omega
    subst hin'
    obtain ⟨fp, P, St, W, al, st, hf, hP⟩ := it
    cases hp
    refine seg_forLoop (fun _ => rfl) fun E => ?_
    rw [genFrame]
    refine W.done s _ _ st fun h' tk hk => ?_
    obtain ⟨g₁, B'⟩ := O.move (tk := tk) B hk
    refine seg_again rfl (seg_block_nil (seg_leaf (.ok .next) ?_))
    rw [hkf]
    refine seg_end (.ok (.ret .none)) ⟨rfl, rfl, Z, ρ, B', GC.grow hC B g₁ B' (fun b hb => ?_), g₁.gens hg⟩
    rw [List.mem_singleton.mp hb]
    exact ⟨hIc, hIh, O.a⟩
  | d :: rest, i, φ, σ, Z, ρ, s, s₀, j, hd, hi, hp, B, L, O, it, hC, hg => by
    have hlt : i < items.length := by
      rcases Nat.lt_or_ge i items.length with q | q
      · exact q
      · rw [List.drop_eq_nil_of_le q] at hd; cases hd
    have hat : items[i]? = some d := by
      have := congrArg (·[0]?) hd
      simpa using this
    have hd' : items.drop (i + 1) = rest := by
      have := congrArg List.tail hd
      simpa using this
    obtain ⟨fp, P, St, W, al, st, hf, hP⟩ := it
    have fine : ∀ {Z ρ s φ}, Own I Z ρ s → Loc Z ρ genv φ s → ∀ b ∈ I :: envAdrs genv, b ∉ cX ∧ hsH.get? b = none ∧ ∃ o, s.heap.get? b = some o := fun O L b hb => by
      rcases List.mem_cons.mp hb with e | hb
      · rw [e]; exact ⟨hIc, hIh, O.a⟩
      · exact ⟨hcX b (env_all hb), hhs b hb, L.alive b hb⟩
    have hXI : ∀ b ∈ [I], b ∈ I :: envAdrs genv := fun b hb => by rw [List.mem_singleton.mp hb]; exact List.mem_cons_self
    have hXe : ∀ b ∈ envAdrs genv, b ∈ I :: envAdrs genv := fun b hb => List.mem_cons_of_mem _ hb
    refine seg_forLoop (fun _ => rfl) fun E => ?_
    rw [genFrame]
    refine W.item i s _ _ hlt st fun v h' tk hpv st' hk => ?_
    dsimp only
    intro E'
    obtain ⟨g₁, B₁⟩ := O.move (tk := tk) B hk
    have O₁ : Own I Z ρ { s with heap := h', toks := tk } := ⟨O.z, O.r, al _ _ st'⟩
    have L₁ := L.off hIX g₁
    have it₁ : Itr prog w (A.over (.func body genv) []) Z I items (i + 1) ({ s with heap := h', toks := tk } : Shared).heap := ⟨fp, P, St, W, al, st', hf, hP⟩
    have C₁ := GC.grow hC B g₁ B₁ (fun b hb => fine O L b (hXI b hb))
    have turn : ∀ φ₁, stN sc φ x (.d d) = some φ₁ → ∀ (k : ∀ s₂, Base prog w h₀ Z ρ σ s₂ → Loc Z ρ genv φ₁ s₂ → Own I Z ρ s₂ → Itr prog w (A.over (.func body genv) []) Z I items (i + 1) s₂.heap → C j Z ρ s₂ → s₂.gens[g]? = some .running →
        Seg (model prog w) A (genR prog w h₀ C g σC) (genY prog w h₀ cX C g pvY σY σC) (j + 1) s₀ (.forLoop (.Name x px) (.ref I) [.If test (pre ++ [.Expr (.Yield (some ye) yp) ep]) [] ip] [] genv)
          ((execs [.If test (pre ++ [.Expr (.Yield (some ye) yp) ep]) [] ip] genv).wrap (turnK (.Name x px) (.ref I) [.If test (pre ++ [.Expr (.Yield (some ye) yp) ep]) [] ip] genv) (failK genv) id id) [.ret kf none false [] (.func body genv) p []] s₂),
        wpAny (model prog w) (A.over (.func body genv) []) (assign (.Name x px) genv v) (fun _ s₂ => Seg (model prog w) A (genR prog w h₀ C g σC) (genY prog w h₀ cX C g pvY σY σC) (j + 1) s₀ (.forLoop (.Name x px) (.ref I) [.If test (pre ++ [.Expr (.Yield (some ye) yp) ep]) [] ip] [] genv)
          ((execs [.If test (pre ++ [.Expr (.Yield (some ye) yp) ep]) [] ip] genv).wrap (turnK (.Name x px) (.ref I) [.If test (pre ++ [.Expr (.Yield (some ye) yp) ep]) [] ip] genv) (failK genv) id id) [.ret kf none false [] (.func body genv) p []] s₂) E' { s with heap := h', toks := tk } := by
      intro φ₁ h1 k
      refine wpAny_assign_Name (snd_store hs h1 (hP i v d hpv hat) B₁ L₁ fun s₂ g₂ B₂ L₂ => ?_)
      exact k s₂ B₂ L₂ (O₁.grow g₂ (not_env hIX)) (it₁.grow O₁ B₁ g₂ (not_env hIX) B₂) (GC.grow C₁ B₁ g₂ B₂ fun b hb => fine O₁ L₁ b (hXe b hb)) (g₂.gens (g₁.gens hg))
    cases hp with
    | @skip _ _ _ φ₁ _ _ h1 h2 h3 =>
      refine turn φ₁ h1 fun s₂ B₂ L₂ O₂ it₂ C₂ hg₂ => ?_
      refine seg_execs_cons (seg_If ?_)
      rw [genFrame]
      refine S.tr h2 hA hs B₂ L₂ _ _ fun s₃ Z₃ ρ₃ g₃ B₃ => ?_
      simp only [Bool.false_eq_true, if_false]
      refine seg_execs_nil ?_
      dsimp only
      refine seg_execs_nil ?_
      refine seg_again rfl ?_
      exact gen_loop S hA hs hco hin GC hcX hhs hIX hIc hIh hkf rest (i + 1) hd' hlt h3 B₃ (L₂.grow g₃) (O₂.grow g₃ (fun h => nomatch h)) (it₂.grow O₂ B₂ g₃ (fun h => nomatch h) B₃) (GC.grow C₂ B₂ g₃ B₃ (fun _ h => nomatch h)) (g₃.gens hg₂)
    | @yld _ _ _ φ₁ φ₂ _ σ₁ m h1 h2 h3 h4 h5 =>
      refine turn φ₁ h1 fun s₂ B₂ L₂ O₂ it₂ C₂ hg₂ => ?_
      refine seg_execs_cons (seg_If ?_)
      rw [genFrame]
      refine S.tr h2 hA hs B₂ L₂ _ _ fun s₃ Z₃ ρ₃ g₃ B₃ => ?_
      simp only [if_true]
      have L₃ := L₂.grow g₃
      have O₃ := O₂.grow g₃ (fun h => nomatch h)
      have it₃ := it₂.grow O₂ B₂ g₃ (fun h => nomatch h) B₃
      have C₃ := GC.grow C₂ B₂ g₃ B₃ (fun _ h => nomatch h)
      have hg₃ := g₃.gens hg₂
      refine seg_execs_app (seg_wrap ?_)
      rw [genFrame]
      refine snd_exs S hA hs h3 B₃ L₃ _ _ fun f s₄ Z₄ ρ₄ g₄ B₄ L₄ hf₄ => ?_
      cases hf₄
      dsimp only
      have O₄ := O₃.grow g₄ (not_env hIX)
      have it₄ := it₃.grow O₃ B₃ g₄ (not_env hIX) B₄
      have C₄ := GC.grow C₃ B₃ g₄ B₄ fun b hb => fine O₃ L₃ b (hXe b hb)
      have hg₄ := g₄.gens hg₃
      refine seg_execs_cons (seg_Expr_Yield rfl rfl rfl ?_ hco hin)
      rw [genFrame]
      refine S.ev h4 hA hs B₄ L₄ _ _ fun v₅ s₅ Z₅ ρ₅ g₅ B₅ r₅ => ?_
      intro kap hkap
      have L₅ := L₄.grow g₅
      have O₅ := O₄.grow g₅ (fun h => nomatch h)
      have it₅ := it₄.grow O₄ B₄ g₅ (fun h => nomatch h) B₅
      have C₅ := GC.grow C₄ B₄ g₅ B₅ (fun _ h => nomatch h)
      refine ⟨Z₅, ρ₅, B₅, r₅, C₅, g₅.gens hg₄, fun s₆ Z₆ ρ₆ g₆ B₆ C₆ => hkap .none s₆ ?_⟩
      dsimp only
      refine seg_execs_nil ?_
      dsimp only
      refine seg_execs_nil ?_
      refine seg_again rfl ?_
      have hgl : genv.locals ∉ cX := hcX _ List.mem_cons_self
      have L₆ := L₅.step g₆ hgl fun y c hc => hcX c (List.mem_cons_of_mem _ (List.mem_map.mpr ⟨(y, c), hc, rfl⟩))
      exact gen_loop S hA hs hco hin GC hcX hhs hIX hIc hIh hkf rest (i + 1) hd' hlt h5 B₆ L₆ (O₅.grow g₆ hIc) (it₅.grow O₅ B₅ g₆ hIc B₆) C₆ (g₆.gens (g₅.gens hg₄))
end
end Mine
end
section
open PySem PySem.W PyProof.Rows
open Sem (wp)
set_option maxRecDepth 100000
set_option linter.all false
namespace Mine
section
variable {prog : Program} {w : World} {h₀ : Heap} {A : Around} {E : Value → Shared → Prop} {s s' s₀ : Shared} {Z Z' : ZP} {ρ ρ' : List Addr} {σ σ' σ'' σ₀ σ₁ σ₂ : Store} {env : Env} {φ φ' φ₀ φ₁ : Frm} {n : Nat} {X : List Addr} {sc : Scope} {T : Txt}

/-- what a for of a generator goes over -/
def IterS (prog : Program) (w : World) (h₀ : Heap) (A : Around) (env : Env) (iter : Expr) (items : List PyData) (φ : Frm) (σ σ' : Store) : Prop :=
  ∀ (s : Shared) (Z : ZP) (ρ : List Addr), Base prog w h₀ Z ρ σ s → Loc Z ρ env φ s → ∀ (E : Value → Shared → Prop) (Q : Value → Shared → Prop),
    (∀ (I : Addr) (s₂ : Shared) (Z₂ : ZP) (ρ₂ : List Addr), Grow [] Z ρ s Z₂ ρ₂ s₂ → Base prog w h₀ Z₂ ρ₂ σ' s₂ → Own I Z₂ ρ₂ s₂ → Itr prog w A Z₂ I items 0 s₂.heap → s.heap.get? I = none → Q (.ref I) s₂) →
      wpAny (model prog w) A (eval iter env) (fun x s₁ => wpAny (model prog w) A (pyIter x) Q E s₁) E s

theorem gen_start {r : Rec} (S : SoundR prog w h₀ r n) {pre0 : List Stmt} {genv : Env} {x : Str} {px : Pos} {test : Expr} {pre : List Stmt} {ye iter : Expr} {yp ep ip fp : Pos} {body : List Stmt}
    (hbody : body = pre0 ++ [.For (.Name x px) iter [.If test (pre ++ [.Expr (.Yield (some ye) yp) ep]) [] ip] [] fp]) (hA : AOk n (A.over (.func body genv) [])) (hs : genv.scope = sc) (hco : genv.scope.isCoroutine = false) (hin : interactive genv = false)
    {items : List PyData} {cX : List Addr} {hsH : Heap} {C : Nat → ZP → List Addr → Shared → Prop} {g : Nat} {pvY : Nat → PV} {σY σC : Nat → Store}
    (GC : GenC prog w h₀ cX hsH C) (hcX : ∀ b ∈ allAdrs genv, b ∉ cX) (hhs : ∀ b ∈ envAdrs genv, hsH.get? b = none) {N : Nat}
    (h0 : ∀ (s : Shared) (Z : ZP) (ρ : List Addr), Base prog w h₀ Z ρ σ₀ s → Loc Z ρ genv φ₀ s → SndF prog w h₀ (A.over (.func body genv) []) genv Z ρ s (execs pre0 genv) .nxt φ₁ σ₁)
    (hf : ∀ x, foldedSetIterable iter genv x = pure x) (hI : IterS prog w h₀ (A.over (.func body genv) []) genv iter items φ₁ σ₁ σ₂) (hp : PL r sc x test pre ye pvY σY σC items φ₁ σ₂ N)
    (B : Base prog w h₀ Z ρ σ₀ s) (L : Loc Z ρ genv φ₀ s) (hC : C N Z ρ s) (hg : s.gens[g]? = some .running) (hal : ∀ b, (b ∈ cX ∨ ∃ o, hsH.get? b = some o) → ∃ o, s.heap.get? b = some o) :
    Seg (model prog w) A (genR prog w h₀ C g σC) (genY prog w h₀ cX C g pvY σY σC) (N + 1) s₀ (.func body genv) ((model prog w).den (.func body genv)) [] s := by
  refine seg_func ?_
  have hwrap : ∀ (K : Flow → Sem PySem.Fin) (H : Value → Sem PySem.Fin), (execs body genv).wrap K H id id = (execs pre0 genv).wrap (fun f => match f with | .next => (execs [.For (.Name x px) iter [.If test (pre ++ [.Expr (.Yield (some ye) yp) ep]) [] ip] [] fp] genv).wrap K H id id | f => K f) H id id := fun K H => by
    rw [hbody, execs_app_wrap]
    all_goals exact Sem.wrap_congr _ _ _ (fun f => by cases f <;> rfl) (fun _ => rfl)
  rw [hwrap]
  refine seg_wrap (h0 s Z ρ B L _ _ fun f s₁ Z₁ ρ₁ g₁ B₁ L₁ hf₁ => ?_)
  cases hf₁
  dsimp only
  have C₁ := GC.grow hC B g₁ B₁ fun b hb => ⟨hcX b (env_all hb), hhs b hb, L.alive b hb⟩
  refine seg_execs_cons (seg_For hf ?_)
  refine hI s₁ Z₁ ρ₁ B₁ L₁ _ _ fun I s₂ Z₂ ρ₂ g₂ B₂ O₂ it₂ hn p => ?_
  have L₂ := L₁.grow g₂
  have C₂ := GC.grow C₁ B₁ g₂ B₂ fun _ h => nomatch h
  have hnI : s.heap.get? I = none := g₁.back B₁ L₁.alive hn
  have dead : ∀ b, (∃ o, s.heap.get? b = some o) → I ≠ b := fun b ⟨o, ho⟩ e => by rw [← e, hnI] at ho; cases ho
  have hIX : I ∉ allAdrs genv := fun hm => dead I (L.aliveAll I hm) rfl
  have hIc : I ∉ cX := fun hm => dead I (hal I (.inl hm)) rfl
  have hIh : hsH.get? I = none := by
    cases q : hsH.get? I with
    | none => rfl
    | some o => exact absurd rfl (dead I (hal I (.inr ⟨o, q⟩)))
  exact gen_loop S hA hs hco hin GC hcX hhs hIX hIc hIh rfl items 0 rfl (Nat.zero_le _) hp B₂ L₂ O₂ it₂ C₂ (g₂.gens (g₁.gens hg))
end
end Mine
end
section
open PySem PySem.W PyProof.Rows
open Sem (wp)
set_option maxRecDepth 100000
set_option linter.all false
namespace Mine
section
variable {prog : Program} {w : World} {h₀ : Heap} {A : Around} {E : Value → Shared → Prop} {s s' s₀ : Shared} {Z Z' : ZP} {ρ ρ' : List Addr} {σ σ' σ'' σ₀ σ₁ σ₂ : Store} {env : Env} {φ φ' φ₀ φ₁ : Frm} {n : Nat} {X : List Addr} {sc : Scope} {T : Txt}

theorem gen_lt {g : Nat} {x : GenState} (h : s.gens[g]? = some x) : g < s.gens.size := by
  rcases Nat.lt_or_ge g s.gens.size with h' | h'
  · exact h'
  · rw [Array.getElem?_eq_none h'] at h; cases h
theorem setGen2 (s : Shared) (g : Nat) (x y : GenState) : (s.setGen g x).setGen g y = s.setGen g y := by
  simp [Shared.setGen]
theorem setGen_same {g : Nat} {x : GenState} (h : s.gens[g]? = some x) : s.setGen g x = s := by
  have : s.gens.setIfInBounds g x = s.gens := by
    apply Array.ext_getElem?
    intro i
    rw [Array.getElem?_setIfInBounds]
    split
    · rename_i e; subst e
      rw [if_pos (gen_lt h), h]
    · rfl
  unfold Shared.setGen
  rw [this]
theorem Base.gen (B : Base prog w h₀ Z ρ σ s) (g : Nat) (x : GenState) : Base prog w h₀ Z ρ σ (s.setGen g x) := ⟨B.keep, B.old, B.len, B.objs, B.zr, B.nd⟩
theorem Loc.gen (L : Loc Z ρ env φ s) (g : Nat) (x : GenState) : Loc Z ρ env φ (s.setGen g x) := ⟨L.hk, L.gl, L.bl, L.ns, L.ce, L.al, L.ck, L.zL, L.zc, L.ap, L.wc, L.cd⟩
theorem Own.gen {I : Addr} (O : Own I Z ρ s) (g : Nat) (x : GenState) : Own I Z ρ (s.setGen g x) := ⟨O.z, O.r, O.a⟩
theorem Acc.gen {D : Addr} {acc : List PyData} (a : Acc D acc Z ρ s) (g : Nat) (x : GenState) : Acc D acc Z ρ (s.setGen g x) := ⟨a.own.gen g x, a.at_⟩
theorem Grow.gen (h : Grow X Z ρ s Z' ρ' s') {g : Nat} (hg : g < s.gens.size) (x : GenState) : Grow X Z ρ (s.setGen g x) Z' ρ' (s'.setGen g x) := by
  refine ⟨h.zz, h.zn, h.pre, h.old, h.sh.1, ?_⟩
  obtain ⟨l, e, hb⟩ := h.sh.2
  refine ⟨l, ?_, hb⟩
  show (s'.gens.setIfInBounds g x).toList = (s.gens.setIfInBounds g x).toList ++ l
  rw [Array.toList_setIfInBounds, Array.toList_setIfInBounds, e, List.set_append_left _ _ (by simpa using hg)]

/-- what the consumer keeps -/
structure CC (env : Env) (D gobj : Addr) (g : Nat) (Zs : ZP) (ρs : List Addr) (ss : Shared) (φC : Nat → Frm) (accC : Nat → List PyData) (j : Nat) (Z : ZP) (ρ : List Addr) (s : Shared) : Prop where
  loc : Loc Z ρ env (φC j) s
  acc : Acc D (accC j) Z ρ s
  own : Own gobj Z ρ s
  isg : s.heap.IsGen gobj g
  grow : Grow [] Zs ρs ss Z ρ (s.setGen g .finished)
  lt : g < s.gens.size

theorem CC.gen {D gobj : Addr} {g : Nat} {Zs : ZP} {ρs : List Addr} {ss : Shared} {φC : Nat → Frm} {accC : Nat → List PyData} {j : Nat} (c : CC env D gobj g Zs ρs ss φC accC j Z ρ s) (x : GenState) : CC env D gobj g Zs ρs ss φC accC j Z ρ (s.setGen g x) :=
  ⟨c.loc.gen g x, c.acc.gen g x, c.own.gen g x, c.isg, by rw [setGen2]; exact c.grow, by show g < (s.gens.setIfInBounds g x).size; rw [Array.size_setIfInBounds]; exact c.lt⟩

theorem Grow.glt {g : Nat} (h : Grow X Z ρ s Z' ρ' s') (hg : g < s.gens.size) : g < s'.gens.size := by
  obtain ⟨l, e, _⟩ := h.sh.2
  have := congrArg List.length e
  rw [List.length_append, Array.length_toList, Array.length_toList] at this
  omega

/-- a step of the whole under a set of addresses that are new -/
theorem CC.growOf {g : Nat} {Zs : ZP} {ρs : List Addr} {ss : Shared} (c : Grow [] Zs ρs ss Z ρ (s.setGen g .finished)) (hlt : g < s.gens.size) (B : Base prog w h₀ Z ρ σ s) (gr : Grow X Z ρ s Z' ρ' s') (hX : ∀ b ∈ X, ss.heap.get? b = none ∧ ∃ o, s.heap.get? b = some o) :
    Grow [] Zs ρs ss Z' ρ' (s'.setGen g .finished) := by
  have g1 : Grow X Z ρ (s.setGen g .finished) Z' ρ' (s'.setGen g .finished) := gr.gen hlt .finished
  have g2 := (c.nil (Y := X)).trans (B.gen g .finished) (fun b hb => (hX b hb).2) g1
  exact g2.trim fun b hb => .inr (hX b hb).1

theorem genC_CC {D gobj : Addr} {g : Nat} {Zs : ZP} {ρs : List Addr} {ss : Shared} {φC : Nat → Frm} {accC : Nat → List PyData} {cX : List Addr} (hD : D ∈ cX) (hgo : gobj ∈ cX) (he : ∀ b ∈ allAdrs env, b ∈ cX) :
    GenC prog w h₀ cX ss.heap (CC env D gobj g Zs ρs ss φC accC) :=
  ⟨fun {j X Z Z' ρ ρ' σ σ' s s'} c B gr B' hX => by
    have off : ∀ b, b ∈ cX → b ∉ X := fun b hb hx => (hX b hx).1 hb
    refine ⟨c.loc.step gr (off _ (he _ List.mem_cons_self)) fun y a ha => off _ (he _ (List.mem_cons_of_mem _ (List.mem_map.mpr ⟨(y, a), ha, rfl⟩))), c.acc.grow gr (off _ hD), c.own.grow gr (off _ hgo), ?_, CC.growOf c.grow c.lt B gr fun b hb => ⟨(hX b hb).2.1, (hX b hb).2.2⟩, gr.glt c.lt⟩
    obtain ⟨o, nm, qn, ho, q⟩ := c.isg
    exact ⟨o, nm, qn, gr.old _ _ c.own.r (off _ hgo) ho, q⟩⟩

theorem comp_gen {e : Expr} {x : Str} {px : Pos} {iter : Expr} {inner : Sem Unit} {gobj D : Addr} {innerE : Frm → List PyData → Store → Option (Frm × List PyData × Store)} {r : Rec} (S : SoundR prog w h₀ r n) (hA : AOk n A) (hs : env.scope = sc)
    (heq : compTurn e 0 (.ref gobj) (.ref D) env = turnT e 0 (.Name x px) iter [] inner (.ref gobj) (.ref D) env) (hle : ∃ elt gens scope pos, e = .ListComp elt gens scope pos)
    (hin : InnerS prog w h₀ A env D innerE inner) (hDX : D ∉ allAdrs env) (hgX : gobj ∉ allAdrs env) (hgD : gobj ≠ D) (hlim : h₀.NoLimit) {g : Nat} {Zs : ZP} {ρs : List Addr} {ss : Shared} {φC : Nat → Frm} {accC : Nat → List PyData} {cX : List Addr} (hDc : D ∈ cX)
    (hec : ∀ b ∈ allAdrs env, b ∈ cX) (hDs : ss.heap.get? D = none) (hes : ∀ b ∈ envAdrs env, ss.heap.get? b = none)
    {pvY : Nat → PV} {σY σC : Nat → Store} {N : Nat} (hstep : ∀ m, m < N → ∃ φ₁, stN sc (φC (m + 1)) x (pvY (m + 1)) = some φ₁ ∧ innerE φ₁ (accC (m + 1)) (σY (m + 1)) = some (φC m, accC m, σC m)) {R : Result → Shared → Prop}
    (hR : ∀ s' Z' ρ', Grow [] Zs ρs ss Z' ρ' s' → Base prog w h₀ Z' ρ' (σC 0) s' → Loc Z' ρ' env (φC 0) s' → Acc D (accC 0) Z' ρ' s' → R (.ok .next) s') :
    ∀ (j : Nat) {s : Shared} {Z : ZP} {ρ : List Addr} {σ : Store} {gs : GenState}, j ≤ N → Base prog w h₀ Z ρ σ s → CC env D gobj g Zs ρs ss φC accC j Z ρ s → s.gens[g]? = some gs →
      gs.Goes (model prog w) A.in1 (genR prog w h₀ (CC env D gobj g Zs ρs ss φC accC) g σC) (genY prog w h₀ cX (CC env D gobj g Zs ρs ss φC accC) g pvY σY σC) (j + 1) (.send .none) (s.setGen g .running) →
      codeAny (model prog w) A (.compLoop e 0 (.ref gobj) (.ref D) env) R s
  | j, s, Z, ρ, σ, gs, hj, B, c, hgs, hgo => by
    refine comp_step heq hle ?_ (fun _ => rfl)
    refine wpAny_pyNext_gen (P := genP prog w h₀ (CC env D gobj g Zs ρs ss φC accC) g σC) (Y := genY prog w h₀ cX (CC env D gobj g Zs ρs ss φC accC) g pvY σY σC) (n := j + 1) hA.hh (hlim.keeps B.h0) hA.room c.isg hgs hgo (fun v s₁ gs' hy => ?_) (fun s₁ hp h' hk => ?_)
    · cases j with
      | zero => exact hy.elim
      | succ m =>
        obtain ⟨Z₁, ρ₁, B₁, r₁, C₁, hg₁, kap⟩ := hy
        obtain ⟨φ₁, h1, h2⟩ := hstep m (by omega)
        dsimp only
        refine wpAny_assign_Name (snd_store hs h1 r₁ (B₁.gen g gs') (C₁.loc.gen g gs') fun s₂ g₂ B₂ L₂ => ?_)
        refine snd_tests S hA hs (ifs := []) rfl B₂ L₂ _ _ fun s₃ Z₃ ρ₃ g₃ B₃ => ?_
        simp only [if_true]
        have L₃ := L₂.grow g₃
        have ac₂ := (C₁.acc.gen g gs').grow g₂ (not_env hDX)
        have ac₃ := ac₂.grow g₃ (fun h => nomatch h)
        refine hin h2 B₃ L₃ ac₃ _ _ fun s₄ Z₄ ρ₄ g₄ B₄ L₄ ac₄ => ?_
        have hXe : ∀ b ∈ envAdrs env, b ∈ D :: envAdrs env := fun b hb => List.mem_cons_of_mem _ hb
        have g24 : Grow (D :: envAdrs env) Z₁ ρ₁ (s₁.setGen g gs') Z₄ ρ₄ s₄ :=
          ((g₂.mono hXe).trans B₂ (fun b hb => (List.mem_cons.mp hb).elim (fun q => q ▸ ac₂.own.a) (L₂.alive b)) g₃.nil).trans B₃ (fun b hb => (List.mem_cons.mp hb).elim (fun q => q ▸ ac₃.own.a) (L₃.alive b)) g₄
        have lt₁ : g < (s₁.setGen g gs').gens.size := (C₁.gen gs').lt
        have hgs₄ : s₄.gens[g]? = some gs' := g24.gens (by
          show (s₁.gens.setIfInBounds g gs')[g]? = some gs'
          simp [C₁.lt])
        have hgc : gobj ∉ D :: envAdrs env := fun hm => (List.mem_cons.mp hm).elim hgD (not_env hgX)
        have c₄ : CC env D gobj g Zs ρs ss φC accC m Z₄ ρ₄ s₄ := by
          refine ⟨L₄, ac₄, (C₁.own.gen g gs').grow g24 hgc, ?_, ?_, g24.glt lt₁⟩
          · obtain ⟨o, nm, qn, ho, q⟩ := C₁.isg
            exact ⟨o, nm, qn, g24.old _ _ C₁.own.r hgc ho, q⟩
          · exact CC.growOf (C₁.gen gs').grow lt₁ (B₁.gen g gs') g24 fun b hb => by
              rcases List.mem_cons.mp hb with q | q
              · rw [q]; exact ⟨hDs, C₁.acc.own.a⟩
              · exact ⟨hes b q, C₁.loc.alive b q⟩
        have gg : Grow cX Z₁ ρ₁ s₁ Z₄ ρ₄ (s₄.setGen g .running) := by
          have := g24.gen lt₁ .running
          rw [setGen2, setGen_same hg₁] at this
          exact this.mono fun b hb => (List.mem_cons.mp hb).elim (fun q => q ▸ hDc) fun q => hec b (env_all q)
        exact comp_gen S hA hs heq hle hin hDX hgX hgD hlim hDc hec hDs hes hstep hR m (by omega) B₄ c₄ hgs₄ (kap _ _ _ gg (B₄.gen g .running) (c₄.gen .running))
    · obtain ⟨e1, Z₁, ρ₁, B₁, C₁, hg₁⟩ := hp
      obtain rfl : j = 0 := by omega
      have gx : Grow [] Z₁ ρ₁ (s₁.setGen g .finished) Z₁ ρ₁ { s₁.setGen g .finished with heap := h' } := .ext hk ⟨rfl, [], by simp, fun _ h => nomatch h⟩
      have Bx : Base prog w h₀ Z₁ ρ₁ (σC 0) { s₁.setGen g .finished with heap := h' } := (B₁.gen g .finished).ext hk
      exact hR _ Z₁ ρ₁ (C₁.grow.tr (B₁.gen g .finished) gx) Bx ((C₁.loc.gen g .finished).grow gx) ((C₁.acc.gen g .finished).grow gx (fun h => nomatch h))
end
end Mine
end
section
open PySem PySem.W PyProof.Rows
open Sem (wp)
set_option maxRecDepth 100000
set_option linter.all false
namespace Mine

/-- a comprehension's whole run, as a statement about its tree -/
def CompRun (prog : Program) (w : World) (h₀ : Heap) (A : Around) (env : Env) (Z : ZP) (ρ : List Addr) (s : Shared) (elt : Expr) (gens : List Comprehension) (scope : Scope) (pos : Pos) (xs : List PyData) (σ' : Store) : Prop :=
  ∀ (use : Option (Value → Sem Unit)) (E : Value → Shared → Prop) (Q : Value → Shared → Prop),
    (∀ D C s' Z' ρ', s.heap.get? D = none → s.heap.get? C = none → D ≠ C → Grow [] Z ρ s Z' ρ' s' → Base prog w h₀ Z' ρ' σ' s' → Acc D xs Z' ρ' s' → Own C Z' ρ' s' → (∃ m, s'.heap.Ns C m) → compPost (model prog w) A E use Q (.ref D) C (.ok .next) s') →
    wpAny (model prog w) A (comprehension (.ListComp elt gens scope pos) scope env (firstIterPos gens pos) (newList []) (firstAsync gens) (firstIter gens env) use) Q E s

/-- a generator's object, just made -/
structure GenMade (prog : Program) (w : World) (h₀ : Heap) (A : Around) (Z : ZP) (ρ : List Addr) (s : Shared) (body : List Stmt) (scg : Scope) (φg : Frm) (σ₁ : Store) (gobj : Addr) (genv : Env) (g : Nat) (Z₁ : ZP) (ρ₁ : List Addr) (s₁ : Shared) : Prop where
  gs : s₁.gens[g]? = some (.fresh (.func body genv))
  grow : Grow [] Z ρ s Z₁ ρ₁ (s₁.setGen g .finished)
  base : Base prog w h₀ Z₁ ρ₁ σ₁ s₁
  loc : Loc Z₁ ρ₁ genv φg s₁
  isg : s₁.heap.IsGen gobj g
  own : Own gobj Z₁ ρ₁ s₁
  fresh : s.heap.get? gobj = none
  news : ∀ b ∈ allAdrs genv, s.heap.get? b = none ∧ b ≠ gobj
  sc : genv.scope = scg
  hin : interactive genv = false

section
variable {prog : Program} {w : World} {h₀ : Heap} {A : Around} {E : Value → Shared → Prop} {s s' s₀ : Shared} {Z Z' : ZP} {ρ ρ' : List Addr} {σ σ' σ'' σ₀ σ₁ σ₂ : Store} {env : Env} {φ φ' φ₀ φ₁ : Frm} {n : Nat} {X : List Addr} {sc : Scope} {T : Txt}

theorem comp_coreG {r : Rec} (S : SoundR prog w h₀ r n) (hA : AOk n A) (hs : env.scope = sc) (hlim : h₀.NoLimit) {elt iter : Expr} {x : Str} {px : Pos} {scope : Scope} {pos : Pos} {xs : List PyData} (hpl : plainIter iter = true) (hk : scope.kind = .function)
    (ht : takes sc scope.names = true) (hn : (scope.names.map (·.1)).Nodup) {body : List Stmt} {scg : Scope} {φg : Frm}
    (hcall : ∀ (E : Value → Shared → Prop) (Q : Value → Shared → Prop), (∀ gobj genv g Z₁ ρ₁ s₁, GenMade prog w h₀ A Z ρ s body scg φg σ₁ gobj genv g Z₁ ρ₁ s₁ → Q (.ref gobj) s₁) → wpAny (model prog w) A (eval iter env) Q E s)
    {φC : Nat → Frm} {accC : Nat → List PyData} {pvY : Nat → PV} {σY σC : Nat → Store} {N : Nat}
    (hgo : ∀ (genv : Env) (g : Nat) (cX : List Addr) (hsH : Heap) (C : Nat → ZP → List Addr → Shared → Prop) (s₂ s₀ : Shared) (Z₂ : ZP) (ρ₂ : List Addr), GenC prog w h₀ cX hsH C → genv.scope = scg → interactive genv = false → (∀ b ∈ allAdrs genv, b ∉ cX) → (∀ b ∈ envAdrs genv, hsH.get? b = none) →
      Base prog w h₀ Z₂ ρ₂ σ₁ s₂ → Loc Z₂ ρ₂ genv φg s₂ → C N Z₂ ρ₂ s₂ → s₂.gens[g]? = some .running → (∀ b, (b ∈ cX ∨ ∃ o, hsH.get? b = some o) → ∃ o, s₂.heap.get? b = some o) →
      Seg (model prog w) A.in1 (genR prog w h₀ C g σC) (genY prog w h₀ cX C g pvY σY σC) (N + 1) s₀ (.func body genv) ((model prog w).den (.func body genv)) [] s₂)
    (hstep : ∀ m, m < N → ∃ φ₁, stN (relabelS scope sc) (φC (m + 1)) x (pvY (m + 1)) = some φ₁ ∧ cEmit r (relabelS scope sc) elt φ₁ (accC (m + 1)) (σY (m + 1)) = some (φC m, accC m, σC m))
    (hφ : φC N = ⟨[], celOf scope.names φ.cel, freeN scope.names⟩) (hacc : accC N = []) (hxs : accC 0 = xs) (B : Base prog w h₀ Z ρ σ s) (L : Loc Z ρ env φ s) :
    CompRun prog w h₀ A env Z ρ s elt [⟨.Name x px, iter, [], 0⟩] scope pos xs (σC 0) := fun use E Q hpost => by
  have hfree : ∀ x, (x, NameKind.free) ∈ scope.names → ∃ c, env.cells.lookup x = some c := fun x hm => L.ck x (by
    subst hs
    exact takes_free ht x hm)
  show wpAny (model prog w) A (comprehension _ scope env _ (newList []) false (eval iter env) use) Q E s
  refine wpAny_comprehension_free (g := ⟨.Name x px, iter, [], 0⟩) (gs := []) rfl (fun y => folded hpl y) (closureFor_eq hfree) hk (fun y hy e => lookup_mem hn (by obtain ⟨a, b⟩ := y; dsimp only at e; subst e; exact hy)) ?_
  refine hcall E _ fun gobj genv g Z₁ ρ₁ s₁ gm => ?_
  refine wpAny_pyIter_gen gm.isg ?_
  have B₁ := gm.base
  have lt₁ : g < s₁.gens.size := gen_lt gm.gs
  have L₁ : Loc Z₁ ρ₁ env φ s₁ := by
    have := (L.grow gm.grow).gen g (.fresh (.func body genv))
    rw [setGen2, setGen_same gm.gs] at this
    exact this
  have O₁ := gm.own
  refine wpAny_newObj_type ?_
  have hn2 : s₁.heap.get? s₁.heap.objs.size = none := none_size _ (Nat.le_refl _)
  generalize hDe : s₁.heap.objs.size = D at hn2 ⊢
  have hD3 : (s₁.heap.push { cls := .type "list", data := .seq ([] : List Value).toArray }).get? D = some { cls := .type "list", dict := none, data := .seq ([] : List Value).toArray, slots := #[] } := by rw [← hDe]; exact Heap.get?_push_size _ rfl
  have hgD : gobj ≠ D := fun e => by obtain ⟨o', ho'⟩ := O₁.a; rw [e, hn2] at ho'; cases ho'
  generalize hs3 : ({ s₁ with heap := s₁.heap.push { cls := .type "list", data := .seq ([] : List Value).toArray } } : Shared) = s₃
  have e3 : s₃.heap = s₁.heap.push { cls := .type "list", data := .seq ([] : List Value).toArray } := by rw [← hs3]
  have hk3 : ∀ b o', s₁.heap.get? b = some o' → s₃.heap.get? b = some o' := fun b o' e => by rw [e3]; exact Heap.get?_push_of_some _ e
  have g₃ : Grow [] Z₁ ρ₁ s₁ Z₁ ρ₁ s₃ := .ext hk3 (by rw [← hs3]; exact Sh.heap _ _)
  have B₃ : Base prog w h₀ Z₁ ρ₁ σ₁ s₃ := B₁.ext hk3
  have L₃ := L₁.grow g₃
  have O₃ := O₁.grow g₃ (fun h => nomatch h)
  have D₃ : Acc D [] Z₁ ρ₁ s₃ := ⟨⟨B₁.notZ hn2, B₁.notR hn2, ⟨_, by rw [e3]; exact hD3⟩⟩, [], ⟨0, by rw [e3]; exact hD3⟩, .nil⟩
  refine new_comp_env ?_
  obtain ⟨hk4, L₄, hcells⟩ := comp_loc hs hk ht hn B₃ L₃
  have hn3 : s₃.heap.get? s₃.heap.objs.size = none := none_size _ (Nat.le_refl _)
  have hbig : ∀ c, s₃.heap.objs.size + 1 ≤ c → s₃.heap.get? c = none := fun c hc => none_size _ (Nat.le_of_lt hc)
  generalize hCe : s₃.heap.objs.size = C at L₄ hcells hn3 hbig ⊢
  generalize hs4 : ({ s₃ with heap := pushCells (s₃.heap.push { cls := .type "dict", data := .dict #[] }) scope.names } : Shared) = s₄ at L₄ ⊢
  have e4 : s₄.heap = pushCells (s₃.heap.push { cls := .type "dict", data := .dict #[] }) scope.names := by rw [← hs4]
  rw [← e4] at hk4
  have g₄ : Grow [] Z₁ ρ₁ s₃ Z₁ ρ₁ s₄ := .ext hk4 (by rw [← hs4]; exact Sh.heap _ _)
  have B₄ : Base prog w h₀ Z₁ ρ₁ σ₁ s₄ := B₃.ext hk4
  have O₄ := O₃.grow g₄ (fun h => nomatch h)
  have D₄ := D₃.grow g₄ (fun h => nomatch h)
  dsimp only
  generalize henv : ({ scope := relabel scope env, locals := C, globals := env.globals, cells := cellsFrom (C + 1) scope.names (clOf env.cells scope.names []), qual := env.qual, func := none, code := env.code, frame := env.frame, builtins := env.builtins } : Env) = env' at L₄ ⊢
  have hsc : env'.scope = relabelS scope sc := by rw [← henv]; exact relabel_eq scope hs
  have hloc : env'.locals = C := by rw [← henv]
  have hcel : ∀ c ∈ allAdrs env', (∃ x, (x, c) ∈ env.cells) ∨ s₃.heap.get? c = none := fun c hc => by
    unfold allAdrs at hc
    rcases List.mem_cons.mp hc with e | hc
    · rw [e, hloc]; exact .inr hn3
    · obtain ⟨⟨x, c'⟩, hm, rfl⟩ := List.mem_map.mp hc
      rw [← henv] at hm
      rcases hcells c' x hm with q | q
      · exact .inl ⟨x, q⟩
      · exact .inr (hbig _ q)
  have off : ∀ b, (∃ o, s₃.heap.get? b = some o) → s.heap.get? b = none → b ∉ allAdrs env' := fun b ⟨o, ho⟩ hx hm => by
    rcases hcel b hm with ⟨x, q⟩ | q
    · obtain ⟨_, o', ho', _⟩ := L.al x b q
      rw [hx] at ho'; cases ho'
    · rw [ho] at q; cases q
  have hDn : s.heap.get? D = none := gm.grow.back0 (B₁.gen g .finished) hn2
  have back3 : ∀ b, s₃.heap.get? b = none → s.heap.get? b = none := fun b hb => gm.grow.back0 (B₁.gen g .finished) (g₃.back0 B₃ hb)
  have hDX : D ∉ allAdrs env' := off D D₃.own.a hDn
  have hgX : gobj ∉ allAdrs env' := off gobj O₃.a gm.fresh
  have hes : ∀ b ∈ envAdrs env', s.heap.get? b = none := fun b hb => by
    unfold envAdrs at hb
    rw [hloc] at hb
    rcases List.mem_cons.mp hb with e | hb
    · rw [e]; exact back3 _ hn3
    · have := (List.mem_filter.mp hb).2
      rw [decide_eq_true_eq] at this
      exact back3 _ (hbig _ this)
  have g14 : Grow [] Z₁ ρ₁ s₁ Z₁ ρ₁ s₄ := g₃.tr B₃ g₄
  have hgs₄ : s₄.gens[g]? = some (.fresh (.func body genv)) := g14.gens gm.gs
  have c₄ : CC env' D gobj g Z ρ s φC accC N Z₁ ρ₁ s₄ :=
    ⟨by rw [hφ]; exact L₄, by rw [hacc]; exact D₄, O₄, gm.isg.keeps fun b o e => hk4 b o (hk3 b o e), gm.grow.tr (B₁.gen g .finished) (g14.gen lt₁ .finished), g14.glt lt₁⟩
  have gal : ∀ b ∈ allAdrs genv, ∃ o, s₁.heap.get? b = some o := gm.loc.aliveAll
  have hcX : ∀ b ∈ allAdrs genv, b ∉ gobj :: D :: allAdrs env' := fun b hb hm => by
    obtain ⟨h1, h2⟩ := gm.news b hb
    obtain ⟨o, ho⟩ := gal b hb
    rcases List.mem_cons.mp hm with e | hm
    · exact h2 e
    · rcases List.mem_cons.mp hm with e | hm
      · rw [e, hn2] at ho; cases ho
      · exact off b ⟨o, hk3 b o ho⟩ h1 hm
  have hcX2 : ∀ b, (b ∈ gobj :: D :: allAdrs env' ∨ ∃ o, s.heap.get? b = some o) → ∃ o, (s₄.setGen g .running).heap.get? b = some o := fun b hb => by
    rcases hb with hm | ⟨o, ho⟩
    · rcases List.mem_cons.mp hm with e | hm
      · rw [e]; exact O₄.a
      · rcases List.mem_cons.mp hm with e | hm
        · rw [e]; exact D₄.own.a
        · exact L₄.aliveAll b hm
    · cases q : s₄.heap.get? b with
      | some o' => exact ⟨o', q⟩
      | none =>
        have := back3 b (g₄.back0 B₄ q)
        rw [ho] at this; cases this
  have run := hgo genv g (gobj :: D :: allAdrs env') s.heap (CC env' D gobj g Z ρ s φC accC) (s₄.setGen g .running) (s₄.setGen g .running) Z₁ ρ₁ (genC_CC (List.mem_cons_of_mem _ List.mem_cons_self) List.mem_cons_self fun b hb => List.mem_cons_of_mem _ (List.mem_cons_of_mem _ hb))
    gm.sc gm.hin hcX (fun b hb => (gm.news b (env_all hb)).1) (B₄.gen g .running) ((gm.loc.grow g14).gen g .running) (c₄.gen .running) (setGen_self hgs₄) hcX2
  have fin : ∀ s' Z' ρ', Grow [] Z ρ s Z' ρ' s' → Base prog w h₀ Z' ρ' (σC 0) s' → Loc Z' ρ' env' (φC 0) s' → Acc D (accC 0) Z' ρ' s' → compPost (model prog w) A E use Q (.ref D) C (.ok .next) s' := fun s' Z' ρ' gg B' L' a' => by
    rw [hxs] at a'
    refine hpost D C s' Z' ρ' hDn (back3 C hn3) (fun e => hDX (by rw [e, ← hloc]; exact List.mem_cons_self)) gg B' a' ⟨?_, ?_, ?_⟩ ?_
    · rw [← hloc]; exact L'.zL.1
    · rw [← hloc]; exact L'.zL.2
    · rw [← hloc]; exact L'.alive _ List.mem_cons_self
    · obtain ⟨m, hm, _⟩ := L'.ns
      rw [hloc] at hm
      exact ⟨m, hm⟩
  have loop : codeAny (model prog w) A (.compLoop (.ListComp elt [⟨.Name x px, iter, [], 0⟩] scope pos) 0 (.ref gobj) (.ref D) env') (compPost (model prog w) A E use Q (.ref D) C) s₄ :=
    comp_gen S hA hsc (turn_one elt (.Name x px) iter [] scope pos (.ref gobj) (.ref D) env') ⟨_, _, _, _, rfl⟩ (snd_emit S hA hsc hDX) hDX hgX hgD hlim (List.mem_cons_of_mem _ List.mem_cons_self)
      (fun b hb => List.mem_cons_of_mem _ (List.mem_cons_of_mem _ hb)) hDn hes hstep fin N (Nat.le_refl _) B₄ c₄ hgs₄ ⟨rfl, run⟩
  exact comp_start rfl rfl loop (wpAny_pyIter_gen c₄.isg loop)

/-- name = comprehension -/
theorem assign_run (hs : env.scope = sc) {x : Str} {px p pos : Pos} {elt : Expr} {gens : List Comprehension} {scope : Scope} {xs : List PyData} (hc : CompRun prog w h₀ A env Z ρ s elt gens scope p xs σ₁) (h2 : stN sc φ x (.d (.list xs)) = some φ') (B : Base prog w h₀ Z ρ σ s) (L : Loc Z ρ env φ s) :
    SndF prog w h₀ A env Z ρ s (exec (.Assign [.Name x px] (.ListComp elt gens scope p) pos) env) .nxt φ' σ₁ := fun E Q k => by
  rcases swaps_comp elt gens scope p px pos x env with hsw | hsw
  · rw [exec_Assign_Name_used _ _ _ _ hsw]
    refine wpAny_bind (wpAny_standAt (wpAny_bind ?_))
    show wpAny _ A (do let _ ← comprehension (.ListComp elt gens scope p) scope env (firstIterPos gens p) (newList []) (firstAsync gens) (firstIter gens env) (some (assign (.Name x px) env))) _ _ s
    refine wpAny_bind (wpAny_mono (hc (some (assign (.Name x px) env)) _ (fun _ s' => Q .next s') fun D C s' Z' ρ' hD hC hDC g B' a' O' hN => ?_) (fun _ s' hq => wpAny_pure (wpAny_pure hq)) fun _ _ e => e)
    obtain ⟨m, hm⟩ := hN
    obtain ⟨Z'', ρ'', g₁, B₁, hv, hO⟩ := acc_fix false B' a' hD g
    have L₁ := L.grow g₁
    have O₁ := hO C O' (Ne.symm hDC)
    have hCX : C ∉ allAdrs env := fun hm' => by obtain ⟨o, ho⟩ := L.aliveAll C hm'; rw [hC] at ho; cases ho
    show wpAny _ A (assign (.Name x px) env (.ref D)) _ _ _
    refine wpAny_assign_Name (snd_store hs h2 hv B₁ L₁ fun s₂ g₂ B₂ L₂ => ?_)
    have O₂ := O₁.grow g₂ (not_env hCX)
    have hm2 : s₂.heap.Ns C m := hm.at' fun o e => g₂.old C o O₁.r (not_env hCX) e
    refine ⟨m, hm2, fun h' hsb => ?_⟩
    obtain ⟨g₃, B₃⟩ := O₂.move (tk := s₂.toks) B₂ (h' := h') fun b o hb e => (hsb.2 b fun q => hb (by rw [q]; simp)).trans e
    have L₃ := L₂.off hCX g₃
    have gg : Grow (C :: envAdrs env) Z ρ s Z'' ρ'' { s₂ with heap := h' } := ((g₁.nil (Y := C :: envAdrs env)).trans B₁ (fun b hb => (List.mem_cons.mp hb).elim (fun e => e ▸ O₁.a) (L₁.alive b)) (g₂.mono fun b hb => List.mem_cons_of_mem _ hb)).trans B₂ (fun b hb => (List.mem_cons.mp hb).elim (fun e => e ▸ O₂.a) (L₂.alive b)) (g₃.mono fun b hb => by rw [List.mem_singleton.mp hb]; exact List.mem_cons_self)
    exact k .next _ Z'' ρ'' (gg.trim fun b hb => (List.mem_cons.mp hb).elim (fun e => .inr (by rw [e]; exact hC)) .inl) B₃ L₃ rfl
  · refine wpAny_Assign_Name ?_ hsw
    rw [eval_ListComp]
    refine hc none _ _ fun D C s' Z' ρ' hD hC hDC g B' a' O' hN => ?_
    obtain ⟨m, hm⟩ := hN
    refine ⟨m, hm, fun h' hsb => ?_⟩
    obtain ⟨g₂, B₂⟩ := O'.move (tk := s'.toks) B' (h' := h') fun b o hb e => (hsb.2 b fun q => hb (by rw [q]; simp)).trans e
    have a₂ := a'.grow g₂ fun hm => hDC (List.mem_singleton.mp hm)
    have gg : Grow [C] Z ρ s Z' ρ' { s' with heap := h' } := g.nil.trans B' (fun b hb => by rw [List.mem_singleton.mp hb]; exact O'.a) g₂
    have g1 : Grow [] Z ρ s Z' ρ' { s' with heap := h' } := gg.trim fun b hb => .inr (by rw [List.mem_singleton.mp hb]; exact hC)
    obtain ⟨Z₃, ρ₃, g₃, B₃, hv₃, _⟩ := acc_fix false B₂ a₂ hD g1
    have L₃ := L.grow g₃
    refine snd_store hs h2 hv₃ B₃ L₃ fun s₄ g₄ B₄ L₄ => ?_
    exact k .next s₄ Z₃ ρ₃ (g₃.nil.trans B₃ L₃.alive g₄) B₄ L₄ rfl
end
end Mine
end
section
open PySem PySem.W PyProof.Rows
open Sem (wp)
set_option maxRecDepth 100000
set_option linter.all false
namespace Mine
section
variable {prog : Program} {w : World} {h₀ : Heap} {A : Around} {E : Value → Shared → Prop} {s s' s₀ : Shared} {Z Z' : ZP} {ρ ρ' : List Addr} {σ σ' σ'' σ₀ σ₁ σ₂ : Store} {env : Env} {φ φ' φ₀ φ₁ : Frm} {n : Nat} {X : List Addr} {sc : Scope} {T : Txt}

/-- a call whose callee stands, whatever comes of it -/
theorem callWq {f : Value} {first : List Value} {es : List Expr} {pos : Pos} {vs : List PV} {r : Rec} {Q : Value → Shared → Prop} (S : SoundR prog w h₀ r n) (hA : AOk n A) (hs : env.scope = sc)
    (hk : ∃ k, (k = Keeper.frame ∨ k = Keeper.machine ∨ k = Keeper.boundFrame) ∧ Looks (model prog w) h₀ (keeperOf f) k)
    (hev : evs r sc φ es σ = some (vs, σ₁)) (B : Base prog w h₀ Z ρ σ s) (L : Loc Z ρ env φ s)
    (hc : ∀ vals s₁ Z₁ ρ₁, Grow [] Z ρ s Z₁ ρ₁ s₁ → Base prog w h₀ Z₁ ρ₁ σ₁ s₁ → All2 (VR Z₁ ρ₁) vs vals → wpAny (model prog w) A (call f (first ++ vals)) Q E s₁) :
    wpAny (model prog w) A (callWith pos f first (backTo pos (starEach es env)) []) Q E s := by
  obtain ⟨kp, hkp, Lk⟩ := hk
  have hpl : (backTo pos (starEach es env)).any (·.1) = false := evs_plain (pos := pos) (env := env) hev
  refine callWith_of (P := fun h => ∀ b o, h₀.get? b = some o → h.get? b = some o) (by rw [hpl]; rfl) (fun h hP => ⟨kp, hkp, Lk.keeps hP⟩) (evalArgs_any hpl ?_)
  exact snd_evs S hA hs pos hev B L E _ fun vals s₁ Z₁ ρ₁ g₁ B₁ r₁ => ⟨B₁.h0, hc vals s₁ Z₁ ρ₁ g₁ B₁ r₁⟩

theorem Loc.heq (L : Loc Z ρ env φ s) (h : s'.heap = s.heap) : Loc Z ρ env φ s' := by
  refine ⟨L.hk, L.gl, L.bl, ?_, ?_, ?_, L.ck, L.zL, L.zc, L.ap, L.wc, L.cd⟩
  · rw [h]; exact L.ns
  · rw [h]; exact L.ce
  · rw [h]; exact L.al
theorem Base.heq (B : Base prog w h₀ Z ρ σ s) (h : s'.heap = s.heap) : Base prog w h₀ Z ρ σ s' := by
  refine ⟨?_, B.old, B.len, ?_, B.zr, B.nd⟩
  · rw [h]; exact B.keep
  · rw [h]; exact B.objs

/-- a generator's call -/
theorem call_gen {a : Addr} {fd : FuncData} {body : List Stmt} (F : FnOk h₀ a fd body true) (hA : AOk (n + 1) A) {names : List Str} {pvs : List PV} {vals : List Value} (hnn : names.Nodup) (hlen : names.length = vals.length) (B : Base prog w h₀ Z ρ σ s) (hv : All2 (VR Z ρ) pvs vals)
    (hbind : bindArgs fd ⟨vals, []⟩ = pure (names.zip vals)) (hkind : ∀ x ∈ names, fd.scope.names.lookup x = some .local ∨ fd.scope.names.lookup x = some .cell) {E : Value → Shared → Prop} {Q : Value → Shared → Prop}
    (k : ∀ gobj genv g Z₁ ρ₁ s₁, GenMade prog w h₀ A Z ρ s body fd.scope (frmOf fd.scope (names.zip pvs)) σ gobj genv g Z₁ ρ₁ s₁ → Q (.ref gobj) s₁) :
    wpAny (model prog w) A (call (.ref a) vals) Q E s := by
  obtain ⟨o, ho, hd⟩ := F.at_
  refine wpAny_call (codeAny_call_generator hA.room (B.h0 _ _ ho) hd F.co F.gen F.body (F.code.keeps B.h0) ?_)
  refine wpAny_of_eq hbind ?_
  rw [F.clo]
  refine wpAny_newFunctionEnv_cells F.kind (fun y hy => ?_) fun env he s₁ x => ?_
  · have hm : y.1 ∈ names := (List.of_mem_zip (a := y.1) (b := y.2) hy).1
    rcases hkind y.1 hm with q | q
    · exact .inl q
    · refine .inr ⟨q, ?_⟩
      obtain ⟨c, hc⟩ := lookup_some (l := cellsFrom (s.heap.objs.size + 1) fd.scope.names []) (cellsFrom_key.mpr (.inr (mem_of_lookup q)))
      rw [hc]; rfl
  · subst he
    have x' : InCallC s (callEnvC fd s.heap.objs.size a).locals (bindL (callEnvC fd s.heap.objs.size a).kindOf (names.zip vals) fun _ => none) (callEnvC fd s.heap.objs.size a).cells (bindC (callEnvC fd s.heap.objs.size a).kindOf (names.zip vals) fun _ => none) s₁ := x
    obtain ⟨g₁, B₁, L₁, hfr⟩ := entry_loc F hnn hlen B hv x'
    refine ⟨F.lim.keeps B₁.h0, ?_⟩
    dsimp only
    have hn1 : s₁.heap.get? s₁.heap.objs.size = none := none_size _ (Nat.le_refl _)
    refine k s₁.heap.objs.size (callEnvC fd s.heap.objs.size a) s₁.gens.size Z ρ _ ⟨?_, ?_, ?_, ?_, ?_, ?_, ?_, fun b hb => ?_, rfl, ?_⟩
    · exact Array.getElem?_push_size
    · refine g₁.tr B₁ ⟨ZSub.refl Z, fun _ _ h => .inl h, ⟨[], by simp, fun _ h => nomatch h⟩, fun b o _ _ e => Heap.get?_push_of_some _ e, rfl, [.finished], ?_, ?_⟩
      · simp [Shared.setGen]
      · intro y hy; rw [List.mem_singleton.mp hy]; rfl
    · exact (B₁.ext (s' := { s₁ with heap := s₁.heap.push { cls := .type "generator", data := .fields #[.int s₁.gens.size 0, .str fd.name s₁.toks, .str fd.qualname (s₁.toks + 1)] } }) fun b o e => Heap.get?_push_of_some _ e).heq rfl
    · exact (L₁.grow (Grow.ext (X := []) (s' := { s₁ with heap := s₁.heap.push { cls := .type "generator", data := .fields #[.int s₁.gens.size 0, .str fd.name s₁.toks, .str fd.qualname (s₁.toks + 1)] } }) (fun b o e => Heap.get?_push_of_some _ e) (Sh.heap _ s₁.toks))).heq rfl
    · exact ⟨_, _, _, Heap.get?_push_size _ rfl, rfl, rfl, rfl⟩
    · exact ⟨B₁.notZ hn1, B₁.notR hn1, ⟨_, Heap.get?_push_size _ rfl⟩⟩
    · exact g₁.back0 B₁ hn1
    · refine ⟨?_, fun e => ?_⟩
      · rcases List.mem_cons.mp hb with e | hb
        · rw [e]; exact none_size _ (Nat.le_refl _)
        · obtain ⟨⟨y, c⟩, hm, rfl⟩ := List.mem_map.mp hb
          exact none_size _ (Nat.le_of_lt (x'.above y c hm))
      · obtain ⟨o', ho'⟩ := L₁.aliveAll b hb
        rw [e, hn1] at ho'; cases ho'
    · unfold interactive; rw [L₁.hk]; rfl
end
end Mine
end
section
open PySem PySem.W PyProof.Rows
open Sem (wp)
set_option maxRecDepth 100000
set_option linter.all false
namespace Mine
section
variable {prog : Program} {w : World} {h₀ : Heap} {A : Around} {E : Value → Shared → Prop} {s s' s₀ : Shared} {Z Z' : ZP} {ρ ρ' : List Addr} {σ σ' σ'' σ₀ σ₁ σ₂ : Store} {env : Env} {φ φ' φ₀ φ₁ : Frm} {n : Nat} {X : List Addr} {sc : Scope} {T : Txt} {K : Frag}

/-- a dict's keys -/
theorem iter_keys {kk : Nat} {a : Addr} {es : List (Int × PV)} (hja : ρ[kk]? = some a) (hk : σ[kk]? = some (.dict es)) (B : Base prog w h₀ Z ρ σ s) {Q : Value → Shared → Prop}
    (k : ∀ I Z' s', Grow [] Z ρ s Z' ρ s' → Base prog w h₀ Z' ρ (σ.set kk .dead) s' → Own I Z' ρ s' → (∀ A' : Around, A'.handled = none → Itr prog w A' Z' I (es.map fun p => .int p.1) 0 s'.heap) → s'.TypeIs (.ref I) "dict_keyiterator" → s.heap.get? I = none → Q (.ref I) s') :
    wpAny (model prog w) A (pyIter (.ref a)) Q E s := by
  obtain ⟨hsm, vs, hd, hvv⟩ := B.objs _ a _ hja hk
  obtain ⟨o, des, ep, ho, hex, hdat, hkeys, hpairs, hnd⟩ := hd
  have hlt : a < s.heap.objs.size := Heap.lt_size ho
  have hat : s.heap.DictAt (intKind prog w) a ((es.map (·.1)).zip vs) ep := ⟨o, des, ho, hex, hdat, hkeys, hpairs, hnd⟩
  have hzl := zip_len hvv
  have hlen : (es.map fun p => PyData.int p.1).length = ((es.map (·.1)).zip vs).length := by rw [hzl, List.length_map]
  have hk2 : ∀ (io : Obj) b o', s.heap.get? b = some o' → (s.heap.push io).get? b = some o' := fun io b o' e => Heap.get?_push_of_some _ e
  have B1 := B.bury hja ho
  refine wpAny_pyIter_dict (by simpa using hsm) hat ?_
  have g1 : Grow [] Z ρ s (ZAdd Z a o) ρ s := .bury hja
  have g2 : Grow [] (ZAdd Z a o) ρ s (ZAdd Z a o) ρ { s with heap := s.heap.push { cls := .type "dict_keyiterator", data := .fields #[.ref a, .int 0 0, .int ((es.map (·.1)).zip vs).length 0, .int ep 0] } } := .ext (hk2 _) (Sh.heap _ s.toks)
  refine k _ _ _ (g1.tr B1 g2) (B1.ext (hk2 _)) (Own.new B1 ⟨_, Heap.get?_push_size _ rfl⟩) (fun A' hA' => ?_) ⟨_, Heap.get?_push_size _ rfl, rfl⟩ (none_size _ (Nat.le_refl _))
  have W := Walks.dictKeys (prog := prog) (w := w) (A := A') (knd := intKind prog w) hA' s.heap.objs.size a (Nat.ne_of_lt hlt) ((es.map (·.1)).zip vs) ep
  rw [← hlen] at W
  refine ⟨_, _, _, W, fun j h x => let ⟨⟨o, ho, _⟩, _⟩ := x; ⟨o, ho⟩, ⟨⟨_, Heap.get?_push_size _ rfl, rfl, ?_⟩, hat.push _⟩, fun b hb => ?_, fun j v d hp hd => ?_⟩
  · rw [hlen]; rfl
  · simp at hb
    rcases hb with e | e
    · exact .inl e
    · exact .inr ⟨o, e ▸ ZAdd.here _ _ _⟩
  · obtain ⟨i, x, hi, hk2⟩ := hp
    obtain ⟨t, rfl⟩ := Value.isInt_shape hk2
    rw [List.getElem?_map] at hd
    obtain ⟨p, hp, e⟩ := map_pair hd
    have : i = p.1 := by
      have h1 : (((es.map (·.1)).zip vs)[j]?).map (·.1) = some i := by rw [hi]; rfl
      rw [← List.getElem?_map, List.map_fst_zip (by have := hvv.length; rw [List.length_map] at this ⊢; omega), List.getElem?_map, hp] at h1
      simpa using h1.symm
    rw [← e, this]
    exact .int _ _

theorem entry_iter' : entryFor table "iter" = some Builtin.«iter» := entryFor_of_fast (by kernel_rfl)
theorem args_iter' (a : Value) : argsOk "iter" ⟨[a], []⟩ := by unfold argsOk; kernel_rfl
theorem call_iter {v : Value} {Q : Value → Shared → Prop} (h : wpAny (model prog w) A.in1 (pyIter v) Q E s) : wpAny (model prog w) A (call (.builtin "iter") [v]) Q E s := by
  refine Calls.call_function_entry (by decide +kernel) (by decide +kernel) entry_iter' (args_iter' _) ?_
  unfold Builtin.«iter»
  refine wpAny_bind (m := someArgs "iter" 1 2 _) (wpAny_of_eq (a := [v]) (by first | rfl | kernel_rfl!) ?_)
  show wpAny _ _ (pyIter v >>= _) _ _ _
  exact wpAny_bind (wpAny_mono h (fun u s' h' => wpAny_pure ⟨_, rfl, h'⟩) fun _ _ e => e)

/-- what pyIter asks of an iterator given back -/
def NextOf (M : Model) (A : Around) (Q : Value → Shared → Prop) (E : Value → Shared → Prop) (it : Value) (s' : Shared) : Prop :=
  wpAny M A (specialOf it "__next__") (fun r s₂ => match r with
    | none => False
    | some _ => Q it s₂) E s'
theorem nextOf_keys {I : Addr} {Q : Value → Shared → Prop} (h : s.TypeIs (.ref I) "dict_keyiterator") (q : Q (.ref I) s) : NextOf (model prog w) A Q E (.ref I) s := by
  obtain ⟨o, ho, hc⟩ := h
  unfold NextOf specialOf
  have ht : Looks (model prog w) s.heap (typeOf (.ref I)) (.type "dict_keyiterator") := by rw [← hc]; exact (Looks.ld ho).andThen .now
  refine wpAny_bind (ht.here ?_)
  refine wpAny_of_eq PySem.F.slot_dict_keyiterator_next.lookup ?_
  exact q

theorem iter_inst {M : Model} {x C f : Addr} {ox : Obj} {od : Option Obj} {Q : Value → Shared → Prop} (X : K.In s.heap) (I : InstAt s.heap x ox C od) (hs : findIn K (.ref C) "__iter__" = some (some (.ref f))) (hf : typeIn K (.ref f) = some (.type "function"))
    (h : wpAny M A (call (.ref f) [.ref x]) (NextOf M A Q E) E s) : wpAny M A (pyIter (.ref x)) Q E s := by
  have fin : wpAny M A (call (.ref f) [.ref x] >>= fun v => pure (some v)) (fun r s' => ∃ v, r = some v ∧ NextOf M A Q E v s') E s :=
    wpAny_bind (wpAny_mono h (fun v s' h' => wpAny_pure ⟨v, rfl, h'⟩) fun _ _ z => z)
  have one : ∀ refuse : Sem Value, wpAny M A (callSpecialIfBoundUnlessNone? (.ref x) "__iter__" refuse) (fun r s' => ∃ v, r = some v ∧ NextOf M A Q E v s') E s := by
    intro refuse
    simp only [callSpecialIfBoundUnlessNone?, bindSpecialIfBound?]
    refine wpAny_holding (wpAny_bind (wpAny_bind (wpAny_bind (I.type.here ((looks_findIn X hs).here ?_)))))
    refine wpAny_bind (wpAny_askSetting (wpAny_ite ?_))
    have fin2 : wpAny M A (if (Value.ref f == Value.none) = true then (refuse >>= fun v => pure (some v)) else (call (.ref f) [.ref x] >>= fun v => pure (some v))) (fun r s' => ∃ v, r = some v ∧ NextOf M A Q E v s') E s := by
      rw [if_neg (show ¬ ((Value.ref f == Value.none) = true) from Bool.false_ne_true)]
      exact fin
    split
    · exact wpAny_bind ((bind_fn X _ hf).here (wpAny_pure (by exact fin2)))
    · exact wpAny_tryCatch (wpAny_bind ((bind_fn X _ hf).here (wpAny_pure (by exact fin2))))
  unfold pyIter
  refine wpAny_bind (wpAny_bind (I.type.here ((looks_findIn X hs).here ?_)))
  show wpAny M A (callSpecialIfBoundUnlessNone? (.ref x) "__iter__" _ >>= _) Q E s
  refine wpAny_bind (wpAny_mono (one _) (fun r s' hr => ?_) fun _ _ z => z)
  obtain ⟨v, rfl, hv⟩ := hr
  refine wpAny_bind (wpAny_mono hv (fun r s₂ hr => ?_) fun _ _ z => z)
  cases r with
  | none => exact hr.elim
  | some g => exact wpAny_pure hr

/-- len of a thing -/
def LenOf (Q : Value → Shared → Prop) (v : Value) (s' : Shared) : Prop := match v with
  | .int n _ => (0 ≤ n ∧ n < 2 ^ 63) ∧ Q (.int n s'.toks) { s' with toks := s'.toks + 1 }
  | _ => False
theorem len_inst {x C f : Addr} {ox : Obj} {od : Option Obj} {Q : Value → Shared → Prop} (X : K.In s.heap) (I : InstAt s.heap x ox C od) (hs : findIn K (.ref C) "__len__" = some (some (.ref f))) (hf : typeIn K (.ref f) = some (.type "function"))
    (h : wpAny (model prog w) A.in1 (call (.ref f) [.ref x]) (LenOf Q) E s) : wpAny (model prog w) A (call (.builtin "len") [.ref x]) Q E s := by
  refine Calls.call_function_entry PySem.kind_len PySem.plain_len PySem.entry_len (PySem.args_len1 _) ?_
  unfold Builtin.«len»
  refine wpAny_bind (m := oneArg "len" _) (wpAny_pure ?_)
  refine wpAny_bind (m := callSpecial? (.ref x) (Str.ofString "__len__")) (special_fn X I hs hf (wpAny_mono h (fun r s' hr => ?_) fun _ _ y => y))
  cases r <;> first | exact hr.elim | skip
  rename_i n u
  obtain ⟨⟨h0, h1⟩, hq⟩ := hr
  refine wpAny_bind (wpAny_holding (wpAny_pure ?_))
  refine wpAny_bind (wpAny_letGo ?_)
  show wpAny _ _ (if n < 0 then _ else _) _ _ _
  rw [if_neg (by omega)]
  show wpAny _ _ (if n ≥ 2 ^ 63 then _ else _) _ _ _
  rw [if_neg (by omega)]
  exact wpAny_bind (wpAny_mkInt (wpAny_pure ⟨_, rfl, hq⟩))
end
end Mine
end
section
open PySem PySem.W PyProof.Rows
namespace Mine
set_option maxRecDepth 100000 in
set_option maxHeartbeats 8000000 in
open_top hd for PySem.Challenge.rw_ft5022_01
end Mine
end
section
open PySem PySem.W PyProof.Rows
set_option maxRecDepth 100000
set_option linter.all false
namespace Mine
noncomputable abbrev KP (P : Params) : Frag := Mine.hd.heap_39 P
noncomputable def fdA (P : Params) (a : Addr) : FuncData := (fdAt (KP P) a).getD default

/-- what stands when law is called -/
structure HdOk (w : World) (h₀ : Heap) : Prop where
  X : (KP w.params).In h₀
  T : ∃ (p : Program) (loose : List Str) (mg mb : Str → Option Value), TopRead p loose mg mb h₀

theorem ns_user (P : Params) : nsIn (KP P) mainGlobals (S "_law_joined") = some (some (.ref 659)) ∧ nsIn (KP P) mainGlobals (S "_law_numbers") = some (some (.ref 645)) ∧ nsIn (KP P) mainGlobals (S "_law_ties") = some (some (.ref 652)) ∧
    nsIn (KP P) mainGlobals (S "_law_way") = some (some (.ref 664)) ∧ nsIn (KP P) mainGlobals (S "_law_greatest") = some (some (.ref 669)) ∧ nsIn (KP P) mainGlobals (S "_law_lots") = some (some (.ref 674)) ∧
    nsIn (KP P) mainGlobals (S "_plain_bfs") = some (some (.ref 35)) ∧ nsIn (KP P) mainGlobals (S "connected_components") = some (some (.ref 28)) ∧ nsIn (KP P) mainGlobals (S "Graph") = some (some (.ref 632)) := by
  refine ⟨?_, ?_, ?_, ?_, ?_, ?_, ?_, ?_, ?_⟩ <;> kernel_rfl
theorem ns_free (P : Params) : nsIn (KP P) mainGlobals (S "len") = some none ∧ nsIn (KP P) mainGlobals (S "sorted") = some none ∧ nsIn (KP P) mainGlobals (S "max") = some none ∧ nsIn (KP P) mainGlobals (S "sum") = some none ∧
    nsIn (KP P) mainGlobals (S "range") = some none ∧ nsIn (KP P) mainGlobals (S "list") = some none ∧ nsIn (KP P) mainGlobals (S "set") = some none ∧ nsIn (KP P) mainGlobals (S "iter") = some none := by
  refine ⟨?_, ?_, ?_, ?_, ?_, ?_, ?_, ?_⟩ <;> kernel_rfl
theorem boot_len : bootBuiltins (S "len") = some (.builtin "len") := by first | decide +kernel | kernel_rfl
theorem boot_sorted : bootBuiltins (S "sorted") = some (.builtin "sorted") := by first | decide +kernel | kernel_rfl
theorem boot_max : bootBuiltins (S "max") = some (.builtin "max") := by first | decide +kernel | kernel_rfl
theorem boot_sum : bootBuiltins (S "sum") = some (.builtin "sum") := by first | decide +kernel | kernel_rfl
theorem boot_range : bootBuiltins (S "range") = some (.type "range") := by first | decide +kernel | kernel_rfl
theorem boot_list : bootBuiltins (S "list") = some (.type "list") := by first | decide +kernel | kernel_rfl
theorem boot_set : bootBuiltins (S "set") = some (.type "set") := by first | decide +kernel | kernel_rfl
theorem boot_iter : bootBuiltins (S "iter") = some (.builtin "iter") := by first | decide +kernel | kernel_rfl
theorem ca_fn (P : Params) : fnTestC (KP P) 632 (S "add_nodes_from") 489 = true ∧ fnTestC (KP P) 632 (S "add_edge") 527 = true := by refine ⟨?_, ?_⟩ <;> kernel_rfl
theorem ca_ty (P : Params) : tyTestC (KP P) 632 (S "graph_attr_dict_factory") = true ∧ tyTestC (KP P) 632 (S "node_dict_factory") = true ∧ tyTestC (KP P) 632 (S "adjlist_outer_dict_factory") = true ∧ tyTestC (KP P) 632 (S "adjlist_inner_dict_factory") = true ∧
    tyTestC (KP P) 632 (S "node_attr_dict_factory") = true ∧ tyTestC (KP P) 632 (S "edge_attr_dict_factory") = true := by refine ⟨?_, ?_, ?_, ?_, ?_, ?_⟩ <;> kernel_rfl
theorem ca_ow (P : Params) : owTestC (KP P) 632 (S "graph") = true ∧ owTestC (KP P) 632 (S "_node") = true ∧ owTestC (KP P) 632 (S "_adj") = true := by refine ⟨?_, ?_, ?_⟩ <;> kernel_rfl

section
variable {prog : Program} {w : World} {h₀ : Heap} {n : Nat}
theorem HdOk.sm (H : HdOk w h₀) : ∃ a o, sysModules ≤ a ∧ h₀.get? a = some o := by
  obtain ⟨_, _, _, _, T⟩ := H.T
  obtain ⟨mc, ⟨o, _, _, ho, _⟩, _⟩ := T.nolimit
  exact ⟨cStatics, o, by decide, ho⟩
theorem HdOk.lim (H : HdOk w h₀) : h₀.NoLimit := by obtain ⟨_, _, _, _, T⟩ := H.T; exact T.nolimit

theorem load_user (H : HdOk w h₀) {x : Str} {v : Value} (e : nsIn (KP w.params) mainGlobals x = some (some v)) {A : Around} {E : Value → Shared → Prop} {s : Shared} {env : Env} {Q : Value → Shared → Prop}
    (hk : ∀ b o, h₀.get? b = some o → s.heap.get? b = some o) (hg : env.globals = mainGlobals) (q : Q v s) : wpAny (model prog w) A (loadGlobal env x) Q E s := by
  unfold loadGlobal
  rw [hg]
  refine wpAny_bind ((looks_nsIn (H.X.keeps hk) e).here ?_)
  exact wpAny_pure q
theorem load_built (H : HdOk w h₀) {x : Str} {v : Value} (e : nsIn (KP w.params) mainGlobals x = some none) (hb : bootBuiltins x = some v) (hn : x ≠ "__name__") {A : Around} {E : Value → Shared → Prop} {s : Shared} {env : Env} {Q : Value → Shared → Prop}
    (hk : ∀ b o, h₀.get? b = some o → s.heap.get? b = some o) (hg : env.globals = mainGlobals) (hbl : env.builtins = builtinsNs) (q : Q v s) : wpAny (model prog w) A (loadGlobal env x) Q E s := by
  obtain ⟨_, _, mg, mb, T⟩ := H.T
  unfold loadGlobal
  rw [hg, hbl]
  refine wpAny_bind ((looks_nsIn (H.X.keeps hk) e).here ?_)
  dsimp only
  refine wpAny_bind (wpAny_nsGet (T.b.keeps hk) ?_)
  rw [T.builtins x hn, hb]
  exact wpAny_pure q

theorem ifK {x c : Str} {a r : Option Value} {v : Value} (h : (if (x == c) = true then a else r) = some v) : (x = c ∧ a = some v) ∨ r = some v := by
  by_cases e : (x == c) = true
  · rw [if_pos e] at h; exact .inl ⟨eq_of_beq e, h⟩
  · rw [if_neg e] at h; exact .inr h
theorem gl_ok (H : HdOk w h₀) : GLoads prog w h₀ gvK := by
  intro x v hx A E s env Q hk hg hb q
  obtain ⟨u1, u2, u3, u4, u5, u6, u7, u8, u9⟩ := ns_user w.params
  obtain ⟨f1, f2, f3, f4, f5, f6, f7, f8⟩ := ns_free w.params
  unfold gvK at hx
  rcases ifK hx with ⟨rfl, h⟩ | hx
  · cases h; exact load_built H f1 boot_len (by decide +kernel) hk hg hb q
  rcases ifK hx with ⟨rfl, h⟩ | hx
  · cases h; exact load_built H f2 boot_sorted (by decide +kernel) hk hg hb q
  rcases ifK hx with ⟨rfl, h⟩ | hx
  · cases h; exact load_built H f3 boot_max (by decide +kernel) hk hg hb q
  rcases ifK hx with ⟨rfl, h⟩ | hx
  · cases h; exact load_built H f4 boot_sum (by decide +kernel) hk hg hb q
  rcases ifK hx with ⟨rfl, h⟩ | hx
  · cases h; exact load_built H f5 boot_range (by decide +kernel) hk hg hb q
  rcases ifK hx with ⟨rfl, h⟩ | hx
  · cases h; exact load_built H f6 boot_list (by decide +kernel) hk hg hb q
  rcases ifK hx with ⟨rfl, h⟩ | hx
  · cases h; exact load_built H f7 boot_set (by decide +kernel) hk hg hb q
  rcases ifK hx with ⟨rfl, h⟩ | hx
  · cases h; exact load_user H u1 hk hg q
  rcases ifK hx with ⟨rfl, h⟩ | hx
  · cases h; exact load_user H u2 hk hg q
  rcases ifK hx with ⟨rfl, h⟩ | hx
  · cases h; exact load_user H u3 hk hg q
  rcases ifK hx with ⟨rfl, h⟩ | hx
  · cases h; exact load_user H u4 hk hg q
  rcases ifK hx with ⟨rfl, h⟩ | hx
  · cases h; exact load_user H u5 hk hg q
  rcases ifK hx with ⟨rfl, h⟩ | hx
  · cases h; exact load_user H u6 hk hg q
  rcases ifK hx with ⟨rfl, h⟩ | hx
  · cases h; exact load_user H u7 hk hg q
  rcases ifK hx with ⟨rfl, h⟩ | hx
  · cases h; exact load_user H u8 hk hg q
  rcases ifK hx with ⟨rfl, h⟩ | hx
  · cases h; exact load_user H u9 hk hg q
  rcases ifK hx with ⟨rfl, h⟩ | hx
  · cases h; exact load_built H f8 boot_iter (by decide +kernel) hk hg hb q
  cases hx

/-- the text, up to what the calls do -/
theorem tok_of (H : HdOk w h₀) {O : Addr → List PV → Store → Option (PV × Store)} (ks : ∀ a vs σ r, O a vs σ = some r → ∃ k, (k = Keeper.frame ∨ k = Keeper.machine ∨ k = Keeper.boundFrame) ∧ Looks (model prog w) h₀ (keeperOf (.ref a)) k)
    (call : ∀ a vs σ pv σ', O a vs σ = some (pv, σ') → ∀ (A : Around) (Z : ZP) (ρ : List Addr) (s : Shared) (vals : List Value), AOk n A → Base prog w h₀ Z ρ σ s → All2 (VR Z ρ) vs vals → SndV prog w h₀ A Z ρ s (PySem.call (.ref a) vals) pv σ') :
    TOk prog w h₀ { T0 with O := O } n := by
  obtain ⟨f1, f2⟩ := ca_fn w.params
  obtain ⟨t1, t2, t3, t4, t5, t6⟩ := ca_ty w.params
  obtain ⟨o1, o2, o3⟩ := ca_ow w.params
  refine ⟨gl_ok H, ?_, ?_, ?_, ks, call, H.sm⟩
  · intro C name f h
    replace h : caK C name = some (.ref f) := h
    unfold caK at h
    by_cases hC : (C == 632) = true
    · rw [if_pos hC] at h
      have := eq_of_beq hC
      subst this
      rcases ifK h with ⟨rfl, h⟩ | h
      · cases h; exact fun A s E Q x d o pl hk hx hd hn q => get_fn H.X f1 hk hx hd hn q
      rcases ifK h with ⟨rfl, h⟩ | h
      · cases h; exact fun A s E Q x d o pl hk hx hd hn q => get_fn H.X f2 hk hx hd hn q
      rcases ifK h with ⟨rfl, h⟩ | h
      · cases h
      rcases ifK h with ⟨rfl, h⟩ | h
      · cases h
      rcases ifK h with ⟨rfl, h⟩ | h
      · cases h
      rcases ifK h with ⟨rfl, h⟩ | h
      · cases h
      rcases ifK h with ⟨rfl, h⟩ | h
      · cases h
      rcases ifK h with ⟨rfl, h⟩ | h
      · cases h
      cases h
    · rw [if_neg hC] at h; cases h
  · intro C name nm h
    replace h : caK C name = some (.type nm) := h
    unfold caK at h
    by_cases hC : (C == 632) = true
    · rw [if_pos hC] at h
      have := eq_of_beq hC
      subst this
      rcases ifK h with ⟨rfl, h⟩ | h
      · cases h
      rcases ifK h with ⟨rfl, h⟩ | h
      · cases h
      rcases ifK h with ⟨rfl, h⟩ | h
      · cases h; exact fun A s E Q x d o pl hk hx hd hn q => get_ty H.X t1 hk hx hd hn q
      rcases ifK h with ⟨rfl, h⟩ | h
      · cases h; exact fun A s E Q x d o pl hk hx hd hn q => get_ty H.X t2 hk hx hd hn q
      rcases ifK h with ⟨rfl, h⟩ | h
      · cases h; exact fun A s E Q x d o pl hk hx hd hn q => get_ty H.X t3 hk hx hd hn q
      rcases ifK h with ⟨rfl, h⟩ | h
      · cases h; exact fun A s E Q x d o pl hk hx hd hn q => get_ty H.X t4 hk hx hd hn q
      rcases ifK h with ⟨rfl, h⟩ | h
      · cases h; exact fun A s E Q x d o pl hk hx hd hn q => get_ty H.X t5 hk hx hd hn q
      rcases ifK h with ⟨rfl, h⟩ | h
      · cases h; exact fun A s E Q x d o pl hk hx hd hn q => get_ty H.X t6 hk hx hd hn q
      cases h
    · rw [if_neg hC] at h; cases h
  · intro C name h
    replace h : owK C name = true := h
    unfold owK at h
    simp only [Bool.and_eq_true, Bool.or_eq_true] at h
    obtain ⟨hC, h⟩ := h
    have := eq_of_beq hC
    subst this
    rcases h with (h | h) | h
    · have := eq_of_beq h; subst this
      exact fun A s E Q x d o v hk hx hd hn hh q => get_own' H.X o1 hk hx hd hn hh q
    · have := eq_of_beq h; subst this
      exact fun A s E Q x d o v hk hx hd hn hh q => get_own' H.X o2 hk hx hd hn hh q
    · have := eq_of_beq h; subst this
      exact fun A s E Q x d o v hk hx hd hn hh q => get_own' H.X o3 hk hx hd hn hh q
end
end Mine
end
section
open PySem PySem.W PyProof.Rows
set_option maxRecDepth 100000
set_option linter.all false
namespace Mine

theorem fd_joined (P : Params) : fdAt (KP P) 659 = some (fdA P 659) := by kernel_rfl
theorem ft_joined (P : Params) : fnTest (KP P) (fdA P 659) = true := by kernel_rfl
theorem fb_joined (P : Params) : (fdA P 659).body = .stmts (txtOf "_law_joined").1 := by kernel_rfl
theorem fs_joined (P : Params) : (fdA P 659).scope = (txtOf "_law_joined").2 := by kernel_rfl
theorem bd_joined (P : Params) (a0 a1 a2 : PySem.Value) : bindArgs (fdA P 659) ⟨[a0, a1, a2], []⟩ = pure ([S "ties", S "u", S "v"].zip [a0, a1, a2]) := by kernel_rfl
theorem kd_joined (P : Params) : ∀ x ∈ [S "ties", S "u", S "v"], (fdA P 659).scope.names.lookup x = some .local ∨ (fdA P 659).scope.names.lookup x = some .cell := by
  rw [fs_joined]; decide +kernel
theorem fd_greatest (P : Params) : fdAt (KP P) 669 = some (fdA P 669) := by kernel_rfl
theorem ft_greatest (P : Params) : fnTest (KP P) (fdA P 669) = true := by kernel_rfl
theorem fb_greatest (P : Params) : (fdA P 669).body = .stmts (txtOf "_law_greatest").1 := by kernel_rfl
theorem fs_greatest (P : Params) : (fdA P 669).scope = (txtOf "_law_greatest").2 := by kernel_rfl
theorem bd_greatest (P : Params) (a0 a1 a2 : PySem.Value) : bindArgs (fdA P 669) ⟨[a0, a1, a2], []⟩ = pure ([S "n", S "ties", S "joined"].zip [a0, a1, a2]) := by kernel_rfl
theorem kd_greatest (P : Params) : ∀ x ∈ [S "n", S "ties", S "joined"], (fdA P 669).scope.names.lookup x = some .local ∨ (fdA P 669).scope.names.lookup x = some .cell := by
  rw [fs_greatest]; decide +kernel
theorem fd_way (P : Params) : fdAt (KP P) 664 = some (fdA P 664) := by kernel_rfl
theorem ft_way (P : Params) : fnTest (KP P) (fdA P 664) = true := by kernel_rfl
theorem fb_way (P : Params) : (fdA P 664).body = .stmts (txtOf "_law_way").1 := by kernel_rfl
theorem fs_way (P : Params) : (fdA P 664).scope = (txtOf "_law_way").2 := by kernel_rfl
theorem bd_way (P : Params) (a0 a1 : PySem.Value) : bindArgs (fdA P 664) ⟨[a0, a1], []⟩ = pure ([S "n", S "ties"].zip [a0, a1]) := by kernel_rfl
theorem kd_way (P : Params) : ∀ x ∈ [S "n", S "ties"], (fdA P 664).scope.names.lookup x = some .local ∨ (fdA P 664).scope.names.lookup x = some .cell := by
  rw [fs_way]; decide +kernel
theorem fd_numbers (P : Params) : fdAt (KP P) 645 = some (fdA P 645) := by kernel_rfl
theorem ft_numbers (P : Params) : fnTest (KP P) (fdA P 645) = true := by kernel_rfl
theorem fb_numbers (P : Params) : (fdA P 645).body = .stmts (txtOf "_law_numbers").1 := by kernel_rfl
theorem fs_numbers (P : Params) : (fdA P 645).scope = (txtOf "_law_numbers").2 := by kernel_rfl
theorem bd_numbers (P : Params) (a0 a1 : PySem.Value) : bindArgs (fdA P 645) ⟨[a0, a1], []⟩ = pure ([S "script", S "many"].zip [a0, a1]) := by kernel_rfl
theorem kd_numbers (P : Params) : ∀ x ∈ [S "script", S "many"], (fdA P 645).scope.names.lookup x = some .local ∨ (fdA P 645).scope.names.lookup x = some .cell := by
  rw [fs_numbers]; decide +kernel
theorem fd_ties (P : Params) : fdAt (KP P) 652 = some (fdA P 652) := by kernel_rfl
theorem ft_ties (P : Params) : fnTest (KP P) (fdA P 652) = true := by kernel_rfl
theorem fb_ties (P : Params) : (fdA P 652).body = .stmts (txtOf "_law_ties").1 := by kernel_rfl
theorem fs_ties (P : Params) : (fdA P 652).scope = (txtOf "_law_ties").2 := by kernel_rfl
theorem bd_ties (P : Params) (a0 : PySem.Value) : bindArgs (fdA P 652) ⟨[a0], []⟩ = pure ([S "found"].zip [a0]) := by kernel_rfl
theorem kd_ties (P : Params) : ∀ x ∈ [S "found"], (fdA P 652).scope.names.lookup x = some .local ∨ (fdA P 652).scope.names.lookup x = some .cell := by
  rw [fs_ties]; decide +kernel
theorem fd_lots (P : Params) : fdAt (KP P) 674 = some (fdA P 674) := by kernel_rfl
theorem ft_lots (P : Params) : fnTest (KP P) (fdA P 674) = true := by kernel_rfl
theorem fb_lots (P : Params) : (fdA P 674).body = .stmts (txtOf "_law_lots").1 := by kernel_rfl
theorem fs_lots (P : Params) : (fdA P 674).scope = (txtOf "_law_lots").2 := by kernel_rfl
theorem bd_lots (P : Params) (a0 a1 a2 : PySem.Value) : bindArgs (fdA P 674) ⟨[a0, a1, a2], []⟩ = pure ([S "some", S "ties", S "kept"].zip [a0, a1, a2]) := by kernel_rfl
theorem kd_lots (P : Params) : ∀ x ∈ [S "some", S "ties", S "kept"], (fdA P 674).scope.names.lookup x = some .local ∨ (fdA P 674).scope.names.lookup x = some .cell := by
  rw [fs_lots]; decide +kernel
theorem fd_law (P : Params) : fdAt (KP P) 679 = some (fdA P 679) := by kernel_rfl
theorem ft_law (P : Params) : fnTest (KP P) (fdA P 679) = true := by kernel_rfl
theorem fb_law (P : Params) : (fdA P 679).body = .stmts (txtOf "law").1 := by kernel_rfl
theorem fs_law (P : Params) : (fdA P 679).scope = (txtOf "law").2 := by kernel_rfl
theorem bd_law (P : Params) (a0 : PySem.Value) : bindArgs (fdA P 679) ⟨[a0], []⟩ = pure ([S "script"].zip [a0]) := by kernel_rfl
theorem kd_law (P : Params) : ∀ x ∈ [S "script"], (fdA P 679).scope.names.lookup x = some .local ∨ (fdA P 679).scope.names.lookup x = some .cell := by
  rw [fs_law]; decide +kernel
theorem fd_bfs (P : Params) : fdAt (KP P) 35 = some (fdA P 35) := by kernel_rfl
theorem ft_bfs (P : Params) : fnTest (KP P) (fdA P 35) = true := by kernel_rfl
theorem fb_bfs (P : Params) : (fdA P 35).body = .stmts (txtOf "_plain_bfs").1 := by kernel_rfl
theorem fs_bfs (P : Params) : (fdA P 35).scope = (txtOf "_plain_bfs").2 := by kernel_rfl
theorem bd_bfs (P : Params) (a0 a1 a2 : PySem.Value) : bindArgs (fdA P 35) ⟨[a0, a1, a2], []⟩ = pure ([S "G", S "n", S "source"].zip [a0, a1, a2]) := by kernel_rfl
theorem kd_bfs (P : Params) : ∀ x ∈ [S "G", S "n", S "source"], (fdA P 35).scope.names.lookup x = some .local ∨ (fdA P 35).scope.names.lookup x = some .cell := by
  rw [fs_bfs]; decide +kernel
theorem fd_cc (P : Params) : fdAt (KP P) 28 = some (fdA P 28) := by kernel_rfl
theorem ft_cc (P : Params) : fnTest (KP P) (fdA P 28) true = true := by kernel_rfl
theorem fb_cc (P : Params) : (fdA P 28).body = .stmts (txtOf "connected_components").1 := by kernel_rfl
theorem fs_cc (P : Params) : (fdA P 28).scope = (txtOf "connected_components").2 := by kernel_rfl
theorem bd_cc (P : Params) (a0 : PySem.Value) : bindArgs (fdA P 28) ⟨[a0], []⟩ = pure ([S "G"].zip [a0]) := by kernel_rfl
theorem kd_cc (P : Params) : ∀ x ∈ [S "G"], (fdA P 28).scope.names.lookup x = some .local ∨ (fdA P 28).scope.names.lookup x = some .cell := by
  rw [fs_cc]; decide +kernel
theorem fd_addn (P : Params) : fdAt (KP P) 489 = some (fdA P 489) := by kernel_rfl
theorem ft_addn (P : Params) : fnTest (KP P) (fdA P 489) = true := by kernel_rfl
theorem fb_addn (P : Params) : (fdA P 489).body = .stmts (txtG "add_nodes_from").1 := by kernel_rfl
theorem fs_addn (P : Params) : (fdA P 489).scope = (txtG "add_nodes_from").2 := by kernel_rfl
theorem bd_addn (P : Params) (a0 a1 : PySem.Value) : bindArgs (fdA P 489) ⟨[a0, a1], []⟩ = (alloc { cls := .type "dict", data := .dict #[] } >>= fun d => pure ([S "self", S "nodes_for_adding"].zip [a0, a1] ++ [(S "attr", .ref d)])) := by kernel_rfl
theorem kd_addn (P : Params) : ∀ x ∈ [S "self", S "nodes_for_adding", S "attr"], (fdA P 489).scope.names.lookup x = some .local ∨ (fdA P 489).scope.names.lookup x = some .cell := by
  rw [fs_addn]; decide +kernel
theorem fd_adde (P : Params) : fdAt (KP P) 527 = some (fdA P 527) := by kernel_rfl
theorem ft_adde (P : Params) : fnTest (KP P) (fdA P 527) = true := by kernel_rfl
theorem fb_adde (P : Params) : (fdA P 527).body = .stmts (txtG "add_edge").1 := by kernel_rfl
theorem fs_adde (P : Params) : (fdA P 527).scope = (txtG "add_edge").2 := by kernel_rfl
theorem bd_adde (P : Params) (a0 a1 a2 : PySem.Value) : bindArgs (fdA P 527) ⟨[a0, a1, a2], []⟩ = (alloc { cls := .type "dict", data := .dict #[] } >>= fun d => pure ([S "self", S "u_of_edge", S "v_of_edge"].zip [a0, a1, a2] ++ [(S "attr", .ref d)])) := by kernel_rfl
theorem kd_adde (P : Params) : ∀ x ∈ [S "self", S "u_of_edge", S "v_of_edge", S "attr"], (fdA P 527).scope.names.lookup x = some .local ∨ (fdA P 527).scope.names.lookup x = some .cell := by
  rw [fs_adde]; decide +kernel
theorem fd_glen (P : Params) : fdAt (KP P) 468 = some (fdA P 468) := by kernel_rfl
theorem ft_glen (P : Params) : fnTest (KP P) (fdA P 468) = true := by kernel_rfl
theorem fb_glen (P : Params) : (fdA P 468).body = .stmts (txtG "__len__").1 := by kernel_rfl
theorem fs_glen (P : Params) : (fdA P 468).scope = (txtG "__len__").2 := by kernel_rfl
theorem bd_glen (P : Params) (a0 : PySem.Value) : bindArgs (fdA P 468) ⟨[a0], []⟩ = pure ([S "self"].zip [a0]) := by kernel_rfl
theorem kd_glen (P : Params) : ∀ x ∈ [S "self"], (fdA P 468).scope.names.lookup x = some .local ∨ (fdA P 468).scope.names.lookup x = some .cell := by
  rw [fs_glen]; decide +kernel
theorem fd_giter (P : Params) : fdAt (KP P) 454 = some (fdA P 454) := by kernel_rfl
theorem ft_giter (P : Params) : fnTest (KP P) (fdA P 454) = true := by kernel_rfl
theorem fb_giter (P : Params) : (fdA P 454).body = .stmts (txtG "__iter__").1 := by kernel_rfl
theorem fs_giter (P : Params) : (fdA P 454).scope = (txtG "__iter__").2 := by kernel_rfl
theorem bd_giter (P : Params) (a0 : PySem.Value) : bindArgs (fdA P 454) ⟨[a0], []⟩ = pure ([S "self"].zip [a0]) := by kernel_rfl
theorem kd_giter (P : Params) : ∀ x ∈ [S "self"], (fdA P 454).scope.names.lookup x = some .local ∨ (fdA P 454).scope.names.lookup x = some .cell := by
  rw [fs_giter]; decide +kernel
theorem fd_ginit (P : Params) : fdAt (KP P) 437 = some (fdA P 437) := by kernel_rfl
theorem ft_ginit (P : Params) : fnTest (KP P) (fdA P 437) = true := by kernel_rfl
theorem fb_ginit (P : Params) : (fdA P 437).body = .stmts (txtG "__init__").1 := by kernel_rfl
theorem fs_ginit (P : Params) : (fdA P 437).scope = (txtG "__init__").2 := by kernel_rfl
theorem kd_ginit (P : Params) : ∀ x ∈ [S "self", S "incoming_graph_data", S "attr"], (fdA P 437).scope.names.lookup x = some .local ∨ (fdA P 437).scope.names.lookup x = some .cell := by
  rw [fs_ginit]; decide +kernel

section
variable {prog : Program} {w : World} {h₀ : Heap} {n : Nat}
theorem ok_joined (H : HdOk w h₀) : FnOk h₀ 659 (fdA w.params 659) (txtOf "_law_joined").1 := fnOk H.X H.lim (fd_joined _) (ft_joined _) (fb_joined _)
theorem ok_greatest (H : HdOk w h₀) : FnOk h₀ 669 (fdA w.params 669) (txtOf "_law_greatest").1 := fnOk H.X H.lim (fd_greatest _) (ft_greatest _) (fb_greatest _)
theorem ok_way (H : HdOk w h₀) : FnOk h₀ 664 (fdA w.params 664) (txtOf "_law_way").1 := fnOk H.X H.lim (fd_way _) (ft_way _) (fb_way _)
theorem ok_numbers (H : HdOk w h₀) : FnOk h₀ 645 (fdA w.params 645) (txtOf "_law_numbers").1 := fnOk H.X H.lim (fd_numbers _) (ft_numbers _) (fb_numbers _)
theorem ok_ties (H : HdOk w h₀) : FnOk h₀ 652 (fdA w.params 652) (txtOf "_law_ties").1 := fnOk H.X H.lim (fd_ties _) (ft_ties _) (fb_ties _)
theorem ok_lots (H : HdOk w h₀) : FnOk h₀ 674 (fdA w.params 674) (txtOf "_law_lots").1 := fnOk H.X H.lim (fd_lots _) (ft_lots _) (fb_lots _)
theorem ok_law (H : HdOk w h₀) : FnOk h₀ 679 (fdA w.params 679) (txtOf "law").1 := fnOk H.X H.lim (fd_law _) (ft_law _) (fb_law _)
theorem ok_bfs (H : HdOk w h₀) : FnOk h₀ 35 (fdA w.params 35) (txtOf "_plain_bfs").1 := fnOk H.X H.lim (fd_bfs _) (ft_bfs _) (fb_bfs _)
theorem ok_cc (H : HdOk w h₀) : FnOk h₀ 28 (fdA w.params 28) (txtOf "connected_components").1 true := fnOk H.X H.lim (fd_cc _) (ft_cc _) (fb_cc _)
theorem ok_addn (H : HdOk w h₀) : FnOk h₀ 489 (fdA w.params 489) (txtG "add_nodes_from").1 := fnOk H.X H.lim (fd_addn _) (ft_addn _) (fb_addn _)
theorem ok_adde (H : HdOk w h₀) : FnOk h₀ 527 (fdA w.params 527) (txtG "add_edge").1 := fnOk H.X H.lim (fd_adde _) (ft_adde _) (fb_adde _)
theorem ok_glen (H : HdOk w h₀) : FnOk h₀ 468 (fdA w.params 468) (txtG "__len__").1 := fnOk H.X H.lim (fd_glen _) (ft_glen _) (fb_glen _)
theorem ok_giter (H : HdOk w h₀) : FnOk h₀ 454 (fdA w.params 454) (txtG "__iter__").1 := fnOk H.X H.lim (fd_giter _) (ft_giter _) (fb_giter _)
theorem ok_ginit (H : HdOk w h₀) : FnOk h₀ 437 (fdA w.params 437) (txtG "__init__").1 := fnOk H.X H.lim (fd_ginit _) (ft_ginit _) (fb_ginit _)
theorem keep_func {a : Addr} {fd : FuncData} {body : List Stmt} {ig : Bool} (F : FnOk h₀ a fd body ig) : ∃ k, (k = Keeper.frame ∨ k = Keeper.machine ∨ k = Keeper.boundFrame) ∧ Looks (model prog w) h₀ (keeperOf (.ref a)) k := by
  obtain ⟨o, ho, hd⟩ := F.at_
  refine ⟨.frame, .inl rfl, ?_⟩
  unfold keeperOf
  refine (Looks.ld ho).andThen ?_
  rw [hd]
  exact .now
theorem mk_graph (P : Params) : makesIn (KP P) 632 = true := by kernel_rfl
theorem ini_graph (P : Params) : findIn (KP P) (.ref 632) "__init__" = some (some (.ref 437)) := by kernel_rfl
theorem ty_init (P : Params) : typeIn (KP P) (.ref 437) = some (.type "function") := by kernel_rfl
theorem keep_cls (H : HdOk w h₀) : ∃ k, (k = Keeper.frame ∨ k = Keeper.machine ∨ k = Keeper.boundFrame) ∧ Looks (model prog w) h₀ (keeperOf (.ref 632)) k := by
  have Y := makes_of (M := model prog w) H.X (mk_graph w.params)
  obtain ⟨oc, od, cd, sl, ho, _⟩ := Y.obj
  refine ⟨.machine, .inr (.inl rfl), ?_⟩
  unfold keeperOf
  refine (Looks.ld ho).andThen ?_
  exact Y.call.andThen .now

/-- what a tree allocates first, after it has looked -/
def peekB {α : Type} (K : Frag) : Sem α → Option (Obj × (Addr → Sem α))
  | .rule _ k => peekB K (k ())
  | .point _ k => peekB K (k ())
  | .load a _ k => (match K.lookup a with
      | some o => peekB K (k o)
      | none => none)
  | .alloc o k => some (o, k)
  | _ => none
theorem wp_peekB {α : Type} {K : Frag} {M : Model} {A : Around} {E : Value → Shared → Prop} {Q : α → Shared → Prop} {s : Shared} {o : Obj} (X : K.In s.heap) :
    ∀ (t : Sem α) (g : Addr → Sem α), peekB K t = some (o, g) → wpAny M A (g s.heap.objs.size) Q E { s with heap := s.heap.push o } → wpAny M A t Q E s := by
  intro t
  induction t with
  | rule _ k ih => intro g e q Γ p hΓ; exact ih () g e q Γ p hΓ
  | point _ k ih => intro g e q Γ p hΓ; exact ih () g e q Γ p hΓ
  | load a _ k ih =>
    intro g e q Γ p hΓ
    simp only [peekB] at e
    split at e
    · rename_i ob ho; exact ⟨ob, X _ _ ho, ih ob g e q Γ p hΓ⟩
    · cases e
  | alloc ob k _ =>
    intro g e q
    cases e
    exact wpAny_bind (m := alloc _) (wpAny_alloc q)
  | _ => intro g e; cases e
theorem bd_ginit (P : Params) (a : PySem.Value) : peekB (KP P) (bindArgs (fdA P 437) ⟨[a], []⟩) = some ({ cls := .type "dict", data := .dict #[] }, fun d => pure ([S "self", S "incoming_graph_data", S "attr"].zip [a, .none, .ref d])) := by kernel_rfl
section
variable {A : Around} {s : Shared} {Z : ZP} {ρ : List Addr} {σ : Store}
theorem bind_init (H : HdOk w h₀) (B : Base prog w h₀ Z ρ σ s) {v : Value} {pv : PV} (hv : VR Z ρ pv v) :
    BindS prog w h₀ A Z ρ s (fdA w.params 437) [v] [S "self", S "incoming_graph_data", S "attr"] [pv, .d .none, .ref σ.length] (σ ++ [.dict []]) := fun E Q k => by
  have hs : s.heap.objs.size ≠ sysModules := by
    obtain ⟨a, o, ha, ho⟩ := H.sm
    have := Heap.lt_size (B.h0 _ _ ho)
    exact fun e => Nat.not_lt.mpr ha (e ▸ this)
  obtain ⟨Z', ρ', g, B', r⟩ := push_new (tk := s.toks) (po := .dict []) (o := { cls := .type "dict", data := .dict #[] }) B (dict_or s.heap B hs)
  refine wp_peekB (H.X.keeps B.h0) _ _ (bd_ginit w.params v) ?_
  exact wpAny_pure (k _ Z' ρ' _ g B' (.cons (hv.grow g) (.cons VD.none (.cons r .nil))) rfl)
end
end
end Mine
end
section
open PySem PySem.W PyProof.Rows
set_option maxRecDepth 100000
set_option linter.all false
namespace Mine
theorem st_attrs (P : Params) : setTestC (KP P) 632 (S "graph") = true ∧ setTestC (KP P) 632 (S "_node") = true ∧ setTestC (KP P) 632 (S "_adj") = true := by refine ⟨?_, ?_, ?_⟩ <;> kernel_rfl

def iT : List Stmt × Scope := txtG "__init__"
def iφ : Frm := frmOf iT.2 ([S "self", S "incoming_graph_data", S "attr"].zip [.ref 1, .d .none, .ref 2])
def iσ0 : Store := [.attrs [], .inst 632 0, .dict []]
def iσ1 : Store := [.attrs [(S "graph", .ref 3)], .inst 632 0, .dict [], .dict []]
def iσ2 : Store := [.attrs [(S "graph", .ref 3), (S "_node", .ref 4)], .inst 632 0, .dict [], .dict [], .dict []]
def σG : Store := [.attrs [(S "graph", .ref 3), (S "_node", .ref 4), (S "_adj", .ref 5)], .inst 632 0, .dict [], .dict [], .dict [], .dict []]
theorem i_body : iT.1 = [sAt iT.1 0, sAt iT.1 1, sAt iT.1 2, sAt iT.1 3, sAt iT.1 4] := by kernel_rfl
theorem i_sa : saOk (S "self") (S "graph") (sAt iT.1 0) = true ∧ saOk (S "self") (S "_node") (sAt iT.1 1) = true ∧ saOk (S "self") (S "_adj") (sAt iT.1 2) = true := by refine ⟨?_, ?_, ?_⟩ <;> kernel_rfl
theorem i_v0 : (R T0 20).ev iT.2 iφ (saVal (sAt iT.1 0)) iσ0 = some (.ref 3, iσ0 ++ [.dict []]) := by kernel_rfl
theorem i_v1 : (R T0 20).ev iT.2 iφ (saVal (sAt iT.1 1)) iσ1 = some (.ref 4, iσ1 ++ [.dict []]) := by kernel_rfl
theorem i_v2 : (R T0 20).ev iT.2 iφ (saVal (sAt iT.1 2)) iσ2 = some (.ref 5, iσ2 ++ [.dict []]) := by kernel_rfl
theorem i_self : ldN iT.2 iφ (S "self") = some (.ref 1) := by kernel_rfl
theorem i_rest : exs (R T0 20) iT.2 [sAt iT.1 3, sAt iT.1 4] iφ σG = some (.nxt, iφ, σG) := by kernel_rfl

section
variable {prog : Program} {w : World} {h₀ : Heap} {A : Around} {s s' : Shared} {Z Z' : ZP} {ρ ρ' : List Addr} {σ σ' : Store} {env : Env} {n : Nat}

theorem tok0 (H : HdOk w h₀) (n : Nat) : TOk prog w h₀ T0 n := tok_of (O := fun _ _ _ => none) H (fun _ _ _ _ h => nomatch h) (fun _ _ _ _ _ h => nomatch h)

theorem init_body (H : HdOk w h₀) (hA : AOk n A) (hs : env.scope = iT.2) (B : Base prog w h₀ Z ρ iσ0 s) (L : Loc Z ρ env iφ s) : SndF prog w h₀ A env Z ρ s (execs iT.1 env) .nxt iφ σG := by
  have S0 := sound (tok0 (prog := prog) H n) 20
  obtain ⟨t1, t2, t3⟩ := st_attrs w.params
  obtain ⟨a1, a2, a3⟩ := i_sa
  rw [i_body]
  refine SndF.seq (snd_setattr S0 hA hs H.X t1 a1 i_v0 i_self (by decide +kernel) (by decide +kernel) (C := 632) (d := 0) (es := []) rfl rfl rfl (by decide) B L) fun s₁ Z₁ ρ₁ B₁ L₁ => ?_
  refine SndF.seq (snd_setattr S0 hA hs H.X t2 a2 i_v1 i_self (by decide +kernel) (by decide +kernel) (C := 632) (d := 0) (es := [(S "graph", .ref 3)]) rfl rfl (by kernel_rfl) (by decide) B₁ L₁) fun s₂ Z₂ ρ₂ B₂ L₂ => ?_
  refine SndF.seq (snd_setattr S0 hA hs H.X t3 a3 i_v2 i_self (by decide +kernel) (by decide +kernel) (C := 632) (d := 0) (es := [(S "graph", .ref 3), (S "_node", .ref 4)]) rfl rfl (by kernel_rfl) (by decide) B₂ L₂) fun s₃ Z₃ ρ₃ B₃ L₃ => ?_
  exact snd_exs S0 hA hs i_rest B₃ L₃

theorem graph_call (H : HdOk w h₀) (hA : AOk (n + 2) A) (B : Base prog w h₀ Z [] [] s) : SndV prog w h₀ A Z [] s (call (.ref 632) []) (.ref 1) σG := by
  refine graph_snd (σ := []) H.X (mk_graph _) (ini_graph _) (ty_init _) hA B fun A' s' Z' ρ' x R hA' B' hx k => ?_
  refine code_fnB (n := n) (ok_ginit H) hA' (by decide +kernel) B' (bind_init H B' (pv := .ref 1) ⟨x, hx, rfl⟩) (kd_ginit _) (fun env s₁ Z₁ ρ₁ he B₁ L₁ => ?_) k
  refine body_of (f := .nxt) (φ' := iφ) (init_body H (hA'.deeper env) (he.trans (fs_ginit _)) B₁ ?_) rfl
  rw [fs_ginit] at L₁
  exact L₁
end
end Mine
end
section
open PySem PySem.W PyProof.Rows
set_option maxRecDepth 100000
set_option linter.all false
namespace Mine
section
variable {T : Txt} {r : Rec} {N : Nat} {sc : Scope} {φ φ' φ₁ φ₂ : Frm} {e : Expr} {st : Stmt} {σ σ1 σ2 σ3 σ4 : Store} {v v1 v2 v3 pv ov : PV} {b b1 b2 : Bool} {f : Fl}

def isAttr (a : Str) : Expr → Bool
  | .Attribute o c _ => c == a && noCall o
  | _ => false
theorem ev_attr {a : Str} {k d : Nat} {C : Addr} {es : List (Str × PV)} (hs : isAttr a e = true) (h1 : (R T N).ev sc φ (eArg e 0) σ = some (.ref k, σ1)) (h2 : σ1[k]? = some (.inst C d)) (h3 : T.ow C a = true) (h4 : σ1[d]? = some (.attrs es)) (h5 : es.lookup a = some v) :
    (R T (N + 1)).ev sc φ e σ = some (v, σ1) := by
  cases e <;> simp only [isAttr, Bool.false_eq_true] at hs
  rename_i o c p
  rw [Bool.and_eq_true] at hs
  have hf := Str.beq_eq hs.1
  subst hf
  simp only [eArg] at h1
  have hi : instOf (.ref k) σ1 = some (C, d) := by simp only [instOf, h2]
  rw [R_ev]
  simp only [stepEv, hs.2, if_true, h1, hi, h3, h4, h5, Option.map_some]

def isCallM (a : Str) : Expr → Bool
  | .Call (.Attribute o c apos) args [] pos => c == a && (noCall o && decide (args.length < 20) && (apos.endLine == pos.line))
  | _ => false
def cmObj : Expr → Expr
  | .Call (.Attribute o _ _) _ _ _ => o
  | _ => xN
theorem ev_callM {a : Str} {c : Cal} {vs : List PV} (hs : isCallM a e = true) (h1 : (R T N).ev sc φ (cmObj e) σ = some (ov, σ1)) (h2 : calleeM T ov a σ1 = some c) (h3 : evs (R T N) sc φ (eArgs e) σ1 = some (vs, σ2)) (h4 : runM T c ov vs σ2 = some (pv, σ3)) :
    (R T (N + 1)).ev sc φ e σ = some (pv, σ3) := by
  unfold isCallM at hs
  split at hs
  · rename_i o c apos args pos
    rw [Bool.and_eq_true] at hs
    have hf := Str.beq_eq hs.1
    subst hf
    replace h1 : (R T N).ev sc φ o σ = _ := h1
    replace h3 : evs (R T N) sc φ args σ1 = _ := h3
    rw [R_ev]
    simp only [stepEv, hs.2, if_true, h1, h2, h3, h4]
  · cases hs

def isExC : Stmt → Bool
  | .Expr (.Call ..) _ => true
  | _ => false
theorem ex_expr (hs : isExC st = true) (h : (R T N).ev sc φ (sVal st) σ = some (.d .none, σ1)) : (R T (N + 1)).ex sc st φ σ = some (.nxt, φ, σ1) := by
  unfold isExC at hs
  split at hs
  · simp only [sVal] at h
    rw [R_ex]
    simp only [stepEx, h]
  · cases hs

def isIf : Stmt → Bool
  | .If .. => true
  | _ => false
theorem ex_ifT (hs : isIf st = true) (h : (R T N).tr sc φ (sVal st) σ = some (true, σ1)) (h2 : exs (R T N) sc (sBody st) φ σ1 = some (f, φ', σ2)) : (R T (N + 1)).ex sc st φ σ = some (f, φ', σ2) := by
  cases st <;> simp only [isIf, Bool.false_eq_true] at hs
  simp only [sVal] at h
  simp only [sBody] at h2
  rw [R_ex]
  simp only [stepEx, h, h2]
theorem ex_ifF (hs : isIf st = true) (h : (R T N).tr sc φ (sVal st) σ = some (false, σ1)) (h2 : exs (R T N) sc (sElse st) φ σ1 = some (f, φ', σ2)) : (R T (N + 1)).ex sc st φ σ = some (f, φ', σ2) := by
  cases st <;> simp only [isIf, Bool.false_eq_true] at hs
  simp only [sVal] at h
  simp only [sElse] at h2
  rw [R_ex]
  simp only [stepEx, h, h2]

/-- o[i] = v -/
def isSubAs : Stmt → Bool
  | .Assign [.Subscript _ (.Slice ..) _] _ _ => false
  | .Assign [.Subscript _ _ _] v _ => plainVal v
  | _ => false
def sO : Stmt → Expr
  | .Assign [.Subscript o _ _] _ _ => o
  | _ => xN
def sI : Stmt → Expr
  | .Assign [.Subscript _ i _] _ _ => i
  | _ => xN
theorem ex_sub {k : Int} (hs : isSubAs st = true) (h1 : (R T N).ev sc φ (sVal st) σ = some (pv, σ1)) (h2 : (R T N).ev sc φ (sO st) σ1 = some (ov, σ2)) (h3 : (R T N).ev sc φ (sI st) σ2 = some (.d (.int k), σ3)) (h4 : setAt ov k pv σ3 = some σ4) :
    (R T (N + 1)).ex sc st φ σ = some (.nxt, φ, σ4) := by
  unfold isSubAs at hs
  split at hs
  · cases hs
  · rename_i o i p v p' hns
    replace h1 : (R T N).ev sc φ v σ = _ := h1
    replace h2 : (R T N).ev sc φ o σ1 = _ := h2
    replace h3 : (R T N).ev sc φ i σ2 = _ := h3
    rw [R_ex]
    cases i <;> first | exact (hns _ _ _ _ rfl).elim | simp only [stepEx, hs, if_true, h1, h2, h3, h4, Option.map_some]
  · cases hs

def isFor (x : Str) : Stmt → Bool
  | .For (.Name y _) iter _ [] _ => y == x && plainIter iter
  | _ => false
theorem ex_for {x : Str} {items : List PyData} (hs : isFor x st = true) (h1 : (R T N).ev sc φ (sVal st) σ = some (v, σ1)) (h2 : forItems v σ1 = some (items, σ2)) (h3 : eFor (R T N) sc x (sBody st) items φ σ2 = some (f, φ', σ3)) :
    (R T (N + 1)).ex sc st φ σ = some (f, φ', σ3) := by
  unfold isFor at hs
  split at hs
  · rename_i y p iter body p'
    rw [Bool.and_eq_true] at hs
    have hf := Str.beq_eq hs.1
    subst hf
    replace h1 : (R T N).ev sc φ iter σ = _ := h1
    replace h3 : eFor (R T N) sc y body items φ σ2 = _ := h3
    rw [R_ex]
    simp only [stepEx, hs.2, if_true, h1, h2, h3]
  · cases hs

def isTry : Stmt → Bool
  | .Try _ _ [] [] _ => true
  | _ => false
def tBody : Stmt → List Stmt
  | .Try b _ _ _ _ => b
  | _ => []
theorem ex_try (hs : isTry st = true) (h : exs (R T N) sc (tBody st) φ σ = some (.nxt, φ', σ1)) : (R T (N + 1)).ex sc st φ σ = some (.nxt, φ', σ1) := by
  unfold isTry at hs
  split at hs
  · simp only [tBody] at h
    rw [R_ex]
    simp only [stepEx, h]
  · cases hs

def isWhile : Stmt → Bool
  | .While _ _ [] _ => true
  | _ => false
theorem ex_while (hs : isWhile st = true) (h : (R T N).wh sc (sVal st) (sBody st) φ σ = some (f, φ', σ1)) : (R T (N + 1)).ex sc st φ σ = some (f, φ', σ1) := by
  unfold isWhile at hs
  split at hs
  · replace h : (R T N).wh sc _ _ φ σ = _ := h
    rw [R_ex]
    simp only [stepEx]
    exact h
  · cases hs
theorem wh_F {t : Expr} {bd : List Stmt} (h : (R T N).tr sc φ t σ = some (false, σ1)) : (R T (N + 1)).wh sc t bd φ σ = some (.nxt, φ, σ1) := by
  rw [R_wh]; simp only [stepWh, h]
theorem wh_T {t : Expr} {bd : List Stmt} (h : (R T N).tr sc φ t σ = some (true, σ1)) (h2 : exs (R T N) sc bd φ σ1 = some (.nxt, φ₁, σ2)) (h3 : (R T N).wh sc t bd φ₁ σ2 = some (f, φ', σ3)) : (R T (N + 1)).wh sc t bd φ σ = some (f, φ', σ3) := by
  rw [R_wh]; simp only [stepWh, h, h2, h3]
theorem wh_ret {t : Expr} {bd : List Stmt} (h : (R T N).tr sc φ t σ = some (true, σ1)) (h2 : exs (R T N) sc bd φ σ1 = some (.ret v, φ₁, σ2)) : (R T (N + 1)).wh sc t bd φ σ = some (.ret v, φ₁, σ2) := by
  rw [R_wh]; simp only [stepWh, h, h2]

def isRet : Stmt → Bool
  | .Return (some _) _ => true
  | _ => false
theorem ex_ret (hs : isRet st = true) (h : (R T N).ev sc φ (sVal st) σ = some (v, σ1)) : (R T (N + 1)).ex sc st φ σ = some (.ret v, φ, σ1) := by
  unfold isRet at hs
  split at hs
  · simp only [sVal] at h
    rw [R_ex]; simp only [stepEx, h]
  · cases hs

/-- x = e, a list that lives in the store -/
theorem ex_as_new {x : Str} {xs : List PyData} (hs : isAs x st = true) (hl : plainVal (sVal st) = true) (hm : (mutN.contains x && isNewForm (sVal st)) = true) (h : evNew (R T N) sc φ (sVal st) σ = some (xs, σ1)) (hst : stN sc φ x (.ref σ1.length) = some φ') :
    (R T (N + 1)).ex sc st φ σ = some (.nxt, φ', σ1 ++ [.list xs]) := by
  unfold isAs at hs
  split at hs
  · rename_i y p value p'
    have hf := Str.beq_eq hs
    subst hf
    replace hl : plainVal value = true := hl
    simp only [sVal] at h hm
    rw [R_ex]
    cases value <;> first | (exfalso; simp only [plainVal, Bool.false_eq_true] at hl; done) | simp only [stepEx, hl, h, hm, hst, if_true, Option.map_some]
  · cases hs

theorem eFor_nil {x : Str} {bd : List Stmt} : eFor r sc x bd [] φ σ = some (.nxt, φ, σ) := by unfold eFor; rfl
theorem eFor_cons {x : Str} {bd : List Stmt} {d : PyData} {ds : List PyData} (h1 : stN sc φ x (.d d) = some φ₁) (h2 : exs r sc bd φ₁ σ = some (.nxt, φ₂, σ1)) (h3 : eFor r sc x bd ds φ₂ σ1 = some (f, φ', σ2)) : eFor r sc x bd (d :: ds) φ σ = some (f, φ', σ2) := by
  unfold eFor; simp only [h1, h2, h3]
theorem eFor_ret {x : Str} {bd : List Stmt} {d : PyData} {ds : List PyData} (h1 : stN sc φ x (.d d) = some φ₁) (h2 : exs r sc bd φ₁ σ = some (.ret v, φ₂, σ1)) : eFor r sc x bd (d :: ds) φ σ = some (.ret v, φ₂, σ1) := by
  unfold eFor; simp only [h1, h2]
theorem eFor_brk {x : Str} {bd : List Stmt} {d : PyData} {ds : List PyData} (h1 : stN sc φ x (.d d) = some φ₁) (h2 : exs r sc bd φ₁ σ = some (.brk, φ₂, σ1)) : eFor r sc x bd (d :: ds) φ σ = some (.nxt, φ₂, σ1) := by
  unfold eFor; simp only [h1, h2]
theorem exs_out {l : List Stmt} (hf : f ≠ .nxt) (h : r.ex sc st φ σ = some (f, φ', σ1)) : exs r sc (st :: l) φ σ = some (f, φ', σ1) := by
  unfold exs; cases f <;> first | exact absurd rfl hf | simp only [h]
end
end Mine
end
section
open PySem PySem.W PyProof.Rows
set_option maxRecDepth 100000
set_option linter.all false
namespace Mine
/-- the sets of two nodes or more, rising -/
def subs : List (List Nat) := [[0,1],[0,2],[0,3],[0,4],[1,2],[1,3],[1,4],[2,3],[2,4],[3,4],[0,1,2],[0,1,3],[0,1,4],[0,2,3],[0,2,4],[0,3,4],[1,2,3],[1,2,4],[1,3,4],[2,3,4],[0,1,2,3],[0,1,2,4],[0,1,3,4],[0,2,3,4],[1,2,3,4],[0,1,2,3,4]]
def A3 : List (Str × PV) := [(S "graph", .ref 3), (S "_node", .ref 4), (S "_adj", .ref 5)]
def refsFrom (k : Nat) : List Nat → List (Int × PV)
  | [] => []
  | u :: r => (Int.ofNat u, .ref k) :: refsFrom (k + 2) r
def blanks : List Nat → Store
  | [] => []
  | _ :: r => .dict [] :: .dict [] :: blanks r
def σN (some : List Nat) : Store := [.attrs A3, .inst 632 0, .dict [], .dict [], .dict (refsFrom 8 some), .dict (refsFrom 7 some), .dict []] ++ blanks some
def anT : List Stmt × Scope := txtG "add_nodes_from"
def anRun (some : List Nat) : Option (PV × Store) := runF T0 30 false anT [S "self", S "nodes_for_adding", S "attr"] [.ref 1, .d (.list (natD some)), .ref 6] (σG ++ [.dict []])
theorem an_01 : anRun [0, 1] = some (.d .none, σN [0, 1]) := by kernel_rfl
theorem an_02 : anRun [0, 2] = some (.d .none, σN [0, 2]) := by kernel_rfl
theorem an_03 : anRun [0, 3] = some (.d .none, σN [0, 3]) := by kernel_rfl
theorem an_04 : anRun [0, 4] = some (.d .none, σN [0, 4]) := by kernel_rfl
theorem an_12 : anRun [1, 2] = some (.d .none, σN [1, 2]) := by kernel_rfl
theorem an_13 : anRun [1, 3] = some (.d .none, σN [1, 3]) := by kernel_rfl
theorem an_14 : anRun [1, 4] = some (.d .none, σN [1, 4]) := by kernel_rfl
theorem an_23 : anRun [2, 3] = some (.d .none, σN [2, 3]) := by kernel_rfl
theorem an_24 : anRun [2, 4] = some (.d .none, σN [2, 4]) := by kernel_rfl
theorem an_34 : anRun [3, 4] = some (.d .none, σN [3, 4]) := by kernel_rfl
theorem an_012 : anRun [0, 1, 2] = some (.d .none, σN [0, 1, 2]) := by kernel_rfl
theorem an_013 : anRun [0, 1, 3] = some (.d .none, σN [0, 1, 3]) := by kernel_rfl
theorem an_014 : anRun [0, 1, 4] = some (.d .none, σN [0, 1, 4]) := by kernel_rfl
theorem an_023 : anRun [0, 2, 3] = some (.d .none, σN [0, 2, 3]) := by kernel_rfl
theorem an_024 : anRun [0, 2, 4] = some (.d .none, σN [0, 2, 4]) := by kernel_rfl
theorem an_034 : anRun [0, 3, 4] = some (.d .none, σN [0, 3, 4]) := by kernel_rfl
theorem an_123 : anRun [1, 2, 3] = some (.d .none, σN [1, 2, 3]) := by kernel_rfl
theorem an_124 : anRun [1, 2, 4] = some (.d .none, σN [1, 2, 4]) := by kernel_rfl
theorem an_134 : anRun [1, 3, 4] = some (.d .none, σN [1, 3, 4]) := by kernel_rfl
theorem an_234 : anRun [2, 3, 4] = some (.d .none, σN [2, 3, 4]) := by kernel_rfl
theorem an_0123 : anRun [0, 1, 2, 3] = some (.d .none, σN [0, 1, 2, 3]) := by kernel_rfl
theorem an_0124 : anRun [0, 1, 2, 4] = some (.d .none, σN [0, 1, 2, 4]) := by kernel_rfl
theorem an_0134 : anRun [0, 1, 3, 4] = some (.d .none, σN [0, 1, 3, 4]) := by kernel_rfl
theorem an_0234 : anRun [0, 2, 3, 4] = some (.d .none, σN [0, 2, 3, 4]) := by kernel_rfl
theorem an_1234 : anRun [1, 2, 3, 4] = some (.d .none, σN [1, 2, 3, 4]) := by kernel_rfl
theorem an_01234 : anRun [0, 1, 2, 3, 4] = some (.d .none, σN [0, 1, 2, 3, 4]) := by kernel_rfl
theorem an_run : ∀ some ∈ subs, anRun some = .some (.d .none, σN some) := by
  intro some h
  simp only [subs, List.mem_cons, List.not_mem_nil, or_false] at h
  rcases h with rfl | rfl | rfl | rfl | rfl | rfl | rfl | rfl | rfl | rfl | rfl | rfl | rfl | rfl | rfl | rfl | rfl | rfl | rfl | rfl | rfl | rfl | rfl | rfl | rfl | rfl
  · exact an_01
  · exact an_02
  · exact an_03
  · exact an_04
  · exact an_12
  · exact an_13
  · exact an_14
  · exact an_23
  · exact an_24
  · exact an_34
  · exact an_012
  · exact an_013
  · exact an_014
  · exact an_023
  · exact an_024
  · exact an_034
  · exact an_123
  · exact an_124
  · exact an_134
  · exact an_234
  · exact an_0123
  · exact an_0124
  · exact an_0134
  · exact an_0234
  · exact an_1234
  · exact an_01234
end Mine
end
section
open PySem PySem.W PyProof.Rows
set_option maxRecDepth 100000
set_option linter.all false
namespace Mine
def kbOf (es : List (Nat × Nat)) (x : Nat) : List Nat := es.filterMap fun p => if p.1 = x then some p.2 else if p.2 = x then some p.1 else none
/-- a graph in the store -/
structure GS (some : List Nat) (es : List (Nat × Nat)) (σ : Store) : Prop where
  a : σ[0]? = .some (.attrs A3)
  i : σ[1]? = .some (.inst 632 0)
  n : σ[4]? = .some (.dict (refsFrom 8 some))
  j : σ[5]? = .some (.dict (refsFrom 7 some))
  b : ∀ k x, some[k]? = .some x → ∃ ds, σ[7 + 2 * k]? = .some (.dict ds) ∧ ds.map (·.1) = (kbOf es x).map Int.ofNat
theorem refs_at (some : List Nat) : ∀ (m k : Nat) (x : Nat), some.Nodup → some[k]? = .some x → (refsFrom m some).lookup (Int.ofNat x) = .some (.ref (m + 2 * k)) := by
  induction some with
  | nil => intro m k x _ h; simp at h
  | cons u r ih =>
    intro m k x hn h
    unfold refsFrom
    rw [List.lookup_cons]
    cases k with
    | zero =>
      simp only [List.getElem?_cons_zero, Option.some.injEq] at h
      subst h
      simp
    | succ k =>
      rw [List.getElem?_cons_succ] at h
      have hne : u ≠ x := fun e => (List.nodup_cons.mp hn).1 (e ▸ List.mem_of_getElem? h)
      have : (Int.ofNat x == Int.ofNat u) = false := by
        rw [beq_eq_false_iff_ne]; exact fun q => hne (Int.ofNat.inj q).symm
      rw [this]
      have e2 : m + 2 * (k + 1) = m + 2 + 2 * k := by omega
      rw [e2]
      exact ih (m + 2) k x (List.nodup_cons.mp hn).2 h
theorem lookup_keys {es : List (Int × PV)} {ks : List Nat} (h : es.map (·.1) = ks.map Int.ofNat) {x : Nat} (hx : x ∉ ks) : es.lookup (Int.ofNat x) = none := by
  induction es generalizing ks with
  | nil => rfl
  | cons p es ih =>
    cases ks with
    | nil => simp at h
    | cons k ks =>
      simp only [List.map_cons, List.cons.injEq] at h
      obtain ⟨i, v⟩ := p
      rw [List.lookup_cons]
      have hne : (Int.ofNat x == i) = false := by
        have h1 : i = Int.ofNat k := h.1
        rw [beq_eq_false_iff_ne, h1]
        exact fun q => hx (by rw [Int.ofNat.inj q]; exact List.mem_cons_self)
      rw [hne]
      exact ih h.2 fun hm => hx (List.mem_cons_of_mem _ hm)
theorem putD_new {es : List (Int × PV)} {i : Int} {v : PV} (h : es.lookup i = none) : putD es i v = es ++ [(i, v)] := by
  induction es with
  | nil => rfl
  | cons p es ih =>
    obtain ⟨k, u⟩ := p
    rw [List.lookup_cons] at h
    by_cases e : i = k
    · subst e; simp at h
    · have : (i == k) = false := by simpa using e
      rw [this] at h
      unfold putD
      rw [if_neg (fun q => e q.symm), ih h]; rfl

def aeT : List Stmt × Scope := txtG "add_edge"
def aeL (u v : Int) (k0 : Nat) : List (Str × PV) := [(S "self", .ref 1), (S "u_of_edge", .d (.int u)), (S "v_of_edge", .d (.int v)), (S "attr", .ref k0)]
def aeφ (u v : Int) (k0 : Nat) (ext : List (Str × PV)) : Frm := ⟨aeL u v k0 ++ ([(S "u", .d (.int u)), (S "v", .d (.int v))] ++ ext), [], []⟩
def aeS (n : Nat) : Stmt := sAt aeT.1 n
theorem ae_body : aeT.1 = [aeS 0, aeS 1, aeS 2, aeS 3, aeS 4, aeS 5, aeS 6] := by kernel_rfl
section
variable (N : Nat) (u v : Int) (k0 k : Nat) (ext : List (Str × PV)) (σ : Store)
theorem ae_0 : (R T0 (N + 5)).ex aeT.2 (aeS 0) ⟨aeL u v k0, [], []⟩ σ = some (.nxt, aeφ u v k0 [], σ) := by kernel_rfl
theorem ae_u1 : (R T0 (N + 1)).ev aeT.2 (aeφ u v k0 ext) (eArg (sVal (aeS 1)) 0) σ = some (.d (.int u), σ) := by kernel_rfl
theorem ae_u2 : (R T0 (N + 1)).ev aeT.2 (aeφ u v k0 ext) (eArg (sVal (aeS 2)) 0) σ = some (.d (.int v), σ) := by kernel_rfl
theorem ae_n1 : (R T0 (N + 1)).ev aeT.2 (aeφ u v k0 ext) (eArg (eArg (sVal (aeS 1)) 1) 0) σ = some (.ref 1, σ) := by kernel_rfl
theorem ae_n2 : (R T0 (N + 1)).ev aeT.2 (aeφ u v k0 ext) (eArg (eArg (sVal (aeS 2)) 1) 0) σ = some (.ref 1, σ) := by kernel_rfl
theorem ae_a1 : isAttr (S "_node") (eArg (sVal (aeS 1)) 1) = true ∧ isAttr (S "_node") (eArg (sVal (aeS 2)) 1) = true := by constructor <;> kernel_rfl
theorem ae_c1 : isCmp .NotIn (sVal (aeS 1)) = true ∧ isCmp .NotIn (sVal (aeS 2)) = true := by constructor <;> kernel_rfl
theorem ae_i1 : isIf (aeS 1) = true ∧ isIf (aeS 2) = true := by constructor <;> kernel_rfl
theorem ae_e1 : sElse (aeS 1) = [] ∧ sElse (aeS 2) = [] := by constructor <;> kernel_rfl
theorem ow1 : T0.ow 632 (S "_node") = true := by kernel_rfl
theorem ow2 : T0.ow 632 (S "_adj") = true := by kernel_rfl
theorem ow3 : T0.ow 632 (S "graph") = true := by kernel_rfl
theorem A3n : A3.lookup (S "_node") = some (.ref 4) := by kernel_rfl
theorem A3a : A3.lookup (S "_adj") = some (.ref 5) := by kernel_rfl
/-- statement 3 -/
def aeG : Expr := sVal (aeS 3)
theorem ae_g1 : isCallM (S "get") aeG = true := by kernel_rfl
theorem ae_g2 : isSub (cmObj aeG) = true := by kernel_rfl
theorem ae_g3 : isAttr (S "_adj") (eArg (cmObj aeG) 0) = true := by kernel_rfl
theorem ae_g4 : (R T0 (N + 1)).ev aeT.2 (aeφ u v k0 ext) (eArg (eArg (cmObj aeG) 0) 0) σ = some (.ref 1, σ) := by kernel_rfl
theorem ae_g5 : (R T0 (N + 1)).ev aeT.2 (aeφ u v k0 ext) (eArg (cmObj aeG) 1) σ = some (.d (.int u), σ) := by kernel_rfl
theorem ae_g6 : eArgs aeG = [(eArgs aeG).getD 0 xN, (eArgs aeG).getD 1 xN] := by kernel_rfl
theorem ae_g7 : (R T0 (N + 1)).ev aeT.2 (aeφ u v k0 ext) ((eArgs aeG).getD 0 xN) σ = some (.d (.int v), σ) := by kernel_rfl
theorem ae_g8 : noStar ((eArgs aeG).getD 0 xN) = true ∧ noStar ((eArgs aeG).getD 1 xN) = true := by constructor <;> kernel_rfl
theorem ae_g9 : isCallM (S "edge_attr_dict_factory") ((eArgs aeG).getD 1 xN) = true := by kernel_rfl
theorem ae_g10 : (R T0 (N + 1)).ev aeT.2 (aeφ u v k0 ext) (cmObj ((eArgs aeG).getD 1 xN)) σ = some (.ref 1, σ) := by kernel_rfl
theorem ae_g11 : eArgs ((eArgs aeG).getD 1 xN) = [] := by kernel_rfl
theorem ae_g12 : isAs (S "datadict") (aeS 3) = true ∧ plainVal (sVal (aeS 3)) = true ∧ (mutN.contains (S "datadict") && isNewForm (sVal (aeS 3))) = false := by refine ⟨?_, ?_, ?_⟩ <;> kernel_rfl
theorem ae_g13 : stN aeT.2 (aeφ u v k0 []) (S "datadict") (.ref k) = some (aeφ u v k0 [(S "datadict", .ref k)]) := by kernel_rfl
/-- statement 4 -/
def aeU : Expr := sVal (aeS 4)
theorem ae_h1 : isExC (aeS 4) = true ∧ isCallM (S "update") aeU = true := by constructor <;> kernel_rfl
theorem ae_h2 : (R T0 (N + 1)).ev aeT.2 (aeφ u v k0 [(S "datadict", .ref k)]) (cmObj aeU) σ = some (.ref k, σ) := by kernel_rfl
theorem ae_h3 : eArgs aeU = [(eArgs aeU).getD 0 xN] := by kernel_rfl
theorem ae_h4 : (R T0 (N + 1)).ev aeT.2 (aeφ u v k0 [(S "datadict", .ref k)]) ((eArgs aeU).getD 0 xN) σ = some (.ref k0, σ) := by kernel_rfl
theorem ae_h5 : noStar ((eArgs aeU).getD 0 xN) = true := by kernel_rfl
/-- statements 5, 6 -/
theorem ae_j1 : isSubAs (aeS 5) = true ∧ isSubAs (aeS 6) = true := by constructor <;> kernel_rfl
theorem ae_j2 : (R T0 (N + 1)).ev aeT.2 (aeφ u v k0 [(S "datadict", .ref k)]) (sVal (aeS 5)) σ = some (.ref k, σ) := by kernel_rfl
theorem ae_j3 : (R T0 (N + 1)).ev aeT.2 (aeφ u v k0 [(S "datadict", .ref k)]) (sVal (aeS 6)) σ = some (.ref k, σ) := by kernel_rfl
theorem ae_j4 : isSub (sO (aeS 5)) = true ∧ isSub (sO (aeS 6)) = true := by constructor <;> kernel_rfl
theorem ae_j5 : isAttr (S "_adj") (eArg (sO (aeS 5)) 0) = true ∧ isAttr (S "_adj") (eArg (sO (aeS 6)) 0) = true := by constructor <;> kernel_rfl
theorem ae_j6 : (R T0 (N + 1)).ev aeT.2 (aeφ u v k0 ext) (eArg (eArg (sO (aeS 5)) 0) 0) σ = some (.ref 1, σ) := by kernel_rfl
theorem ae_j7 : (R T0 (N + 1)).ev aeT.2 (aeφ u v k0 ext) (eArg (eArg (sO (aeS 6)) 0) 0) σ = some (.ref 1, σ) := by kernel_rfl
theorem ae_j8 : (R T0 (N + 1)).ev aeT.2 (aeφ u v k0 ext) (eArg (sO (aeS 5)) 1) σ = some (.d (.int u), σ) := by kernel_rfl
theorem ae_j9 : (R T0 (N + 1)).ev aeT.2 (aeφ u v k0 ext) (eArg (sO (aeS 6)) 1) σ = some (.d (.int v), σ) := by kernel_rfl
theorem ae_j10 : (R T0 (N + 1)).ev aeT.2 (aeφ u v k0 ext) (sI (aeS 5)) σ = some (.d (.int v), σ) := by kernel_rfl
theorem ae_j11 : (R T0 (N + 1)).ev aeT.2 (aeφ u v k0 ext) (sI (aeS 6)) σ = some (.d (.int u), σ) := by kernel_rfl
end
end Mine
end
section
open PySem PySem.W PyProof.Rows
set_option maxRecDepth 100000
set_option linter.all false
namespace Mine
section
variable {N : Nat} {u v : Int} {k0 k : Nat} {ext : List (Str × PV)} {σ : Store} {sc : Scope} {φ : Frm} {e : Expr} {T : Txt}
theorem calM_ty {σ : Store} {name : Str} (h1 : σ[1]? = some (.inst 632 0)) (h0 : σ[0]? = some (.attrs A3)) (hn : A3.lookup name = none) (ht : T.ca 632 name = some (.type "dict")) : calleeM T (.ref 1) name σ = some .ty := by
  simp only [calleeM, h1, h0, hn, ht, if_true]
theorem calM_dict {σ : Store} {k : Nat} {es : List (Int × PV)} {name : Str} {id : String} (h1 : σ[k]? = some (.dict es)) (hb : biOf (.dict es) name = some id) : calleeM T (.ref k) name σ = some (.bi id) := by
  simp only [calleeM, h1, hb, Option.map_some]
theorem sItem_dict {σ : Store} {k : Nat} {es : List (Int × PV)} {i : Int} {pv : PV} (h1 : σ[k]? = some (.dict es)) (h : es.lookup i = some pv) : sItem (.ref k) (.d (.int i)) σ = some pv := by
  simp only [sItem, h1, h]
theorem sCmp_ni_dict {σ : Store} {k : Nat} {es : List (Int × PV)} {i : Int} (h1 : σ[k]? = some (.dict es)) : sCmp .NotIn (.d (.int i)) (.ref k) σ = some (!(es.lookup i).isSome) := by
  simp only [sCmp, h1]
theorem setAt_dict {σ : Store} {k : Nat} {es : List (Int × PV)} {i : Int} {pv : PV} (h1 : σ[k]? = some (.dict es)) (hl : es.length < 1000000) : setAt (.ref k) i pv σ = some (σ.set k (.dict (putD es i pv))) := by
  simp only [setAt, h1, hl, if_true]
theorem get_dict {σ : Store} {k : Nat} {es : List (Int × PV)} {i : Int} {pv : PV} (h1 : σ[k]? = some (.dict es)) (h : es.lookup i = none) : pBi "dict.get" (.ref k) [.d (.int i), pv] σ = some (pv, σ) := by
  simp [pBi, h1, h]
theorem upd_dict {σ : Store} {k j : Nat} {es : List (Int × PV)} (h1 : σ[k]? = some (.dict es)) (h2 : σ[j]? = some (.dict [])) (hn : j ≠ k) (hl : es.length < 1000000) : pBi "dict.update" (.ref k) [.ref j] σ = some (.d .none, σ) := by
  simp [pBi, h1, h2, hn, hl]
end
theorem bi_get (es : List (Int × PV)) : biOf (.dict es) (S "get") = some "dict.get" := by kernel_rfl
theorem bi_update (es : List (Int × PV)) : biOf (.dict es) (S "update") = some "dict.update" := by kernel_rfl
theorem ca_edge : T0.ca 632 (S "edge_attr_dict_factory") = some (.type "dict") := by kernel_rfl
theorem A3e : A3.lookup (S "edge_attr_dict_factory") = none := by kernel_rfl
theorem ty_dict (σ : Store) : pTyp "dict" [] σ = some (.ref σ.length, σ ++ [.dict []]) := by kernel_rfl

theorem ae_run {σ : Store} {u v : Int} {k0 au av : Nat} {en ea eu ev : List (Int × PV)} (ha : σ[0]? = some (.attrs A3)) (hi : σ[1]? = some (.inst 632 0)) (hn : σ[4]? = some (.dict en)) (hj : σ[5]? = some (.dict ea)) (hk0 : σ[k0]? = some (.dict []))
    (hun : (en.lookup u).isSome = true) (hvn : (en.lookup v).isSome = true) (hua : ea.lookup u = some (.ref au)) (hva : ea.lookup v = some (.ref av)) (hu : σ[au]? = some (.dict eu)) (hv : σ[av]? = some (.dict ev)) (hne : au ≠ av)
    (h6u : au ≠ 0 ∧ au ≠ 1 ∧ au ≠ 4 ∧ au ≠ 5) (huv : eu.lookup v = none) (hlu : eu.length < 1000000) (hlv : ev.length < 1000000) :
    ∃ φ', exs (R T0 30) aeT.2 aeT.1 ⟨aeL u v k0, [], []⟩ σ = some (.nxt, φ', ((σ ++ [PO.dict []]).set au (PO.dict (putD eu v (.ref σ.length)))).set av (PO.dict (putD ev u (.ref σ.length)))) := by
  have lt : ∀ {k : Nat} {po : PO}, σ[k]? = some po → k < σ.length := fun h => (List.getElem?_eq_some_iff.mp h).1
  have up : ∀ {k : Nat} {po : PO}, σ[k]? = some po → (σ ++ [PO.dict []])[k]? = some po := fun h => by rw [List.getElem?_append_left (lt h)]; exact h
  have new : (σ ++ [PO.dict []])[σ.length]? = some (.dict []) := by rw [List.getElem?_append_right (Nat.le_refl _)]; simp
  have st1 : (R T0 30).ex aeT.2 (aeS 1) (aeφ u v k0 []) σ = some (.nxt, aeφ u v k0 [], σ) := by
    refine ex_ifF ae_i1.1 (σ1 := σ) (tr_cmp ae_c1.1 (ae_u1 27 u v k0 [] σ) (ev_attr ae_a1.1 (ae_n1 26 u v k0 [] σ) hi ow1 ha A3n) ?_) ?_
    · rw [sCmp_ni_dict hn, hun]; rfl
    · rw [ae_e1.1]; exact exs_nil
  have st2 : (R T0 30).ex aeT.2 (aeS 2) (aeφ u v k0 []) σ = some (.nxt, aeφ u v k0 [], σ) := by
    refine ex_ifF ae_i1.2 (σ1 := σ) (tr_cmp ae_c1.2 (ae_u2 27 u v k0 [] σ) (ev_attr ae_a1.2 (ae_n2 26 u v k0 [] σ) hi ow1 ha A3n) ?_) ?_
    · rw [sCmp_ni_dict hn, hvn]; rfl
    · rw [ae_e1.2]; exact exs_nil
  have st3 : (R T0 30).ex aeT.2 (aeS 3) (aeφ u v k0 []) σ = some (.nxt, aeφ u v k0 [(S "datadict", .ref σ.length)], σ ++ [.dict []]) := by
    have g1 : (R T0 28).ev aeT.2 (aeφ u v k0 []) ((eArgs aeG).getD 1 xN) σ = some (.ref σ.length, σ ++ [.dict []]) :=
      ev_callM ae_g9 (σ1 := σ) (c := .ty) (vs := []) (σ2 := σ) (ae_g10 26 u v k0 [] σ) (calM_ty hi ha A3e ca_edge) (by rw [ae_g11]; exact evs_nil) (ty_dict σ)
    have g2 : evs (R T0 28) aeT.2 (aeφ u v k0 []) (eArgs aeG) σ = some ([.d (.int v), .ref σ.length], σ ++ [.dict []]) := by
      rw [ae_g6]
      exact evs_cons ae_g8.1 (ae_g7 27 u v k0 [] σ) (evs_cons ae_g8.2 g1 evs_nil)
    have g3 : (R T0 29).ev aeT.2 (aeφ u v k0 []) aeG σ = some (.ref σ.length, σ ++ [.dict []]) :=
      ev_callM ae_g1 (σ1 := σ) (ov := .ref au) (c := .bi "dict.get") (ev_sub ae_g2 (ev_attr ae_g3 (ae_g4 25 u v k0 [] σ) hi ow2 ha A3a) (ae_g5 26 u v k0 [] σ) (sItem_dict hj hua)) (calM_dict hu (bi_get _)) g2 (get_dict (up hu) huv)
    exact ex_as ae_g12.1 ae_g12.2.1 ae_g12.2.2 g3 (ae_g13 u v k0 σ.length)
  have st4 : (R T0 30).ex aeT.2 (aeS 4) (aeφ u v k0 [(S "datadict", .ref σ.length)]) (σ ++ [.dict []]) = some (.nxt, aeφ u v k0 [(S "datadict", .ref σ.length)], σ ++ [.dict []]) := by
    have g1 : evs (R T0 28) aeT.2 (aeφ u v k0 [(S "datadict", .ref σ.length)]) (eArgs aeU) (σ ++ [.dict []]) = some ([.ref k0], σ ++ [.dict []]) := by
      rw [ae_h3]
      exact evs_cons ae_h5 (ae_h4 27 u v k0 σ.length (σ ++ [.dict []])) evs_nil
    have g2 : (R T0 29).ev aeT.2 (aeφ u v k0 [(S "datadict", .ref σ.length)]) aeU (σ ++ [.dict []]) = some (.d .none, σ ++ [.dict []]) :=
      ev_callM ae_h1.2 (c := .bi "dict.update") (ae_h2 27 u v k0 σ.length (σ ++ [.dict []])) (calM_dict new (bi_update _)) g1 (upd_dict new (up hk0) (fun e => by have := lt hk0; omega) (by simp))
    exact ex_expr ae_h1.1 g2
  have st5 : (R T0 30).ex aeT.2 (aeS 5) (aeφ u v k0 [(S "datadict", .ref σ.length)]) (σ ++ [.dict []]) = some (.nxt, aeφ u v k0 [(S "datadict", .ref σ.length)], (σ ++ [PO.dict []]).set au (PO.dict (putD eu v (.ref σ.length)))) :=
    ex_sub ae_j1.1 (ae_j2 28 u v k0 σ.length _) (ev_sub ae_j4.1 (ev_attr ae_j5.1 (ae_j6 26 u v k0 _ _) (up hi) ow2 (up ha) A3a) (ae_j8 27 u v k0 _ _) (sItem_dict (up hj) hua)) (ae_j10 28 u v k0 _ _) (setAt_dict (up hu) hlu)
  have up2 : ∀ {k : Nat} {po : PO}, k ≠ au → σ[k]? = some po → ((σ ++ [PO.dict []]).set au (PO.dict (putD eu v (.ref σ.length))))[k]? = some po := fun h1 h => by rw [List.getElem?_set_ne (fun q => h1 q.symm)]; exact up h
  have st6 : (R T0 30).ex aeT.2 (aeS 6) (aeφ u v k0 [(S "datadict", .ref σ.length)]) ((σ ++ [PO.dict []]).set au (PO.dict (putD eu v (.ref σ.length)))) = some (.nxt, aeφ u v k0 [(S "datadict", .ref σ.length)], ((σ ++ [PO.dict []]).set au (PO.dict (putD eu v (.ref σ.length)))).set av (PO.dict (putD ev u (.ref σ.length)))) :=
    ex_sub ae_j1.2 (ae_j3 28 u v k0 σ.length _) (ev_sub ae_j4.2 (ev_attr ae_j5.2 (ae_j7 26 u v k0 _ _) (up2 (Ne.symm h6u.2.1) hi) ow2 (up2 (Ne.symm h6u.1) ha) A3a) (ae_j9 27 u v k0 _ _) (sItem_dict (up2 (Ne.symm h6u.2.2.2) hj) hva)) (ae_j11 28 u v k0 _ _) (setAt_dict (up2 (Ne.symm hne) hv) hlv)
  rw [ae_body]
  exact ⟨_, exs_cons (ae_0 25 u v k0 σ) (exs_cons st1 (exs_cons st2 (exs_cons st3 (exs_cons st4 (exs_cons st5 (exs_cons st6 exs_nil))))))⟩
end Mine
end
section
open PySem PySem.W PyProof.Rows
set_option maxRecDepth 100000
set_option linter.all false
namespace Mine
def aeN : List Str := [S "self", S "u_of_edge", S "v_of_edge"]
def anN : List Str := [S "self", S "nodes_for_adding"]
/-- a method with **attr -/
def kwO (p : List Stmt × Scope) (names : List Str) (vs : List PV) (σ : Store) : Option (PV × Store) := runF T0 30 false p (names ++ [S "attr"]) (vs ++ [.ref σ.length]) (σ ++ [.dict []])
theorem kb_app (es : List (Nat × Nat)) (u v x : Nat) : kbOf (es ++ [(u, v)]) x = kbOf es x ++ (if u = x then [v] else if v = x then [u] else []) := by
  unfold kbOf
  rw [List.filterMap_append]
  congr 1
  by_cases h1 : u = x
  · simp [h1]
  · by_cases h2 : v = x
    · simp [h1, h2]
    · simp [h1, h2]
theorem kb_len (es : List (Nat × Nat)) (x : Nat) : (kbOf es x).length ≤ es.length := by unfold kbOf; exact List.length_filterMap_le _ _
theorem idx_of {nds : List Nat} {x : Nat} (h : x ∈ nds) : ∃ k : Nat, nds[k]? = some x := List.getElem?_of_mem h
theorem nd_idx {nds : List Nat} (hn : nds.Nodup) {k j x : Nat} (h1 : nds[k]? = some x) (h2 : nds[j]? = some x) : k = j := nodup_at hn h1 h2

theorem ae_gs {nds : List Nat} {es : List (Nat × Nat)} {σ : Store} {u v : Nat} (G : GS nds es σ) (hn : nds.Nodup) (hu : u ∈ nds) (hv : v ∈ nds) (hne : u ≠ v) (hf : v ∉ kbOf es u) (hl : es.length < 1000) :
    ∃ σ', kwO aeT aeN [.ref 1, .d (.int (Int.ofNat u)), .d (.int (Int.ofNat v))] σ = some (.d .none, σ') ∧ GS nds (es ++ [(u, v)]) σ' := by
  obtain ⟨ku, hku⟩ := idx_of hu
  obtain ⟨kv, hkv⟩ := idx_of hv
  have hkk : ku ≠ kv := fun e => by rw [e, hkv] at hku; exact hne (Option.some.inj hku).symm
  obtain ⟨du, e1, e2⟩ := G.b ku u hku
  obtain ⟨dv, e3, e4⟩ := G.b kv v hkv
  have lt : ∀ {k : Nat} {po : PO}, σ[k]? = some po → k < σ.length := fun h => (List.getElem?_eq_some_iff.mp h).1
  have up : ∀ {k : Nat} {po : PO}, σ[k]? = some po → (σ ++ [PO.dict []])[k]? = some po := fun h => by rw [List.getElem?_append_left (lt h)]; exact h
  have up2 : ∀ {k : Nat} {po : PO}, σ[k]? = some po → ((σ ++ [PO.dict []]) ++ [PO.dict []])[k]? = some po := fun h => by rw [List.getElem?_append_left (by have := lt h; simp; omega)]; exact up h
  have new : (σ ++ [PO.dict []])[σ.length]? = some (.dict []) := by rw [List.getElem?_append_right (Nat.le_refl _)]; simp
  have len1 : du.length ≤ es.length := by have := congrArg List.length e2; simp at this; rw [this]; exact kb_len es u
  have len2 : dv.length ≤ es.length := by have := congrArg List.length e4; simp at this; rw [this]; exact kb_len es v
  have hduv := lookup_keys e2 hf
  have hfv : u ∉ kbOf es v := fun hm => hf (by
    unfold kbOf at hm ⊢
    obtain ⟨p, hp, hq⟩ := List.mem_filterMap.mp hm
    refine List.mem_filterMap.mpr ⟨p, hp, ?_⟩
    by_cases h1 : p.1 = v
    · rw [if_pos h1] at hq
      cases hq
      rw [if_neg (fun e => hne (e.symm.trans h1)), if_pos rfl, h1]
    · rw [if_neg h1] at hq
      by_cases h2 : p.2 = v
      · rw [if_pos h2] at hq
        cases hq
        rw [if_pos rfl, h2]
      · rw [if_neg h2] at hq; cases hq)
  have hdvu := lookup_keys e4 hfv
  obtain ⟨φ', hr⟩ := ae_run (σ := σ ++ [.dict []]) (u := Int.ofNat u) (v := Int.ofNat v) (k0 := σ.length) (au := 7 + 2 * ku) (av := 7 + 2 * kv) (up G.a) (up G.i) (up G.n) (up G.j) new (by rw [refs_at nds 8 ku u hn hku]; rfl) (by rw [refs_at nds 8 kv v hn hkv]; rfl)
    (refs_at nds 7 ku u hn hku) (refs_at nds 7 kv v hn hkv) (up e1) (up e3) (by omega) ⟨by omega, by omega, by omega, by omega⟩ hduv (by omega) (by omega)
  refine ⟨(((σ ++ [PO.dict []]) ++ [PO.dict []]).set (7 + 2 * ku) (PO.dict (putD du (Int.ofNat v) (.ref (σ ++ [PO.dict []]).length)))).set (7 + 2 * kv) (PO.dict (putD dv (Int.ofNat u) (.ref (σ ++ [PO.dict []]).length))), ?_, ?_⟩
  · unfold kwO runF
    rw [if_pos (by rfl)]
    show (match exs (R T0 30) aeT.2 aeT.1 ⟨aeL (Int.ofNat u) (Int.ofNat v) σ.length, [], []⟩ (σ ++ [.dict []]) with | some (f, _, σ') => _ | none => none) = _
    rw [hr]
    rfl
  · rw [putD_new hduv, putD_new hdvu]
    have low : ∀ {k : Nat} {po : PO}, k < 7 → σ[k]? = some po → ((((σ ++ [PO.dict []]) ++ [PO.dict []]).set (7 + 2 * ku) (PO.dict (du ++ [(Int.ofNat v, .ref (σ ++ [PO.dict []]).length)]))).set (7 + 2 * kv) (PO.dict (dv ++ [(Int.ofNat u, .ref (σ ++ [PO.dict []]).length)])))[k]? = some po := fun hk h => by
      rw [List.getElem?_set_ne (by omega), List.getElem?_set_ne (by omega)]; exact up2 h
    refine ⟨low (by omega) G.a, low (by omega) G.i, low (by omega) G.n, low (by omega) G.j, fun k x hk => ?_⟩
    rw [kb_app]
    by_cases hx : x = v
    · subst hx
      have := nd_idx hn hk hkv
      subst this
      refine ⟨dv ++ [(Int.ofNat u, .ref (σ ++ [PO.dict []]).length)], ?_, ?_⟩
      · rw [List.getElem?_set_self]
        have := lt e3
        simp; omega
      · rw [if_neg hne, if_pos rfl, List.map_append, e4, List.map_append]; rfl
    · by_cases hx2 : x = u
      · subst hx2
        have := nd_idx hn hk hku
        subst this
        refine ⟨du ++ [(Int.ofNat v, .ref (σ ++ [PO.dict []]).length)], ?_, ?_⟩
        · rw [List.getElem?_set_ne (by omega), List.getElem?_set_self]
          have := lt e1
          simp; omega
        · rw [if_pos rfl, List.map_append, e2, List.map_append]; rfl
      · obtain ⟨ds, q1, q2⟩ := G.b k x hk
        have n1 : k ≠ ku := fun e => by rw [e, hku] at hk; exact hx2 (Option.some.inj hk).symm
        have n2 : k ≠ kv := fun e => by rw [e, hkv] at hk; exact hx (Option.some.inj hk).symm
        refine ⟨ds, ?_, ?_⟩
        · rw [List.getElem?_set_ne (by omega), List.getElem?_set_ne (by omega)]; exact up2 q1
        · rw [if_neg (fun e => hx2 e.symm), if_neg (fun e => hx e.symm), List.append_nil]; exact q2
end Mine
end
section
open PySem PySem.W PyProof.Rows
set_option maxRecDepth 100000
set_option linter.all false
namespace Mine
/-! _plain_bfs in plain Lean -/
def insN (x : Nat) : List Nat → List Nat
  | [] => [x]
  | y :: r => if x < y then x :: y :: r else if x = y then y :: r else y :: insN x r
def bfsIn : List Nat → List Nat → List Nat → List Nat × List Nat
  | [], xs, ys => (xs, ys)
  | w :: ws, xs, ys => if xs.contains w then bfsIn ws xs ys else bfsIn ws (insN w xs) (ys ++ [w])
def bfsLev (nds : List Nat) (es : List (Nat × Nat)) (n : Nat) : List Nat → List Nat → List Nat → List Nat → Option (Bool × List Nat × List Nat × List Nat)
  | [], xs, ys, vis => some (false, xs, ys, vis)
  | v :: vs, xs, ys, vis => if vis.contains v || !nds.contains v then none else
      match bfsIn (kbOf es v) xs ys with
      | (xs', ys') => if xs'.length = n then some (true, xs', ys', v :: vis) else bfsLev nds es n vs xs' ys' (v :: vis)
def bfsF (nds : List Nat) (es : List (Nat × Nat)) (n : Nat) : Nat → List Nat → List Nat → List Nat → Option (List Nat × List Nat)
  | 0, _, _, _ => none
  | f + 1, ts, xs, vis => match ts with
    | [] => some (xs, vis)
    | t :: ts => if 100 < (t :: ts).length then none else match bfsLev nds es n (t :: ts) xs [] vis with
      | none => none
      | some (true, xs, _, vis) => some (xs, vis)
      | some (false, xs, ys, vis) => bfsF nds es n f ys xs vis

def intsN (xs : List Nat) : List Int := xs.map Int.ofNat
theorem addS_intsN (w : Nat) (xs : List Nat) : addS (Int.ofNat w) (intsN xs) = intsN (insN w xs) := by
  induction xs with
  | nil => rfl
  | cons y r ih =>
    show addS (Int.ofNat w) (Int.ofNat y :: intsN r) = intsN (insN w (y :: r))
    unfold addS insN
    by_cases h1 : w < y
    · rw [if_pos h1, if_pos (show Int.ofNat w < Int.ofNat y from Int.ofNat_lt.mpr h1)]; rfl
    · rw [if_neg h1, if_neg (show ¬ Int.ofNat w < Int.ofNat y from fun h => h1 (Int.ofNat_lt.mp h))]
      by_cases h2 : w = y
      · rw [if_pos h2, if_pos (congrArg Int.ofNat h2)]; rfl
      · rw [if_neg h2, if_neg (fun h => h2 (Int.ofNat.inj h)), ih]; rfl
theorem contains_intsN (w : Nat) (xs : List Nat) : (intsN xs).contains (Int.ofNat w) = xs.contains w := by
  induction xs with
  | nil => rfl
  | cons y r ih =>
    show (Int.ofNat y :: intsN r).contains (Int.ofNat w) = _
    rw [List.contains_cons, List.contains_cons, ih]
    congr 1
    by_cases h : w = y
    · subst h; simp
    · have : ¬ Int.ofNat w = Int.ofNat y := fun q => h (Int.ofNat.inj q)
      rw [beq_eq_false_iff_ne.mpr h, beq_eq_false_iff_ne.mpr this]
theorem set_same {α : Type} {l : List α} {k : Nat} {a : α} (h : l[k]? = some a) : l.set k a = l := by
  apply List.ext_getElem?
  intro i
  by_cases e : i = k
  · subst e; rw [List.getElem?_set_self (List.getElem?_eq_some_iff.mp h).1, h]
  · rw [List.getElem?_set_ne (Ne.symm e)]
theorem set2 {α : Type} (l : List α) {k j : Nat} (h : k ≠ j) (a b c d : α) : (((l.set k a).set j b).set k c).set j d = (l.set k c).set j d := by
  apply List.ext_getElem?
  intro i
  by_cases e1 : i = j
  · subst e1
    by_cases hl : i < l.length
    · rw [List.getElem?_set_self (by simpa using hl), List.getElem?_set_self (by simpa using hl)]
    · rw [List.getElem?_eq_none (by simp; omega), List.getElem?_eq_none (by simp; omega)]
  · rw [List.getElem?_set_ne (Ne.symm e1), List.getElem?_set_ne (Ne.symm e1)]
    by_cases e2 : i = k
    · subst e2
      by_cases hl : i < l.length
      · rw [List.getElem?_set_self (by simpa using hl), List.getElem?_set_self (by simpa using hl)]
      · rw [List.getElem?_eq_none (by simp; omega), List.getElem?_eq_none (by simp; omega)]
    · rw [List.getElem?_set_ne (Ne.symm e2), List.getElem?_set_ne (Ne.symm e1), List.getElem?_set_ne (Ne.symm e2), List.getElem?_set_ne (Ne.symm e2)]

/-! the walk -/
def bT : List Stmt × Scope := txtOf "_plain_bfs"
def bS (n : Nat) : Stmt := sAt bT.1 n
def bW (n : Nat) : Stmt := sAt (sBody (bS 3)) n
def bF0 : Stmt := sAt (sBody (bW 2)) 0
def bF1 : Stmt := sAt (sBody (bW 2)) 1
def bI : Stmt := sAt (sBody bF0) 0
def bφ (n s : Int) (ks kn : Nat) (ext : List (Str × PV)) : Frm := ⟨[(S "G", .ref 1), (S "n", .d (.int n)), (S "source", .d (.int s)), (S "adj", .ref 5), (S "seen", .ref ks), (S "nextlevel", .ref kn)] ++ ext, [], []⟩
theorem b_body : bT.1 = [bS 0, bS 1, bS 2, bS 3, bS 4] ∧ sBody (bS 3) = [bW 0, bW 1, bW 2] ∧ sBody (bW 2) = [bF0, bF1] ∧ sBody bF0 = [bI] ∧ sBody bI = [sAt (sBody bI) 0, sAt (sBody bI) 1] ∧ sElse bI = [] ∧ sBody bF1 = [sAt (sBody bF1) 0] ∧ sElse bF1 = [] := by
  refine ⟨?_, ?_, ?_, ?_, ?_, ?_, ?_, ?_⟩ <;> kernel_rfl
section
variable (N : Nat) (n s : Int) (ks kn kt : Nat) (ext : List (Str × PV)) (q q' : PV) (v w : Int) (d : PyData) (σ : Store)
def b3 (q : PV) (v : Int) (ext : List (Str × PV)) : List (Str × PV) := (S "thislevel", q) :: (S "v", .d (.int v)) :: ext
theorem b_w0 : stN bT.2 (bφ n s ks kn (b3 q v [])) (S "w") (.d (.int w)) = some (bφ n s ks kn (b3 q v [(S "w", .d (.int w))])) := by kernel_rfl
theorem b_w1 : stN bT.2 (bφ n s ks kn (b3 q v [(S "w", q')])) (S "w") (.d (.int w)) = some (bφ n s ks kn (b3 q v [(S "w", .d (.int w))])) := by kernel_rfl
theorem b_v0 : stN bT.2 (bφ n s ks kn [(S "thislevel", q)]) (S "v") (.d (.int v)) = some (bφ n s ks kn (b3 q v [])) := by kernel_rfl
theorem b_v1 : stN bT.2 (bφ n s ks kn ((S "thislevel", q) :: (S "v", q') :: ext)) (S "v") (.d (.int v)) = some (bφ n s ks kn (b3 q v ext)) := by kernel_rfl
theorem b_i1 : isIf bI = true ∧ isCmp .NotIn (sVal bI) = true ∧ isExC (sAt (sBody bI) 0) = true ∧ isExC (sAt (sBody bI) 1) = true ∧ isCallM (S "add") (sVal (sAt (sBody bI) 0)) = true ∧ isCallM (S "append") (sVal (sAt (sBody bI) 1)) = true := by
  refine ⟨?_, ?_, ?_, ?_, ?_, ?_⟩ <;> kernel_rfl
theorem b_i2 : (R T0 (N + 1)).ev bT.2 (bφ n s ks kn (b3 q v [(S "w", .d (.int w))])) (eArg (sVal bI) 0) σ = some (.d (.int w), σ) := by kernel_rfl
theorem b_i3 : (R T0 (N + 1)).ev bT.2 (bφ n s ks kn (b3 q v [(S "w", .d (.int w))])) (eArg (sVal bI) 1) σ = some (.ref ks, σ) := by kernel_rfl
theorem b_i4 : (R T0 (N + 1)).ev bT.2 (bφ n s ks kn (b3 q v [(S "w", .d (.int w))])) (cmObj (sVal (sAt (sBody bI) 0))) σ = some (.ref ks, σ) := by kernel_rfl
theorem b_i5 : (R T0 (N + 1)).ev bT.2 (bφ n s ks kn (b3 q v [(S "w", .d (.int w))])) (cmObj (sVal (sAt (sBody bI) 1))) σ = some (.ref kn, σ) := by kernel_rfl
theorem b_i6 : evs (R T0 (N + 1)) bT.2 (bφ n s ks kn (b3 q v [(S "w", .d (.int w))])) (eArgs (sVal (sAt (sBody bI) 0))) σ = some ([.d (.int w)], σ) := by kernel_rfl
theorem b_i7 : evs (R T0 (N + 1)) bT.2 (bφ n s ks kn (b3 q v [(S "w", .d (.int w))])) (eArgs (sVal (sAt (sBody bI) 1))) σ = some ([.d (.int w)], σ) := by kernel_rfl
theorem b_f0 : isFor (S "w") bF0 = true ∧ isSub (sVal bF0) = true ∧ isFor (S "v") (bW 2) = true := by refine ⟨?_, ?_, ?_⟩ <;> kernel_rfl
theorem b_f1 : (R T0 (N + 1)).ev bT.2 (bφ n s ks kn (b3 q v ext)) (eArg (sVal bF0) 0) σ = some (.ref 5, σ) := by kernel_rfl
theorem b_f2 : (R T0 (N + 1)).ev bT.2 (bφ n s ks kn (b3 q v ext)) (eArg (sVal bF0) 1) σ = some (.d (.int v), σ) := by kernel_rfl
theorem b_g0 : isIf bF1 = true ∧ isCmp .Eq (sVal bF1) = true ∧ isCallN (S "len") (eArg (sVal bF1) 0) = true ∧ isRet (sAt (sBody bF1) 0) = true := by refine ⟨?_, ?_, ?_, ?_⟩ <;> kernel_rfl
theorem b_g1 : evs (R T0 (N + 1)) bT.2 (bφ n s ks kn (b3 q v ext)) (eArgs (eArg (sVal bF1) 0)) σ = some ([.ref ks], σ) := by kernel_rfl
theorem b_g2 : (R T0 (N + 1)).ev bT.2 (bφ n s ks kn (b3 q v ext)) (eArg (sVal bF1) 1) σ = some (.d (.int n), σ) := by kernel_rfl
theorem b_g3 : (R T0 (N + 1)).ev bT.2 (bφ n s ks kn (b3 q v ext)) (sVal (sAt (sBody bF1) 0)) σ = some (.ref ks, σ) := by kernel_rfl
theorem b_h0 : isWhile (bS 3) = true ∧ isAs (S "thislevel") (bW 0) = true ∧ plainVal (sVal (bW 0)) = true ∧ (mutN.contains (S "thislevel") && isNewForm (sVal (bW 0))) = false ∧ isAs (S "nextlevel") (bW 1) = true ∧ plainVal (sVal (bW 1)) = true ∧
    (mutN.contains (S "nextlevel") && isNewForm (sVal (bW 1))) = true := by refine ⟨?_, ?_, ?_, ?_, ?_, ?_, ?_⟩ <;> kernel_rfl
theorem b_h1 : (R T0 (N + 1)).ev bT.2 (bφ n s ks kn ext) (sVal (bW 0)) σ = some (.ref kn, σ) := by kernel_rfl
theorem b_h2 : stN bT.2 (bφ n s ks kn []) (S "thislevel") q = some (bφ n s ks kn [(S "thislevel", q)]) := by kernel_rfl
theorem b_h3 : stN bT.2 (bφ n s ks kn ((S "thislevel", q') :: ext)) (S "thislevel") q = some (bφ n s ks kn ((S "thislevel", q) :: ext)) := by kernel_rfl
theorem b_h4 : evNew (R T0 (N + 1)) bT.2 (bφ n s ks kn ext) (sVal (bW 1)) σ = some ([], σ) := by kernel_rfl
theorem b_h5 : stN bT.2 (bφ n s ks kn ext) (S "nextlevel") (.ref kt) = some (bφ n s ks kt ext) := by kernel_rfl
theorem b_h6 : (R T0 (N + 1)).ev bT.2 (bφ n s ks kn ((S "thislevel", q) :: ext)) (sVal (bW 2)) σ = some (q, σ) := by kernel_rfl
theorem b_t : (R T0 (N + 2)).tr bT.2 (bφ n s ks kn ext) (sVal (bS 3)) σ = (sTruthy (.ref kn) σ).map fun b => (b, σ) := by kernel_rfl
theorem b_r : (R T0 (N + 2)).ex bT.2 (bS 4) (bφ n s ks kn ext) σ = some (.ret (.ref ks), bφ n s ks kn ext, σ) := by kernel_rfl
theorem b_len : evCallN T0 bT.2 (S "len") [.ref ks] σ = (pFun "len" [.ref ks] σ).map fun v => (v, σ) := by kernel_rfl
end
theorem bi_add (xs : List Int) : biOf (.set xs) (S "add") = some "set.add" := by kernel_rfl
theorem bi_append (xs : List PyData) : biOf (.list xs) (S "append") = some "list.append" := by kernel_rfl
end Mine
end
section
open PySem PySem.W PyProof.Rows
set_option maxRecDepth 100000
set_option linter.all false
namespace Mine
section
variable {T : Txt} {σ : Store}
theorem sCmp_ni_set {k : Nat} {xs : List Int} {i : Int} (h1 : σ[k]? = some (.set xs)) (h : 0 ≤ i ∧ i < 5) : sCmp .NotIn (.d (.int i)) (.ref k) σ = some (!xs.contains i) := by
  simp only [sCmp, h1, h, if_true, and_self]
theorem sCmp_ni_bag {k : Nat} {xs : List Int} {i : Int} (h1 : σ[k]? = some (.bag xs)) (h : 0 ≤ i ∧ i < 5) : sCmp .NotIn (.d (.int i)) (.ref k) σ = some (!xs.contains i) := by
  simp only [sCmp, h1, h, if_true, and_self]
theorem calM_set {k : Nat} {xs : List Int} {name : Str} {id : String} (h1 : σ[k]? = some (.set xs)) (hb : biOf (.set xs) name = some id) : calleeM T (.ref k) name σ = some (.bi id) := by
  simp only [calleeM, h1, hb, Option.map_some]
theorem calM_list {k : Nat} {xs : List PyData} {name : Str} {id : String} (h1 : σ[k]? = some (.list xs)) (hb : biOf (.list xs) name = some id) : calleeM T (.ref k) name σ = some (.bi id) := by
  simp only [calleeM, h1, hb, Option.map_some]
theorem run_add {k : Nat} {xs : List Int} {i : Int} (h1 : σ[k]? = some (.set xs)) (h : 0 ≤ i ∧ i < 5) : pBi "set.add" (.ref k) [.d (.int i)] σ = some (.d .none, σ.set k (.set (addS i xs))) := by
  simp [pBi, h1, small5, h]
theorem run_append {k : Nat} {xs : List PyData} {x : PyData} (h1 : σ[k]? = some (.list xs)) (h : xs.length < 1000000) : pBi "list.append" (.ref k) [.d x] σ = some (.d .none, σ.set k (.list (xs ++ [x]))) := by
  simp [pBi, h1, h]
end

theorem bfsIn_T {w : Nat} {ws xs ys : List Nat} (h : xs.contains w = true) : bfsIn (w :: ws) xs ys = bfsIn ws xs ys := by
  rw [bfsIn, if_pos h]
theorem bfsIn_F {w : Nat} {ws xs ys : List Nat} (h : xs.contains w = false) : bfsIn (w :: ws) xs ys = bfsIn ws (insN w xs) (ys ++ [w]) := by
  rw [bfsIn, if_neg (by rw [h]; exact Bool.false_ne_true)]
theorem b_in (N : Nat) (n s : Int) (ks kn : Nat) (q : PV) (v : Int) (hk : ks ≠ kn) : ∀ (ws : List Nat) (ext : List (Str × PV)) (xs ys : List Nat) (σ : Store), (ext = [] ∨ ∃ q', ext = [(S "w", q')]) → (∀ w ∈ ws, w < 5) → σ[ks]? = some (.set (intsN xs)) → σ[kn]? = some (.list (natD ys)) →
    ys.length + ws.length < 1000000 → ∃ ext', (ext' = [] ∨ ∃ q', ext' = [(S "w", q')]) ∧ eFor (R T0 (N + 6)) bT.2 (S "w") (sBody bF0) (natD ws) (bφ n s ks kn (b3 q v ext)) σ =
      some (.nxt, bφ n s ks kn (b3 q v ext'), (σ.set ks (PO.set (intsN (bfsIn ws xs ys).1))).set kn (PO.list (natD (bfsIn ws xs ys).2)))
  | [], ext, xs, ys, σ, he, _, h1, h2, _ => by
    refine ⟨ext, he, ?_⟩
    show eFor _ _ _ _ [] _ _ = _
    rw [eFor_nil]
    unfold bfsIn
    rw [set_same h1, set_same h2]
  | w :: ws, ext, xs, ys, σ, he, hw, h1, h2, hl => by
    have hst : stN bT.2 (bφ n s ks kn (b3 q v ext)) (S "w") (.d (.int (Int.ofNat w))) = some (bφ n s ks kn (b3 q v [(S "w", .d (.int (Int.ofNat w)))])) := by
      rcases he with rfl | ⟨q', rfl⟩
      · exact b_w0 n s ks kn q v _
      · exact b_w1 n s ks kn q q' v _
    have hw5 : (0 : Int) ≤ Int.ofNat w ∧ Int.ofNat w < 5 := ⟨Int.natCast_nonneg w, by have := hw w List.mem_cons_self; show (w : Int) < 5; omega⟩
    obtain ⟨i1, i2, i3, i4, i5, i6⟩ := b_i1
    have ht := tr_cmp (T := T0) (N := N + 4) i2 (b_i2 (N + 3) n s ks kn q v (Int.ofNat w) σ) (b_i3 (N + 3) n s ks kn q v (Int.ofNat w) σ) (sCmp_ni_set h1 hw5)
    rw [contains_intsN] at ht
    have hws : ∀ w' ∈ ws, w' < 5 := fun w' h => hw w' (List.mem_cons_of_mem _ h)
    rw [List.length_cons] at hl
    cases hc : xs.contains w with
    | true =>
      rw [hc] at ht
      have hst2 : exs (R T0 (N + 6)) bT.2 (sBody bF0) (bφ n s ks kn (b3 q v [(S "w", .d (.int (Int.ofNat w)))])) σ = some (.nxt, bφ n s ks kn (b3 q v [(S "w", .d (.int (Int.ofNat w)))]), σ) := by
        rw [b_body.2.2.2.1]
        exact exs_cons (ex_ifF i1 ht (by rw [b_body.2.2.2.2.2.1]; exact exs_nil)) exs_nil
      obtain ⟨ext', he', hr⟩ := b_in N n s ks kn q v hk ws _ xs ys σ (.inr ⟨_, rfl⟩) hws h1 h2 (by omega)
      refine ⟨ext', he', ?_⟩
      show eFor _ _ _ _ (.int (Int.ofNat w) :: natD ws) _ _ = _
      rw [eFor_cons hst hst2 hr, bfsIn_T hc]
    | false =>
      rw [hc] at ht
      have a1 : (R T0 (N + 5)).ex bT.2 (sAt (sBody bI) 0) (bφ n s ks kn (b3 q v [(S "w", .d (.int (Int.ofNat w)))])) σ = some (.nxt, bφ n s ks kn (b3 q v [(S "w", .d (.int (Int.ofNat w)))]), σ.set ks (PO.set (addS (Int.ofNat w) (intsN xs)))) :=
        ex_expr i3 (ev_callM i5 (b_i4 (N + 2) n s ks kn q v (Int.ofNat w) σ) (calM_set h1 (bi_add _)) (b_i6 (N + 2) n s ks kn q v (Int.ofNat w) σ) (run_add h1 hw5))
      rw [addS_intsN] at a1
      have h2' : (σ.set ks (PO.set (intsN (insN w xs))))[kn]? = some (.list (natD ys)) := by rw [List.getElem?_set_ne hk]; exact h2
      have a2 : (R T0 (N + 5)).ex bT.2 (sAt (sBody bI) 1) (bφ n s ks kn (b3 q v [(S "w", .d (.int (Int.ofNat w)))])) (σ.set ks (PO.set (intsN (insN w xs)))) = some (.nxt, bφ n s ks kn (b3 q v [(S "w", .d (.int (Int.ofNat w)))]), (σ.set ks (PO.set (intsN (insN w xs)))).set kn (PO.list (natD ys ++ [.int (Int.ofNat w)]))) :=
        ex_expr i4 (ev_callM i6 (b_i5 (N + 2) n s ks kn q v (Int.ofNat w) _) (calM_list h2' (bi_append _)) (b_i7 (N + 2) n s ks kn q v (Int.ofNat w) _) (run_append h2' (by rw [natD_len]; omega)))
      have e3 : natD ys ++ [.int (Int.ofNat w)] = natD (ys ++ [w]) := by simp [natD]
      rw [e3] at a2
      have hst2 : exs (R T0 (N + 6)) bT.2 (sBody bF0) (bφ n s ks kn (b3 q v [(S "w", .d (.int (Int.ofNat w)))])) σ = some (.nxt, bφ n s ks kn (b3 q v [(S "w", .d (.int (Int.ofNat w)))]), (σ.set ks (PO.set (intsN (insN w xs)))).set kn (PO.list (natD (ys ++ [w])))) := by
        rw [b_body.2.2.2.1]
        refine exs_cons (ex_ifT i1 ht ?_) exs_nil
        rw [b_body.2.2.2.2.1]
        exact exs_cons a1 (exs_cons a2 exs_nil)
      have lks : ks < σ.length := (List.getElem?_eq_some_iff.mp h1).1
      have lkn : kn < σ.length := (List.getElem?_eq_some_iff.mp h2).1
      obtain ⟨ext', he', hr⟩ := b_in N n s ks kn q v hk ws _ (insN w xs) (ys ++ [w]) ((σ.set ks (PO.set (intsN (insN w xs)))).set kn (PO.list (natD (ys ++ [w])))) (.inr ⟨_, rfl⟩) hws
        (by rw [List.getElem?_set_ne (Ne.symm hk), List.getElem?_set_self lks]) (by rw [List.getElem?_set_self (by simpa using lkn)]) (by simp; omega)
      refine ⟨ext', he', ?_⟩
      show eFor _ _ _ _ (.int (Int.ofNat w) :: natD ws) _ _ = _
      rw [eFor_cons hst hst2 hr, set2 σ hk, bfsIn_F hc]
end Mine
end
section
open PySem PySem.W PyProof.Rows
set_option maxRecDepth 100000
set_option linter.all false
namespace Mine
/-- a graph in the store while it is gone through -/
structure GB (nds : List Nat) (es : List (Nat × Nat)) (vis : List Nat) (σ : Store) : Prop where
  a : σ[0]? = some (.attrs A3)
  i : σ[1]? = some (.inst 632 0)
  j : σ[5]? = some (.dict (refsFrom 7 nds))
  b : ∀ k x, nds[k]? = some x → x ∉ vis → ∃ ds, σ[7 + 2 * k]? = some (.dict ds) ∧ ds.map (·.1) = (kbOf es x).map Int.ofNat
def Keep (L0 : Nat) (σ σ' : Store) : Prop := ∀ k po, k < L0 → σ[k]? = some po → (∀ ds, po ≠ .dict ds) → σ'[k]? = some po
theorem Keep.refl (L0 : Nat) (σ : Store) : Keep L0 σ σ := fun _ _ _ h _ => h
theorem Keep.trans {L0 : Nat} {a b c : Store} (x : Keep L0 a b) (y : Keep L0 b c) : Keep L0 a c := fun k po h1 h2 h3 => y k po h1 (x k po h1 h2 h3) h3
theorem pCmp_eq_int (a b : Int) : pCmp .Eq (.int a) (.int b) = some (decide (a = b)) := by
  show (if shallow (.int a) (.int b) then some (PyData.eqv (.int a) (.int b)) else none) = _
  rw [if_pos (by rfl)]
  rfl
theorem forItems_dict {σ : Store} {k : Nat} {ds : List (Int × PV)} {ks : List Nat} (h : σ[k]? = some (.dict ds)) (e : ds.map (·.1) = ks.map Int.ofNat) : forItems (.ref k) σ = some (natD ks, σ.set k .dead) := by
  have : (ds.map fun p => PyData.int p.1) = natD ks := by
    have h1 : (ds.map fun p => PyData.int p.1) = (ds.map (·.1)).map PyData.int := by rw [List.map_map]; rfl
    rw [h1, e]
    unfold natD
    rw [List.map_map]; rfl
  simp only [forItems, h, this]
theorem kb_mem {es : List (Nat × Nat)} {x w : Nat} (h : w ∈ kbOf es x) : ∃ p ∈ es, w = p.1 ∨ w = p.2 := by
  unfold kbOf at h
  obtain ⟨p, hp, hq⟩ := List.mem_filterMap.mp h
  refine ⟨p, hp, ?_⟩
  split at hq
  · cases hq; exact .inr rfl
  · split at hq
    · cases hq; exact .inl rfl
    · cases hq
theorem bfsIn_len : ∀ (ws xs ys : List Nat), (bfsIn ws xs ys).2.length ≤ ys.length + ws.length
  | [], _, _ => Nat.le_refl _
  | w :: ws, xs, ys => by
    cases h : xs.contains w with
    | true => rw [bfsIn_T h]; have := bfsIn_len ws xs ys; rw [List.length_cons]; omega
    | false => rw [bfsIn_F h]; have := bfsIn_len ws (insN w xs) (ys ++ [w]); simp at this ⊢; omega
theorem len_set {σ : Store} {k : Nat} {xs : List Int} (h : σ[k]? = some (.set xs)) : pFun "len" [.ref k] σ = some (.d (.int xs.length)) := by
  simp [pFun, h]
def sh2 (e : List (Str × PV)) : Prop := e = [] ∨ (∃ q, e = [(S "v", q)]) ∨ ∃ q q', e = [(S "v", q), (S "w", q')]

theorem b_lev (N : Nat) (nds : List Nat) (es : List (Nat × Nat)) (hnd : nds.Nodup) (hes : ∀ p ∈ es, p.1 < 5 ∧ p.2 < 5) (hel : es.length < 1000) (n : Nat) (s : Int) (ks kn L0 : Nat) (q : PV) (hk : ks ≠ kn) (hks : L0 ≤ ks) (hkn : L0 ≤ kn) (h7 : 6 + 2 * nds.length ≤ L0) (h70 : 7 ≤ L0) :
    ∀ (vs : List Nat) (e2 : List (Str × PV)) (xs ys vis : List Nat) (σ : Store) {fin : Bool} {xs' ys' vis' : List Nat}, sh2 e2 → GB nds es vis σ → σ[ks]? = some (.set (intsN xs)) → σ[kn]? = some (.list (natD ys)) → ys.length + vs.length * 1000 < 900000 →
      bfsLev nds es n vs xs ys vis = some (fin, xs', ys', vis') →
      ∃ e2' σ', sh2 e2' ∧ eFor (R T0 (N + 9)) bT.2 (S "v") (sBody (bW 2)) (natD vs) (bφ (Int.ofNat n) s ks kn ((S "thislevel", q) :: e2)) σ = some (if fin then .ret (.ref ks) else .nxt, bφ (Int.ofNat n) s ks kn ((S "thislevel", q) :: e2'), σ') ∧
        GB nds es vis' σ' ∧ σ'[ks]? = some (.set (intsN xs')) ∧ σ'[kn]? = some (.list (natD ys')) ∧ σ'.length = σ.length ∧ Keep L0 σ σ' ∧ ys'.length ≤ ys.length + vs.length * 1000
  | [], e2, xs, ys, vis, σ, fin, xs', ys', vis', he, G, h1, h2, hl, hb => by
    unfold bfsLev at hb
    cases hb
    refine ⟨e2, σ, he, ?_, G, h1, h2, rfl, .refl _ _, by simp⟩
    show eFor _ _ _ _ [] _ _ = _
    rw [eFor_nil]; rfl
  | v :: vs, e2, xs, ys, vis, σ, fin, xs', ys', vis', he, G, h1, h2, hl, hb => by
    have hst : ∃ e3, (e3 = [] ∨ ∃ q', e3 = [(S "w", q')]) ∧ stN bT.2 (bφ (Int.ofNat n) s ks kn ((S "thislevel", q) :: e2)) (S "v") (.d (.int (Int.ofNat v))) = some (bφ (Int.ofNat n) s ks kn (b3 q (Int.ofNat v) e3)) := by
      rcases he with rfl | ⟨q', rfl⟩ | ⟨q', q'', rfl⟩
      · exact ⟨[], .inl rfl, b_v0 _ s ks kn q _⟩
      · exact ⟨[], .inl rfl, b_v1 _ s ks kn [] q q' _⟩
      · exact ⟨_, .inr ⟨q'', rfl⟩, b_v1 _ s ks kn _ q q' _⟩
    obtain ⟨e3, he3, hst⟩ := hst
    unfold bfsLev at hb
    split at hb
    · cases hb
    · rename_i hc
      rw [Bool.or_eq_true] at hc
      have hv1 : v ∉ vis := fun hm => hc (.inl (by simpa using hm))
      have hv2 : v ∈ nds := by
        have : nds.contains v = true := by
          cases hq : nds.contains v with
          | true => rfl
          | false => exact absurd (.inr (by rw [hq]; rfl)) hc
        simpa using this
      obtain ⟨k, hkx⟩ := idx_of hv2
      obtain ⟨ds, hd1, hd2⟩ := G.b k v hkx hv1
      have hklt : k < nds.length := (List.getElem?_eq_some_iff.mp hkx).1
      have hev : (R T0 (N + 8)).ev bT.2 (bφ (Int.ofNat n) s ks kn (b3 q (Int.ofNat v) e3)) (sVal bF0) σ = some (.ref (7 + 2 * k), σ) :=
        ev_sub b_f0.2.1 (b_f1 (N + 6) _ s ks kn e3 q _ σ) (b_f2 (N + 6) _ s ks kn e3 q _ σ) (sItem_dict G.j (refs_at nds 7 k v hnd hkx))
      have hfi := forItems_dict hd1 hd2
      have s1 : (σ.set (7 + 2 * k) PO.dead)[ks]? = some (.set (intsN xs)) := by rw [List.getElem?_set_ne (by omega)]; exact h1
      have s2 : (σ.set (7 + 2 * k) PO.dead)[kn]? = some (.list (natD ys)) := by rw [List.getElem?_set_ne (by omega)]; exact h2
      have hkl := kb_len es v
      rw [List.length_cons] at hl
      obtain ⟨e4, he4, hin⟩ := b_in (N + 2) (Int.ofNat n) s ks kn q (Int.ofNat v) hk (kbOf es v) e3 xs ys (σ.set (7 + 2 * k) PO.dead) he3 (fun w hw => by
        obtain ⟨p, hp, h⟩ := kb_mem hw
        rcases h with rfl | rfl
        · exact (hes p hp).1
        · exact (hes p hp).2) s1 s2 (by omega)
      have hF0 : (R T0 (N + 9)).ex bT.2 bF0 (bφ (Int.ofNat n) s ks kn (b3 q (Int.ofNat v) e3)) σ = some (.nxt, bφ (Int.ofNat n) s ks kn (b3 q (Int.ofNat v) e4), ((σ.set (7 + 2 * k) PO.dead).set ks (PO.set (intsN (bfsIn (kbOf es v) xs ys).1))).set kn (PO.list (natD (bfsIn (kbOf es v) xs ys).2))) :=
        ex_for b_f0.1 hev hfi hin
      have hbl := bfsIn_len (kbOf es v) xs ys
      generalize hxy : bfsIn (kbOf es v) xs ys = xy at hb hF0 hbl
      obtain ⟨xs₁, ys₁⟩ := xy
      dsimp only at hb hF0 hbl
      generalize hσ₂ : ((σ.set (7 + 2 * k) PO.dead).set ks (PO.set (intsN xs₁))).set kn (PO.list (natD ys₁)) = σ₂ at hF0
      have lks : ks < σ.length := (List.getElem?_eq_some_iff.mp h1).1
      have lkn : kn < σ.length := (List.getElem?_eq_some_iff.mp h2).1
      have t1 : σ₂[ks]? = some (.set (intsN xs₁)) := by rw [← hσ₂, List.getElem?_set_ne (Ne.symm hk), List.getElem?_set_self (by simpa using lks)]
      have t2 : σ₂[kn]? = some (.list (natD ys₁)) := by rw [← hσ₂, List.getElem?_set_self (by simpa using lkn)]
      have t3 : σ₂.length = σ.length := by rw [← hσ₂]; simp
      have keep : ∀ m po, m < L0 → m ≠ 7 + 2 * k → σ[m]? = some po → σ₂[m]? = some po := fun m po hm hne h => by
        rw [← hσ₂, List.getElem?_set_ne (by omega), List.getElem?_set_ne (by omega), List.getElem?_set_ne (Ne.symm hne)]; exact h
      have K₂ : Keep L0 σ σ₂ := fun m po hm h hnd => keep m po hm (fun e => by subst e; rw [hd1] at h; cases h; exact hnd _ rfl) h
      have G₂ : GB nds es (v :: vis) σ₂ := by
        refine ⟨keep _ _ (by omega) (by omega) G.a, keep _ _ (by omega) (by omega) G.i, keep _ _ (by omega) (by omega) G.j, fun m x hm hx => ?_⟩
        obtain ⟨ds', p1, p2⟩ := G.b m x hm (fun h => hx (List.mem_cons_of_mem _ h))
        have hmk : m ≠ k := fun e => by rw [e, hkx] at hm; exact hx (by rw [← Option.some.inj hm]; exact List.mem_cons_self)
        have : m < nds.length := (List.getElem?_eq_some_iff.mp hm).1
        exact ⟨ds', keep _ _ (by omega) (by omega) p1, p2⟩
      have htr : (R T0 (N + 8)).tr bT.2 (bφ (Int.ofNat n) s ks kn (b3 q (Int.ofNat v) e4)) (sVal bF1) σ₂ = some (decide (((intsN xs₁).length : Int) = Int.ofNat n), σ₂) :=
        tr_cmp b_g0.2.1 (ev_callN b_g0.2.2.1 (b_g1 (N + 5) _ s ks kn e4 q _ σ₂) (by rw [b_len, len_set t1]; rfl)) (b_g2 (N + 6) _ s ks kn e4 q _ σ₂) (by exact pCmp_eq_int _ _)
      have hlen : decide (((intsN xs₁).length : Int) = Int.ofNat n) = decide (xs₁.length = n) := by
        have e1 : (intsN xs₁).length = xs₁.length := by simp [intsN]
        rw [e1]
        exact decide_eq_decide.mpr ⟨fun h => Int.ofNat.inj h, fun h => congrArg Int.ofNat h⟩
      rw [hlen] at htr
      have hsh4 : sh2 ((S "v", .d (.int (Int.ofNat v))) :: e4) := by
        rcases he4 with rfl | ⟨q', rfl⟩
        · exact .inr (.inl ⟨_, rfl⟩)
        · exact .inr (.inr ⟨_, _, rfl⟩)
      by_cases hn : xs₁.length = n
      · rw [if_pos hn] at hb
        cases hb
        rw [decide_eq_true hn] at htr
        have hbody : exs (R T0 (N + 9)) bT.2 (sBody (bW 2)) (bφ (Int.ofNat n) s ks kn (b3 q (Int.ofNat v) e3)) σ = some (.ret (.ref ks), bφ (Int.ofNat n) s ks kn (b3 q (Int.ofNat v) e4), σ₂) := by
          rw [b_body.2.2.1]
          refine exs_cons hF0 (exs_ret (ex_ifT b_g0.1 htr ?_))
          rw [b_body.2.2.2.2.2.2.1]
          exact exs_ret (ex_ret b_g0.2.2.2 (b_g3 (N + 6) _ s ks kn e4 q _ σ₂))
        refine ⟨_, σ₂, hsh4, ?_, G₂, t1, t2, t3, K₂, by rw [List.length_cons]; omega⟩
        show eFor _ _ _ _ (.int (Int.ofNat v) :: natD vs) _ _ = _
        exact eFor_ret hst hbody
      · rw [if_neg hn] at hb
        rw [decide_eq_false hn] at htr
        have hbody : exs (R T0 (N + 9)) bT.2 (sBody (bW 2)) (bφ (Int.ofNat n) s ks kn (b3 q (Int.ofNat v) e3)) σ = some (.nxt, bφ (Int.ofNat n) s ks kn (b3 q (Int.ofNat v) e4), σ₂) := by
          rw [b_body.2.2.1]
          refine exs_cons hF0 (exs_cons (ex_ifF b_g0.1 htr ?_) exs_nil)
          rw [b_body.2.2.2.2.2.2.2]
          exact exs_nil
        obtain ⟨e5, σ₃, he5, hr, G₃, u1, u2, u3, K₃, u4⟩ := b_lev N nds es hnd hes hel n s ks kn L0 q hk hks hkn h7 h70 vs _ xs₁ ys₁ (v :: vis) σ₂ hsh4 G₂ t1 t2 (by omega) hb
        refine ⟨e5, σ₃, he5, ?_, G₃, u1, u2, u3.trans t3, K₂.trans K₃, by rw [List.length_cons]; omega⟩
        show eFor _ _ _ _ (.int (Int.ofNat v) :: natD vs) _ _ = _
        exact eFor_cons hst hbody hr
end Mine
end
section
open PySem PySem.W PyProof.Rows
set_option maxRecDepth 100000
set_option linter.all false
namespace Mine
theorem forItems_list {σ : Store} {k : Nat} {xs : List PyData} (h : σ[k]? = some (.list xs)) (hl : xs.length < 1000000) : forItems (.ref k) σ = some (xs, σ.set k .dead) := by
  simp only [forItems, h, hl, if_true]
theorem truthy_list {σ : Store} {k : Nat} {xs : List PyData} (h : σ[k]? = some (.list xs)) (hl : xs.length < 1000000) : sTruthy (.ref k) σ = some (!xs.isEmpty) := by
  simp only [sTruthy, h, hl, if_true]
def sh1 (e : List (Str × PV)) : Prop := e = [] ∨ ∃ q e2, e = (S "thislevel", q) :: e2 ∧ sh2 e2

theorem b_wh (N : Nat) (nds : List Nat) (es : List (Nat × Nat)) (hnd : nds.Nodup) (hes : ∀ p ∈ es, p.1 < 5 ∧ p.2 < 5) (hel : es.length < 1000) (n : Nat) (s : Int) (ks L0 : Nat) (hks : L0 ≤ ks) (h7 : 6 + 2 * nds.length ≤ L0) (h70 : 7 ≤ L0) :
    ∀ (f : Nat) (kn : Nat) (ext : List (Str × PV)) (ts xs vis : List Nat) (σ : Store) {xs' vis' : List Nat}, sh1 ext → ks ≠ kn → L0 ≤ kn → GB nds es vis σ → σ[ks]? = some (.set (intsN xs)) → σ[kn]? = some (.list (natD ts)) → ts.length < 1000000 →
      bfsF nds es n f ts xs vis = some (xs', vis') →
      ∃ fl φ' σ', (R T0 (N + f + 12)).wh bT.2 (sVal (bS 3)) (sBody (bS 3)) (bφ (Int.ofNat n) s ks kn ext) σ = some (fl, φ', σ') ∧ (fl = .ret (.ref ks) ∨ (fl = .nxt ∧ ∃ kn' e', φ' = bφ (Int.ofNat n) s ks kn' e')) ∧
        GB nds es vis' σ' ∧ σ'[ks]? = some (.set (intsN xs')) ∧ Keep L0 σ σ' ∧ σ.length ≤ σ'.length
  | 0, kn, ext, ts, xs, vis, σ, xs', vis', _, _, _, _, _, _, _, hb => by unfold bfsF at hb; cases hb
  | f + 1, kn, ext, ts, xs, vis, σ, xs', vis', he, hk, hkn, G, h1, h2, hl, hb => by
    have htr := b_t (N + f + 10) (Int.ofNat n) s ks kn ext σ
    rw [truthy_list h2 (by rw [natD_len]; exact hl)] at htr
    cases ts with
    | nil =>
      unfold bfsF at hb
      cases hb
      exact ⟨.nxt, _, σ, wh_F htr, .inr ⟨rfl, kn, ext, rfl⟩, G, h1, .refl _ _, Nat.le_refl _⟩
    | cons t ts =>
      unfold bfsF at hb
      dsimp only at hb
      split at hb
      · cases hb
      rename_i hsz
      have lks : ks < σ.length := (List.getElem?_eq_some_iff.mp h1).1
      have lkn : kn < σ.length := (List.getElem?_eq_some_iff.mp h2).1
      obtain ⟨w0, w1, w2, w3, w4, w5, w6⟩ := b_h0
      have st0 : ∃ e2, sh2 e2 ∧ stN bT.2 (bφ (Int.ofNat n) s ks kn ext) (S "thislevel") (.ref kn) = some (bφ (Int.ofNat n) s ks kn ((S "thislevel", .ref kn) :: e2)) := by
        rcases he with rfl | ⟨q, e2, rfl, h⟩
        · exact ⟨[], .inl rfl, b_h2 _ s ks kn _⟩
        · exact ⟨e2, h, b_h3 _ s ks kn e2 _ _⟩
      obtain ⟨e2, he2, st0⟩ := st0
      have W0 : (R T0 (N + f + 12)).ex bT.2 (bW 0) (bφ (Int.ofNat n) s ks kn ext) σ = some (.nxt, bφ (Int.ofNat n) s ks kn ((S "thislevel", .ref kn) :: e2), σ) := ex_as w1 w2 w3 (b_h1 (N + f + 10) _ s ks kn ext σ) st0
      have W1 : (R T0 (N + f + 12)).ex bT.2 (bW 1) (bφ (Int.ofNat n) s ks kn ((S "thislevel", .ref kn) :: e2)) σ = some (.nxt, bφ (Int.ofNat n) s ks σ.length ((S "thislevel", .ref kn) :: e2), σ ++ [.list []]) :=
        ex_as_new w4 w5 w6 (b_h4 (N + f + 10) _ s ks kn _ σ) (b_h5 _ s ks kn σ.length _)
      have up : ∀ {k : Nat} {po : PO}, σ[k]? = some po → (σ ++ [PO.list []])[k]? = some po := fun h => by rw [List.getElem?_append_left (List.getElem?_eq_some_iff.mp h).1]; exact h
      have upd : ∀ {k : Nat} {po : PO}, k ≠ kn → σ[k]? = some po → ((σ ++ [PO.list []]).set kn PO.dead)[k]? = some po := fun h1 h => by rw [List.getElem?_set_ne (Ne.symm h1)]; exact up h
      have new : ((σ ++ [PO.list []]).set kn PO.dead)[σ.length]? = some (.list (natD [])) := by
        rw [List.getElem?_set_ne (by omega), List.getElem?_append_right (Nat.le_refl _)]; simp [natD]
      have G1 : GB nds es vis ((σ ++ [PO.list []]).set kn PO.dead) := by
        refine ⟨upd (by omega) G.a, upd (by omega) G.i, upd (by omega) G.j, fun m x hm hx => ?_⟩
        obtain ⟨ds, p1, p2⟩ := G.b m x hm hx
        have : m < nds.length := (List.getElem?_eq_some_iff.mp hm).1
        exact ⟨ds, upd (by omega) p1, p2⟩
      have K1 : Keep L0 σ ((σ ++ [PO.list []]).set kn PO.dead) := fun m po hm h _ => upd (by omega) h
      have len1 : ((σ ++ [PO.list []]).set kn PO.dead).length = σ.length + 1 := by simp
      have lsz : (t :: ts).length ≤ 100 := by omega
      have tl : (t :: ts).length * 1000 < 900000 := by omega
      cases hbl : bfsLev nds es n (t :: ts) xs [] vis with
      | none => rw [hbl] at hb; cases hb
      | some p =>
        obtain ⟨fin, xs₁, ys₁, vis₁⟩ := p
        rw [hbl] at hb
        obtain ⟨e3, σ₃, he3, hr, G₃, u1, u2, u3, K₃, u4⟩ := b_lev (N + f + 2) nds es hnd hes hel n s ks σ.length L0 (.ref kn) (by omega) hks (by omega) h7 h70 (t :: ts) e2 xs [] vis ((σ ++ [PO.list []]).set kn PO.dead) he2 G1 (upd (by omega) h1) new (by simpa using tl) hbl
        have W2 : (R T0 (N + f + 12)).ex bT.2 (bW 2) (bφ (Int.ofNat n) s ks σ.length ((S "thislevel", .ref kn) :: e2)) (σ ++ [.list []]) = some (if fin then .ret (.ref ks) else .nxt, bφ (Int.ofNat n) s ks σ.length ((S "thislevel", .ref kn) :: e3), σ₃) :=
          ex_for b_f0.2.2 (b_h6 (N + f + 10) _ s ks σ.length e2 _ _) (forItems_list (up h2) (by rw [natD_len]; exact hl)) hr
        cases fin with
        | true =>
          dsimp only at hb
          cases hb
          have hbody : exs (R T0 (N + f + 12)) bT.2 (sBody (bS 3)) (bφ (Int.ofNat n) s ks kn ext) σ = some (.ret (.ref ks), bφ (Int.ofNat n) s ks σ.length ((S "thislevel", .ref kn) :: e3), σ₃) := by
            rw [b_body.2.1]
            exact exs_cons W0 (exs_cons W1 (exs_ret W2))
          exact ⟨_, _, σ₃, wh_ret htr hbody, .inl rfl, G₃, u1, K1.trans K₃, by omega⟩
        | false =>
          dsimp only at hb
          have hbody : exs (R T0 (N + f + 12)) bT.2 (sBody (bS 3)) (bφ (Int.ofNat n) s ks kn ext) σ = some (.nxt, bφ (Int.ofNat n) s ks σ.length ((S "thislevel", .ref kn) :: e3), σ₃) := by
            rw [b_body.2.1]
            exact exs_cons W0 (exs_cons W1 (exs_cons W2 exs_nil))
          obtain ⟨fl, φ', σ₄, hw, hfl, G₄, v1, K₄, v2⟩ := b_wh N nds es hnd hes hel n s ks L0 hks h7 h70 f σ.length _ ys₁ xs₁ vis₁ σ₃ (.inr ⟨_, e3, rfl, he3⟩) (by omega) (by omega) G₃ u1 u2 (by have := u4; rw [List.length_nil] at this; omega) hb
          exact ⟨fl, φ', σ₄, wh_T htr hbody hw, hfl, G₄, v1, (K1.trans K₃).trans K₄, by omega⟩

/-! the whole -/
def bφ0 (n s : Int) (ext : List (Str × PV)) : Frm := ⟨[(S "G", .ref 1), (S "n", .d (.int n)), (S "source", .d (.int s))] ++ ext, [], []⟩
section
variable (N : Nat) (n s : Int) (ks kn : Nat) (σ : Store)
theorem b_s0 : isAs (S "adj") (bS 0) = true ∧ plainVal (sVal (bS 0)) = true ∧ (mutN.contains (S "adj") && isNewForm (sVal (bS 0))) = false ∧ isAttr (S "_adj") (sVal (bS 0)) = true ∧ isAs (S "seen") (bS 1) = true ∧ plainVal (sVal (bS 1)) = true ∧
    (mutN.contains (S "seen") && isNewForm (sVal (bS 1))) = false ∧ isAs (S "nextlevel") (bS 2) = true ∧ plainVal (sVal (bS 2)) = true ∧ (mutN.contains (S "nextlevel") && isNewForm (sVal (bS 2))) = true := by
  refine ⟨?_, ?_, ?_, ?_, ?_, ?_, ?_, ?_, ?_, ?_⟩ <;> kernel_rfl
theorem b_s1 : (R T0 (N + 1)).ev bT.2 (bφ0 n s []) (eArg (sVal (bS 0)) 0) σ = some (.ref 1, σ) := by kernel_rfl
theorem b_s2 : stN bT.2 (bφ0 n s []) (S "adj") (.ref 5) = some (bφ0 n s [(S "adj", .ref 5)]) := by kernel_rfl
theorem b_s3 : (R T0 (N + 2)).ev bT.2 (bφ0 n s [(S "adj", .ref 5)]) (sVal (bS 1)) σ = if small5 s = true then some (.ref σ.length, σ ++ [.set [s]]) else none := by kernel_rfl
theorem b_s4 : stN bT.2 (bφ0 n s [(S "adj", .ref 5)]) (S "seen") (.ref ks) = some (bφ0 n s [(S "adj", .ref 5), (S "seen", .ref ks)]) := by kernel_rfl
theorem b_s5 : evNew (R T0 (N + 1)) bT.2 (bφ0 n s [(S "adj", .ref 5), (S "seen", .ref ks)]) (sVal (bS 2)) σ = some ([.int s], σ) := by kernel_rfl
theorem b_s6 : stN bT.2 (bφ0 n s [(S "adj", .ref 5), (S "seen", .ref ks)]) (S "nextlevel") (.ref kn) = some (bφ n s ks kn []) := by kernel_rfl
end
def bN : List Str := [S "G", S "n", S "source"]
def bfsR (vs : List PV) (σ : Store) : Option (PV × Store) := runF T0 60 false bT bN vs σ
theorem bfs_run (nds : List Nat) (es : List (Nat × Nat)) (hnd : nds.Nodup) (hes : ∀ p ∈ es, p.1 < 5 ∧ p.2 < 5) (hel : es.length < 1000) (n s : Nat) (hs : s < 5) (vis : List Nat) (σ : Store) (G : GB nds es vis σ) (h7 : 6 + 2 * nds.length ≤ σ.length) (h70 : 7 ≤ σ.length) {xs' vis' : List Nat}
    (hb : bfsF nds es n 6 [s] [s] vis = some (xs', vis')) :
    ∃ σ', bfsR [.ref 1, .d (.int (Int.ofNat n)), .d (.int (Int.ofNat s))] σ = some (.ref σ.length, σ') ∧ GB nds es vis' σ' ∧ σ'[σ.length]? = some (.set (intsN xs')) ∧ Keep σ.length σ σ' ∧ σ.length < σ'.length := by
  obtain ⟨z1, z2, z3, z4, z5, z6, z7, z8, z9, z10⟩ := b_s0
  have hsm : small5 (Int.ofNat s) = true := by
    unfold small5
    rw [Bool.and_eq_true, decide_eq_true_eq, decide_eq_true_eq]
    exact ⟨Int.natCast_nonneg s, by show (s : Int) < 5; omega⟩
  have S0 : (R T0 60).ex bT.2 (bS 0) (bφ0 (Int.ofNat n) (Int.ofNat s) []) σ = some (.nxt, bφ0 (Int.ofNat n) (Int.ofNat s) [(S "adj", .ref 5)], σ) :=
    ex_as z1 z2 z3 (ev_attr z4 (b_s1 57 _ _ σ) G.i ow2 G.a A3a) (b_s2 _ _)
  have S1 : (R T0 60).ex bT.2 (bS 1) (bφ0 (Int.ofNat n) (Int.ofNat s) [(S "adj", .ref 5)]) σ = some (.nxt, bφ0 (Int.ofNat n) (Int.ofNat s) [(S "adj", .ref 5), (S "seen", .ref σ.length)], σ ++ [.set [Int.ofNat s]]) :=
    ex_as z5 z6 z7 (by rw [b_s3 57, if_pos hsm]) (b_s4 _ _ _)
  have S2 : (R T0 60).ex bT.2 (bS 2) (bφ0 (Int.ofNat n) (Int.ofNat s) [(S "adj", .ref 5), (S "seen", .ref σ.length)]) (σ ++ [.set [Int.ofNat s]]) = some (.nxt, bφ (Int.ofNat n) (Int.ofNat s) σ.length (σ ++ [PO.set [Int.ofNat s]]).length [], (σ ++ [.set [Int.ofNat s]]) ++ [.list [.int (Int.ofNat s)]]) :=
    ex_as_new z8 z9 z10 (b_s5 58 _ _ _ _) (b_s6 _ _ _ _)
  have up : ∀ {k : Nat} {po : PO}, σ[k]? = some po → ((σ ++ [PO.set [Int.ofNat s]]) ++ [PO.list [.int (Int.ofNat s)]])[k]? = some po := fun h => by
    have := (List.getElem?_eq_some_iff.mp h).1
    rw [List.getElem?_append_left (by simp; omega), List.getElem?_append_left this]; exact h
  have G1 : GB nds es vis ((σ ++ [PO.set [Int.ofNat s]]) ++ [PO.list [.int (Int.ofNat s)]]) := by
    refine ⟨up G.a, up G.i, up G.j, fun m x hm hx => ?_⟩
    obtain ⟨ds, p1, p2⟩ := G.b m x hm hx
    exact ⟨ds, up p1, p2⟩
  have l1 : ((σ ++ [PO.set [Int.ofNat s]]) ++ [PO.list [.int (Int.ofNat s)]])[σ.length]? = some (.set (intsN [s])) := by
    rw [List.getElem?_append_left (by simp), List.getElem?_append_right (Nat.le_refl _)]; simp [intsN]
  have l2 : ((σ ++ [PO.set [Int.ofNat s]]) ++ [PO.list [.int (Int.ofNat s)]])[(σ ++ [PO.set [Int.ofNat s]]).length]? = some (.list (natD [s])) := by
    rw [List.getElem?_append_right (Nat.le_refl _)]; simp [natD]
  obtain ⟨fl, φ', σ', hw, hfl, G', u1, K', u2⟩ := b_wh 41 nds es hnd hes hel n (Int.ofNat s) σ.length σ.length (Nat.le_refl _) h7 h70 6 _ [] [s] [s] vis _ (.inl rfl) (by simp) (by simp) G1 l1 l2 (by simp) hb
  have S3 : (R T0 60).ex bT.2 (bS 3) (bφ (Int.ofNat n) (Int.ofNat s) σ.length (σ ++ [PO.set [Int.ofNat s]]).length []) ((σ ++ [PO.set [Int.ofNat s]]) ++ [PO.list [.int (Int.ofNat s)]]) = some (fl, φ', σ') := ex_while b_h0.1 hw
  have fin : ∃ φ'', exs (R T0 60) bT.2 bT.1 (bφ0 (Int.ofNat n) (Int.ofNat s) []) σ = some (.ret (.ref σ.length), φ'', σ') := by
    rw [b_body.1]
    rcases hfl with rfl | ⟨rfl, kn', e', rfl⟩
    · exact ⟨_, exs_cons S0 (exs_cons S1 (exs_cons S2 (exs_ret S3)))⟩
    · exact ⟨_, exs_cons S0 (exs_cons S1 (exs_cons S2 (exs_cons S3 (exs_ret (b_r 58 _ _ _ _ _ _)))))⟩
  obtain ⟨φ'', hx⟩ := fin
  refine ⟨σ', ?_, G', u1, ?_, ?_⟩
  · unfold bfsR runF
    rw [if_pos (by rfl)]
    show (match exs (R T0 60) bT.2 bT.1 (bφ0 (Int.ofNat n) (Int.ofNat s) []) σ with | some (f, _, σ') => _ | none => none) = _
    rw [hx]
    rfl
  · exact fun k po h1 h2 h3 => K' k po h1 (up h2) h3
  · simp at u2; omega
end Mine
end
section
open PySem PySem.W PyProof.Rows
set_option maxRecDepth 100000
set_option linter.all false
namespace Mine
/-! connected_components -/
def OG (a : Addr) (vs : List PV) (σ : Store) : Option (PV × Store) := if a = 35 then bfsR vs σ else none
def TG : Txt := { T0 with O := OG }
def cT : List Stmt × Scope := txtOf "connected_components"
def cS (n : Nat) : Stmt := sAt cT.1 n
def cIf : Stmt := sAt (sBody (cS 2)) 0
def cTest : Expr := sVal cIf
def cPre : List Stmt := [sAt (sBody cIf) 0, sAt (sBody cIf) 1]
def cY : Expr := match sAt (sBody cIf) 2 with | .Expr (.Yield (some e) _) _ => e | _ => xN
def cL (n : Int) (ks : Nat) : List (Str × PV) := [(S "G", .ref 1), (S "seen", .ref ks), (S "n", .d (.int n))]
def cφ (n : Int) (ks : Nat) (ext : List (Str × PV)) : Frm := ⟨cL n ks ++ ext, [], []⟩
section
variable (N : Nat) (n v : Int) (ks k : Nat) (ext : List (Str × PV)) (q q' : PV) (σ : Store)
theorem c_v0 : stN cT.2 (cφ n ks []) (S "v") (.d (.int v)) = some (cφ n ks [(S "v", .d (.int v))]) := by kernel_rfl
theorem c_v1 : stN cT.2 (cφ n ks ((S "v", q) :: ext)) (S "v") (.d (.int v)) = some (cφ n ks ((S "v", .d (.int v)) :: ext)) := by kernel_rfl
theorem c_t1 : isCmp .NotIn cTest = true := by kernel_rfl
theorem c_t2 : (R TG (N + 1)).ev cT.2 (cφ n ks ((S "v", .d (.int v)) :: ext)) (eArg cTest 0) σ = some (.d (.int v), σ) := by kernel_rfl
theorem c_t3 : (R TG (N + 1)).ev cT.2 (cφ n ks ((S "v", .d (.int v)) :: ext)) (eArg cTest 1) σ = some (.ref ks, σ) := by kernel_rfl
def cA : Stmt := sAt (sBody cIf) 0
def cU : Stmt := sAt (sBody cIf) 1
theorem c_a1 : isAs (S "c") cA = true ∧ plainVal (sVal cA) = true ∧ (mutN.contains (S "c") && isNewForm (sVal cA)) = false ∧ isCallN (S "_plain_bfs") (sVal cA) = true ∧ noStar ((eArgs (sVal cA)).getD 0 xN) = true ∧ noStar ((eArgs (sVal cA)).getD 1 xN) = true ∧ noStar ((eArgs (sVal cA)).getD 2 xN) = true := by
  refine ⟨?_, ?_, ?_, ?_, ?_, ?_, ?_⟩ <;> kernel_rfl
theorem c_a2 : eArgs (sVal cA) = [(eArgs (sVal cA)).getD 0 xN, (eArgs (sVal cA)).getD 1 xN, (eArgs (sVal cA)).getD 2 xN] := by kernel_rfl
theorem c_a3 : (R TG (N + 1)).ev cT.2 (cφ n ks ((S "v", .d (.int v)) :: ext)) ((eArgs (sVal cA)).getD 0 xN) σ = some (.ref 1, σ) := by kernel_rfl
theorem c_a4 : isBin .Sub ((eArgs (sVal cA)).getD 1 xN) = true := by kernel_rfl
theorem c_a5 : (R TG (N + 1)).ev cT.2 (cφ n ks ((S "v", .d (.int v)) :: ext)) (eArg ((eArgs (sVal cA)).getD 1 xN) 0) σ = some (.d (.int n), σ) := by kernel_rfl
theorem c_a6 : isCallN (S "len") (eArg ((eArgs (sVal cA)).getD 1 xN) 1) = true := by kernel_rfl
theorem c_a7 : evs (R TG (N + 1)) cT.2 (cφ n ks ((S "v", .d (.int v)) :: ext)) (eArgs (eArg ((eArgs (sVal cA)).getD 1 xN) 1)) σ = some ([.ref ks], σ) := by kernel_rfl
theorem c_a8 : (R TG (N + 1)).ev cT.2 (cφ n ks ((S "v", .d (.int v)) :: ext)) ((eArgs (sVal cA)).getD 2 xN) σ = some (.d (.int v), σ) := by kernel_rfl
theorem c_a9 : evCallN TG cT.2 (S "len") [.ref ks] σ = (pFun "len" [.ref ks] σ).map fun v => (v, σ) := by kernel_rfl
theorem c_a10 (vs : List PV) : evCallN TG cT.2 (S "_plain_bfs") vs σ = bfsR vs σ := by kernel_rfl
theorem c_a11 : stN cT.2 (cφ n ks [(S "v", q')]) (S "c") q = some (cφ n ks [(S "v", q'), (S "c", q)]) := by kernel_rfl
theorem c_a12 (q3 : PV) : stN cT.2 (cφ n ks [(S "v", q'), (S "c", q3)]) (S "c") q = some (cφ n ks [(S "v", q'), (S "c", q)]) := by kernel_rfl
theorem c_u1 : isExC cU = true ∧ isCallM (S "update") (sVal cU) = true := by constructor <;> kernel_rfl
theorem c_u2 : (R TG (N + 1)).ev cT.2 (cφ n ks ext) (cmObj (sVal cU)) σ = some (.ref ks, σ) := by kernel_rfl
theorem c_u3 : evs (R TG (N + 1)) cT.2 (cφ n ks [(S "v", q'), (S "c", q)]) (eArgs (sVal cU)) σ = some ([q], σ) := by kernel_rfl
theorem c_y : (R TG (N + 1)).ev cT.2 (cφ n ks [(S "v", q'), (S "c", q)]) cY σ = some (q, σ) := by kernel_rfl
end
theorem bi_bag (xs : List Int) : biOf (.bag xs) (S "update") = some "set.update" := by kernel_rfl

/-! in plain Lean -/
def ccF (nds : List Nat) (es : List (Nat × Nat)) : List Nat → List Nat → List Nat → Option (List (List Nat))
  | [], _, _ => some []
  | v :: rest, bag, vis => if bag.contains v then ccF nds es rest bag vis else
      if nds.length < bag.length || 5 ≤ v then none else
      match bfsF nds es (nds.length - bag.length) 6 [v] [v] vis with
      | none => none
      | some ([], _) => none
      | some (x :: xs, vis') => match ccF nds es rest (bag ++ (x :: xs).filter fun y => !bag.contains y) vis' with
        | none => none
        | some out => some ((x :: xs) :: out)

theorem filter_intsN (bag xs : List Nat) : (intsN xs).filter (fun y => !(intsN bag).contains y) = intsN (xs.filter fun y => !bag.contains y) := by
  induction xs with
  | nil => rfl
  | cons x r ih =>
    show (Int.ofNat x :: intsN r).filter _ = _
    rw [List.filter_cons, List.filter_cons, contains_intsN, ih]
    split <;> rfl
theorem len_bag {σ : Store} {k : Nat} {xs : List Int} (h : σ[k]? = some (.bag xs)) : pFun "len" [.ref k] σ = some (.d (.int xs.length)) := by
  simp [pFun, h]
theorem run_update {σ : Store} {k j : Nat} {xs : List Int} {y : Int} {ys : List Int} (h1 : σ[k]? = some (.bag xs)) (h2 : σ[j]? = some (.set (y :: ys))) (hn : j ≠ k) :
    pBi "set.update" (.ref k) [.ref j] σ = some (.d .none, σ.set k (.bag (xs ++ (y :: ys).filter fun y => !xs.contains y))) := by
  simp [pBi, h1, h2, hn]
theorem calM_bag {T : Txt} {σ : Store} {k : Nat} {xs : List Int} {name : Str} {id : String} (h1 : σ[k]? = some (.bag xs)) (hb : biOf (.bag xs) name = some id) : calleeM T (.ref k) name σ = some (.bi id) := by
  simp only [calleeM, h1, hb, Option.map_some]

def shc (e : List (Str × PV)) : Prop := e = [] ∨ (∃ q, e = [(S "v", q)]) ∨ ∃ q q', e = [(S "v", q), (S "c", q')]

theorem pl_of (nds : List Nat) (es : List (Nat × Nat)) (hnd : nds.Nodup) (hes : ∀ p ∈ es, p.1 < 5 ∧ p.2 < 5) (hel : es.length < 1000) (ks : Nat) (h7 : 6 + 2 * nds.length ≤ ks) (h70 : 7 ≤ ks) :
    ∀ (rest bag vis : List Nat) (ext : List (Str × PV)) (σ : Store) {out : List (List Nat)}, shc ext → (∀ v ∈ rest, v < 5) → GB nds es vis σ → σ[ks]? = some (.bag (intsN bag)) → ccF nds es rest bag vis = some out →
      ∃ (Rs : List Store) (Ks : List Nat), Rs.length = out.length + 1 ∧ Ks.length = out.length ∧ Rs[out.length]? = some σ ∧ (∀ i, i < out.length → ∃ σi k xs, Rs[i]? = some σi ∧ Ks[i]? = some k ∧ out[out.length - 1 - i]? = some xs ∧ σi[k]? = some (.set (intsN xs))) ∧
        ∀ (pvY : Nat → PV) (σY σC : Nat → Store), (∀ i σi, Rs[i]? = some σi → σC i = σi) → (∀ i, σY (i + 1) = σC i) → (∀ i k, Ks[i]? = some k → pvY (i + 1) = .ref k) →
          PL (R TG 70) cT.2 (S "v") cTest cPre cY pvY σY σC (natD rest) (cφ (Int.ofNat nds.length) ks ext) σ out.length
  | [], bag, vis, ext, σ, out, he, _, G, hb, hc => by
    unfold ccF at hc
    cases hc
    refine ⟨[σ], [], rfl, rfl, rfl, fun i h => by simp at h, fun pvY σY σC h1 h2 h3 => ?_⟩
    have := h1 0 σ rfl
    have e : (List.length ([] : List (List Nat))) = 0 := rfl
    show PL _ _ _ _ _ _ pvY σY σC [] _ σ 0
    rw [← this]
    exact .nil
  | v :: rest, bag, vis, ext, σ, out, he, hv, G, hb, hc => by
    have hv5 : v < 5 := hv v List.mem_cons_self
    have hv0 : (0 : Int) ≤ Int.ofNat v ∧ Int.ofNat v < 5 := ⟨Int.natCast_nonneg v, by show (v : Int) < 5; omega⟩
    have hrest : ∀ w ∈ rest, w < 5 := fun w h => hv w (List.mem_cons_of_mem _ h)
    have hst : ∃ e3, (e3 = [] ∨ ∃ q', e3 = [(S "c", q')]) ∧ stN cT.2 (cφ (Int.ofNat nds.length) ks ext) (S "v") (.d (.int (Int.ofNat v))) = some (cφ (Int.ofNat nds.length) ks ((S "v", .d (.int (Int.ofNat v))) :: e3)) := by
      rcases he with rfl | ⟨q, rfl⟩ | ⟨q, q', rfl⟩
      · exact ⟨[], .inl rfl, c_v0 _ _ ks⟩
      · exact ⟨[], .inl rfl, c_v1 _ _ ks [] q⟩
      · exact ⟨_, .inr ⟨q', rfl⟩, c_v1 _ _ ks _ q⟩
    obtain ⟨e3, he3, hst⟩ := hst
    have htr : (R TG 70).tr cT.2 (cφ (Int.ofNat nds.length) ks ((S "v", .d (.int (Int.ofNat v))) :: e3)) cTest σ = some (!bag.contains v, σ) := by
      rw [← contains_intsN]
      exact tr_cmp c_t1 (c_t2 68 _ _ ks e3 σ) (c_t3 68 _ _ ks e3 σ) (sCmp_ni_bag hb hv0)
    unfold ccF at hc
    cases hcn : bag.contains v with
    | true =>
      rw [hcn] at htr hc
      simp only [if_true] at hc
      obtain ⟨Rs, Ks, r1, r2, r3, r4, r5⟩ := pl_of nds es hnd hes hel ks h7 h70 rest bag vis ((S "v", .d (.int (Int.ofNat v))) :: e3) σ (by
        rcases he3 with rfl | ⟨q', rfl⟩
        · exact .inr (.inl ⟨_, rfl⟩)
        · exact .inr (.inr ⟨_, _, rfl⟩)) hrest G hb hc
      exact ⟨Rs, Ks, r1, r2, r3, r4, fun pvY σY σC h1 h2 h3 => .skip hst htr (r5 pvY σY σC h1 h2 h3)⟩
    | false =>
      rw [hcn] at htr hc
      simp only [Bool.false_eq_true, if_false] at hc
      split at hc
      · cases hc
      rename_i hlt
      have hle : bag.length ≤ nds.length := by
        have : (decide (nds.length < bag.length)) = false := by
          cases hq : decide (nds.length < bag.length) with
          | false => rfl
          | true => exact absurd (by rw [hq]; rfl) hlt
        have := of_decide_eq_false this
        omega
      split at hc
      · cases hc
      · cases hc
      rename_i x xs vis' hbf
      split at hc
      · cases hc
      rename_i out' hcc
      cases hc
      have lks : ks < σ.length := (List.getElem?_eq_some_iff.mp hb).1
      obtain ⟨σ₁, b1, G₁, b2, b3, b4⟩ := bfs_run nds es hnd hes hel (nds.length - bag.length) v hv5 vis σ G (by omega) (by omega) hbf
      have hbag₁ : σ₁[ks]? = some (.bag (intsN bag)) := b3 ks _ lks hb (fun ds h => nomatch h)
      have hsub : (Int.ofNat nds.length) - ((intsN bag).length : Int) = Int.ofNat (nds.length - bag.length) := by
        have e1 : (intsN bag).length = bag.length := by simp [intsN]
        rw [e1]
        simp only [Int.ofNat_eq_natCast]
        omega
      have hA : (R TG 70).ex cT.2 cA (cφ (Int.ofNat nds.length) ks ((S "v", .d (.int (Int.ofNat v))) :: e3)) σ = some (.nxt, cφ (Int.ofNat nds.length) ks [(S "v", .d (.int (Int.ofNat v))), (S "c", .ref σ.length)], σ₁) := by
        obtain ⟨a1, a2, a3, a4, a5, a6, a7⟩ := c_a1
        have hl : (R TG 67).ev cT.2 (cφ (Int.ofNat nds.length) ks ((S "v", .d (.int (Int.ofNat v))) :: e3)) (eArg ((eArgs (sVal cA)).getD 1 xN) 1) σ = some (.d (.int ((intsN bag).length : Int)), σ) :=
          ev_callN c_a6 (c_a7 65 _ _ ks e3 σ) (by rw [c_a9, len_bag hb]; rfl)
        have h2 : (R TG 68).ev cT.2 (cφ (Int.ofNat nds.length) ks ((S "v", .d (.int (Int.ofNat v))) :: e3)) ((eArgs (sVal cA)).getD 1 xN) σ = some (.d (.int (Int.ofNat (nds.length - bag.length))), σ) :=
          ev_bin c_a4 (c_a5 66 _ _ ks e3 σ) hl (by rw [← hsub]; rfl)
        have h3 : evs (R TG 68) cT.2 (cφ (Int.ofNat nds.length) ks ((S "v", .d (.int (Int.ofNat v))) :: e3)) (eArgs (sVal cA)) σ = some ([.ref 1, .d (.int (Int.ofNat (nds.length - bag.length))), .d (.int (Int.ofNat v))], σ) := by
          rw [c_a2]
          exact evs_cons a5 (c_a3 67 _ _ ks e3 σ) (evs_cons a6 h2 (evs_cons a7 (c_a8 67 _ _ ks e3 σ) evs_nil))
        have h4 : (R TG 69).ev cT.2 (cφ (Int.ofNat nds.length) ks ((S "v", .d (.int (Int.ofNat v))) :: e3)) (sVal cA) σ = some (.ref σ.length, σ₁) :=
          ev_callN a4 h3 (by rw [c_a10]; exact b1)
        refine ex_as a1 a2 a3 h4 ?_
        rcases he3 with rfl | ⟨q', rfl⟩
        · exact c_a11 _ ks _ _
        · exact c_a12 _ ks _ _ _
      have hU : (R TG 70).ex cT.2 cU (cφ (Int.ofNat nds.length) ks [(S "v", .d (.int (Int.ofNat v))), (S "c", .ref σ.length)]) σ₁ = some (.nxt, cφ (Int.ofNat nds.length) ks [(S "v", .d (.int (Int.ofNat v))), (S "c", .ref σ.length)],
          σ₁.set ks (.bag (intsN bag ++ (intsN (x :: xs)).filter fun y => !(intsN bag).contains y))) :=
        ex_expr c_u1.1 (ev_callM c_u1.2 (c_u2 67 _ ks _ σ₁) (calM_bag hbag₁ (bi_bag _)) (c_u3 67 _ ks _ _ σ₁) (run_update hbag₁ b2 (by omega)))
      rw [filter_intsN] at hU
      have hcat : intsN bag ++ intsN ((x :: xs).filter fun y => !bag.contains y) = intsN (bag ++ (x :: xs).filter fun y => !bag.contains y) := by simp [intsN]
      rw [hcat] at hU
      generalize hσ₂ : σ₁.set ks (PO.bag (intsN (bag ++ (x :: xs).filter fun y => !bag.contains y))) = σ₂ at hU
      have lks₁ : ks < σ₁.length := by omega
      have hbag₂ : σ₂[ks]? = some (.bag (intsN (bag ++ (x :: xs).filter fun y => !bag.contains y))) := by rw [← hσ₂, List.getElem?_set_self lks₁]
      have oth : ∀ m po, m ≠ ks → σ₁[m]? = some po → σ₂[m]? = some po := fun m po h1 h => by rw [← hσ₂, List.getElem?_set_ne (Ne.symm h1)]; exact h
      have G₂ : GB nds es vis' σ₂ := by
        refine ⟨oth _ _ (by omega) G₁.a, oth _ _ (by omega) G₁.i, oth _ _ (by omega) G₁.j, fun m x hm hx => ?_⟩
        obtain ⟨ds, p1, p2⟩ := G₁.b m x hm hx
        have : m < nds.length := (List.getElem?_eq_some_iff.mp hm).1
        exact ⟨ds, oth _ _ (by omega) p1, p2⟩
      have hset₂ : σ₂[σ.length]? = some (.set (intsN (x :: xs))) := oth _ _ (by omega) b2
      obtain ⟨Rs, Ks, r1, r2, r3, r4, r5⟩ := pl_of nds es hnd hes hel ks h7 h70 rest _ vis' _ σ₂ (.inr (.inr ⟨_, _, rfl⟩)) hrest G₂ hbag₂ hcc
      have hpre : exs (R TG 70) cT.2 cPre (cφ (Int.ofNat nds.length) ks ((S "v", .d (.int (Int.ofNat v))) :: e3)) σ = some (.nxt, cφ (Int.ofNat nds.length) ks [(S "v", .d (.int (Int.ofNat v))), (S "c", .ref σ.length)], σ₂) :=
        exs_cons hA (exs_cons hU exs_nil)
      refine ⟨Rs ++ [σ], Ks ++ [σ.length], by simp [r1], by simp [r2], ?_, fun i hi => ?_, fun pvY σY σC h1 h2 h3 => ?_⟩
      · rw [List.getElem?_append_right (by rw [r1]; simp)]; simp [r1]
      · rw [List.length_cons] at hi
        by_cases hii : i < out'.length
        · obtain ⟨σi, k, ys, q1, q2, q3, q4⟩ := r4 i hii
          refine ⟨σi, k, ys, ?_, ?_, ?_, q4⟩
          · rw [List.getElem?_append_left (List.getElem?_eq_some_iff.mp q1).1]; exact q1
          · rw [List.getElem?_append_left (List.getElem?_eq_some_iff.mp q2).1]; exact q2
          · have e1 : ((x :: xs) :: out').length - 1 - i = (out'.length - 1 - i) + 1 := by rw [List.length_cons]; omega
            rw [e1, List.getElem?_cons_succ]; exact q3
        · have hi' : i = out'.length := by omega
          subst hi'
          refine ⟨σ₂, σ.length, x :: xs, ?_, ?_, ?_, hset₂⟩
          · rw [List.getElem?_append_left (by omega)]; exact r3
          · rw [List.getElem?_append_right (by omega)]; simp [r2]
          · have e1 : ((x :: xs) :: out').length - 1 - out'.length = 0 := by rw [List.length_cons]; omega
            rw [e1]; rfl
      · have k1 : ∀ i σi, Rs[i]? = some σi → σC i = σi := fun i σi h => h1 i σi (by rw [List.getElem?_append_left (List.getElem?_eq_some_iff.mp h).1]; exact h)
        have k3 : ∀ i k, Ks[i]? = some k → pvY (i + 1) = .ref k := fun i k h => h3 i k (by rw [List.getElem?_append_left (List.getElem?_eq_some_iff.mp h).1]; exact h)
        have hrec := r5 pvY σY σC k1 h2 k3
        have c1 : σC out'.length = σ₂ := k1 _ _ r3
        have c2 : pvY (out'.length + 1) = .ref σ.length := h3 _ _ (by rw [List.getElem?_append_right (by omega)]; simp [r2])
        show PL _ _ _ _ _ _ pvY σY σC (.int (Int.ofNat v) :: natD rest) _ σ (out'.length + 1)
        refine .yld hst htr hpre ?_ (by rw [c1]; exact hrec)
        rw [c2, h2, c1]
        exact c_y 69 _ ks _ _ σ₂
end Mine
end
section
open PySem PySem.W PyProof.Rows
open Sem (wp)
set_option maxRecDepth 100000
set_option linter.all false
namespace Mine
section
variable {prog : Program} {w : World} {h₀ : Heap} {A : Around} {E : Value → Shared → Prop} {s s' s₀ : Shared} {Z Z' : ZP} {ρ ρ' : List Addr} {σ σ' σ'' σ₀ σ₁ σ₂ : Store} {env : Env} {φ φ' φ₀ φ₁ : Frm} {n : Nat} {X : List Addr} {sc : Scope} {T : Txt} {e : Expr} {st : Stmt}

theorem snd_assign_of (hs : env.scope = sc) {x : Str} {v : PV} (hst : isAs x st = true) (hp : plainVal (sVal st) = true)
    (h1 : SndV prog w h₀ A Z ρ s (eval (sVal st) env) v σ') (h2 : stN sc φ x v = some φ') (L : Loc Z ρ env φ s) :
    SndF prog w h₀ A env Z ρ s (exec st env) .nxt φ' σ' := by
  unfold isAs at hst
  split at hst
  · rename_i y p value p'
    have hf := Str.beq_eq hst
    subst hf
    replace hp : plainVal value = true := hp
    intro E Q k
    refine wpAny_Assign_Name ?_ (swaps_plain hp _ _)
    refine h1 E _ fun u s₁ Z₁ ρ₁ g₁ B₁ r₁ => ?_
    have L₁ := L.grow g₁
    refine snd_store hs h2 r₁ B₁ L₁ fun s₂ g₂ B₂ L₂ => ?_
    exact k .next s₂ Z₁ ρ₁ (g₁.nil.trans B₁ L₁.alive g₂) B₂ L₂ rfl
  · cases hst

/-- a call of a global name, whatever comes of it -/
theorem callNq {r : Rec} (SR : SoundR prog w h₀ r n) (TT : TOk prog w h₀ T n) (hA : AOk n A) (hs : env.scope = sc) {f : Str} {vs : List PV} {fv : Value} {Q : Value → Shared → Prop} (he : isCallN f e = true) (hf : sc.names.lookup f = some .globalImplicit ∧ (f == S "__debug__") = false) (hg : T.gv f = some fv)
    (hk : ∃ k, (k = Keeper.frame ∨ k = Keeper.machine ∨ k = Keeper.boundFrame) ∧ Looks (model prog w) h₀ (keeperOf fv) k) (h1 : evs r sc φ (eArgs e) σ = some (vs, σ₁)) (B : Base prog w h₀ Z ρ σ s) (L : Loc Z ρ env φ s)
    (hc : ∀ vals s₁ Z₁ ρ₁, Grow [] Z ρ s Z₁ ρ₁ s₁ → Base prog w h₀ Z₁ ρ₁ σ₁ s₁ → All2 (VR Z₁ ρ₁) vs vals → wpAny (model prog w) A (call fv vals) Q E s₁) : wpAny (model prog w) A (eval e env) Q E s := by
  unfold isCallN at he
  split at he
  · rename_i g p as p'
    simp only [Bool.and_eq_true, decide_eq_true_eq] at he
    have hfe := Str.beq_eq he.1
    subst hfe
    replace h1 : evs r sc φ as σ = _ := h1
    refine wpAny_Call_Name_kw (Calls.Name_function_global L.hk (by rw [← hs] at hf; exact hf.1) (TT.gl g fv hg A E s env _ B.h0 L.gl L.bl ?_) hf.2)
    exact callWq SR hA hs hk h1 B L (first := []) (by simpa using hc)
  · cases he

/-- a call of a function, whatever comes of it -/
theorem call_raw {a : Addr} {fd : FuncData} {body : List Stmt} (F : FnOk h₀ a fd body) (hA : AOk (n + 1) A) {names : List Str} {pvs : List PV} {vals : List Value} (hnn : names.Nodup) (hlen : names.length = vals.length) (B : Base prog w h₀ Z ρ σ s) (hv : All2 (VR Z ρ) pvs vals)
    (hbind : bindArgs fd ⟨vals, []⟩ = pure (names.zip vals)) (hkind : ∀ x ∈ names, fd.scope.names.lookup x = some .local ∨ fd.scope.names.lookup x = some .cell) {Q : Value → Shared → Prop}
    (hbody : ∀ (env : Env) (s₁ : Shared), env.scope = fd.scope → Grow [] Z ρ s Z ρ s₁ → Base prog w h₀ Z ρ σ s₁ → Loc Z ρ env (frmOf fd.scope (names.zip pvs)) s₁ →
      ∀ (E : Value → Shared → Prop), wpAny (model prog w) (A.deeper env) (execs body env) (fun f s' => Q (match f with | .ret v => v | _ => .none) s') E s₁) :
    wpAny (model prog w) A (call (.ref a) vals) Q E s := by
  obtain ⟨o, ho, hd⟩ := F.at_
  refine wpAny_call (codeAny_call_cells hA.room (B.h0 _ _ ho) hd (F.lim.keeps B.h0) (F.code.keeps B.h0) F.body hbind F.clo (fun y hy => ?_) (fun s₁ x => ?_) F.co F.gen F.kind)
  · have hm : y.1 ∈ names := (List.of_mem_zip (a := y.1) (b := y.2) hy).1
    rcases hkind y.1 hm with q | q
    · exact .inl q
    · refine .inr ⟨q, ?_⟩
      obtain ⟨c, hc⟩ := lookup_some (l := cellsFrom (s.heap.objs.size + 1) fd.scope.names []) (cellsFrom_key.mpr (.inr (mem_of_lookup q)))
      rw [hc]; rfl
  · obtain ⟨g, B₁, L₁, hfr⟩ := entry_loc F hnn hlen B hv x
    exact hbody _ s₁ rfl g B₁ L₁ _
end

/-! len(G) -/
def lnT : List Stmt × Scope := txtG "__len__"
def lnR (σ : Store) : Option (PV × Store) := runF T0 20 false lnT [S "self"] [.ref 1] σ
def lnφ : Frm := ⟨[(S "self", .ref 1)], [], []⟩
theorem ln_1 : lnT.1 = [sAt lnT.1 0] ∧ isRet (sAt lnT.1 0) = true ∧ isCallN (S "len") (sVal (sAt lnT.1 0)) = true ∧ eArgs (sVal (sAt lnT.1 0)) = [(eArgs (sVal (sAt lnT.1 0))).getD 0 xN] ∧ isAttr (S "_node") ((eArgs (sVal (sAt lnT.1 0))).getD 0 xN) = true ∧ noStar ((eArgs (sVal (sAt lnT.1 0))).getD 0 xN) = true := by
  refine ⟨?_, ?_, ?_, ?_, ?_, ?_⟩ <;> kernel_rfl
theorem ln_2 (N : Nat) (σ : Store) : (R T0 (N + 1)).ev lnT.2 lnφ (eArg ((eArgs (sVal (sAt lnT.1 0))).getD 0 xN) 0) σ = some (.ref 1, σ) := by kernel_rfl
theorem ln_3 (k : Nat) (σ : Store) : evCallN T0 lnT.2 (S "len") [.ref k] σ = (pFun "len" [.ref k] σ).map fun v => (v, σ) := by kernel_rfl
theorem len_dict {σ : Store} {k : Nat} {es : List (Int × PV)} (h : σ[k]? = some (.dict es)) (hl : es.length < 1000000) : pFun "len" [.ref k] σ = some (.d (.int es.length)) := by
  simp [pFun, h, hl]
theorem refs_len : ∀ (nds : List Nat) (m : Nat), (refsFrom m nds).length = nds.length
  | [], _ => rfl
  | _ :: r, m => by show (refsFrom (m + 2) r).length + 1 = _; rw [refs_len r]; rfl
theorem refs_keys : ∀ (nds : List Nat) (m : Nat), (refsFrom m nds).map (·.1) = nds.map Int.ofNat
  | [], _ => rfl
  | u :: r, m => by show Int.ofNat u :: (refsFrom (m + 2) r).map (·.1) = _; rw [refs_keys r]; rfl
theorem ln_run {nds : List Nat} {es : List (Nat × Nat)} {σ : Store} (G : GS nds es σ) (hl : nds.length < 1000) : lnR σ = some (.d (.int (Int.ofNat nds.length)), σ) := by
  obtain ⟨a1, a2, a3, a4, a5, a6⟩ := ln_1
  have h1 : (R T0 18).ev lnT.2 lnφ ((eArgs (sVal (sAt lnT.1 0))).getD 0 xN) σ = some (.ref 4, σ) := ev_attr a5 (ln_2 16 σ) G.i ow1 G.a A3n
  have h2 : evs (R T0 18) lnT.2 lnφ (eArgs (sVal (sAt lnT.1 0))) σ = some ([.ref 4], σ) := by rw [a4]; exact evs_cons a6 h1 evs_nil
  have h3 : (R T0 19).ev lnT.2 lnφ (sVal (sAt lnT.1 0)) σ = some (.d (.int (Int.ofNat nds.length)), σ) := ev_callN a3 h2 (by
    rw [ln_3, len_dict G.n (by rw [refs_len]; omega), refs_len]; rfl)
  have h4 : exs (R T0 20) lnT.2 lnT.1 lnφ σ = some (.ret (.d (.int (Int.ofNat nds.length))), lnφ, σ) := by rw [a1]; exact exs_ret (ex_ret a2 h3)
  unfold lnR runF
  rw [if_pos (by rfl)]
  show (match exs (R T0 20) lnT.2 lnT.1 lnφ σ with | some (f, _, σ') => _ | none => none) = _
  rw [h4]
  rfl
theorem at_len (P : Params) : findIn (KP P) (.ref 632) "__len__" = some (some (.ref 468)) ∧ typeIn (KP P) (.ref 468) = some (.type "function") := by constructor <;> kernel_rfl
theorem at_iter (P : Params) : findIn (KP P) (.ref 632) "__iter__" = some (some (.ref 454)) ∧ typeIn (KP P) (.ref 454) = some (.type "function") := by constructor <;> kernel_rfl

section
variable {prog : Program} {w : World} {h₀ : Heap} {A : Around} {E : Value → Shared → Prop} {s s' s₀ : Shared} {Z Z' : ZP} {ρ ρ' : List Addr} {σ σ' σ'' σ₀ σ₁ σ₂ : Store} {env : Env} {φ φ' φ₀ φ₁ : Frm} {n : Nat} {nds : List Nat} {es : List (Nat × Nat)}

theorem inst_of (B : Base prog w h₀ Z ρ σ s) (hi : σ[1]? = some (.inst 632 0)) (ha : σ[0]? = some (.attrs A3)) {x : Addr} (hx : ρ[1]? = some x) : ∃ (d : Addr) (o : Obj), InstAt s.heap x { cls := .ref 632, dict := some d } 632 (some o) := by
  obtain ⟨d, hd, ho⟩ := B.objs 1 x _ hx hi
  obtain ⟨o, hod, _⟩ := B.objs 0 d _ hd ha
  exact ⟨d, o, inst_at ho hod⟩

/-- len(G), as a call -/
theorem AOk.in1 {m : Nat} (hA : AOk (m + 1) A) : AOk m A.in1 := ⟨hA.hh, by have := hA.dp; show A.depth + m < 990; omega, by have := hA.un; show A.units + 1 + 3 * m + 100 < 9900; omega⟩
theorem len_call (H : HdOk w h₀) (hA : AOk (n + 2) A) (B : Base prog w h₀ Z ρ σ s) (G : GS nds es σ) (hl : nds.length < 1000) {v : Value} (hv : VR Z ρ (.ref 1) v) : SndV prog w h₀ A Z ρ s (call (.builtin "len") [v]) (.d (.int (Int.ofNat nds.length))) σ := fun E Q k => by
  obtain ⟨x, hx, rfl⟩ := hv
  obtain ⟨d, o, I⟩ := inst_of B G.i G.a hx
  obtain ⟨f1, f2⟩ := at_len w.params
  refine len_inst (H.X.keeps B.h0) I f1 f2 ?_
  have h := ln_run G hl
  unfold lnR at h
  have hp : ((lnT).1, (fdA w.params 468).scope) = lnT := by rw [fs_glen]; rfl
  rw [← hp] at h
  refine runF_snd (tok0 (prog := prog) H n) (ok_glen H) hA.in1 (by decide +kernel) (fun vals hv => ?_) (kd_glen _) h B (.cons ⟨x, hx, rfl⟩ .nil) E _ fun v s' Z' ρ' g B' r => ?_
  · match vals, hv with
    | [a], _ => exact bd_glen _ a
  · cases r
    refine ⟨⟨Int.natCast_nonneg _, ?_⟩, ?_⟩
    · show (nds.length : Int) < 2 ^ 63
      omega
    · exact k _ _ Z' ρ' (g.tr B' (.tok ..)) (B'.tok _) (VD.int _ _)
end
end Mine
end
section
open PySem PySem.W PyProof.Rows
open Sem (wp)
set_option maxRecDepth 100000
set_option linter.all false
namespace Mine
def itT : List Stmt × Scope := txtG "__iter__"
theorem it_1 : itT.1 = [sAt itT.1 0] ∧ isRet (sAt itT.1 0) = true ∧ isCallN (S "iter") (sVal (sAt itT.1 0)) = true ∧ eArgs (sVal (sAt itT.1 0)) = [(eArgs (sVal (sAt itT.1 0))).getD 0 xN] ∧ isAttr (S "_node") ((eArgs (sVal (sAt itT.1 0))).getD 0 xN) = true ∧ noStar ((eArgs (sVal (sAt itT.1 0))).getD 0 xN) = true := by
  refine ⟨?_, ?_, ?_, ?_, ?_, ?_⟩ <;> kernel_rfl
theorem it_2 (N : Nat) (σ : Store) : (R T0 (N + 1)).ev itT.2 lnφ (eArg ((eArgs (sVal (sAt itT.1 0))).getD 0 xN) 0) σ = some (.ref 1, σ) := by kernel_rfl
theorem it_3 : itT.2.names.lookup (S "iter") = some .globalImplicit ∧ (S "iter" == S "__debug__") = false := by constructor <;> kernel_rfl
theorem it_4 : frmOf itT.2 ([S "self"].zip [.ref 1]) = lnφ := by kernel_rfl
theorem ret_shape {st : Stmt} (h : isRet st = true) : ∃ p, st = .Return (some (sVal st)) p := by
  unfold isRet at h
  split at h
  · exact ⟨_, rfl⟩
  · cases h

section
variable {prog : Program} {w : World} {h₀ : Heap} {A : Around} {E : Value → Shared → Prop} {s s' s₀ : Shared} {Z Z' : ZP} {ρ ρ' : List Addr} {σ σ' σ'' σ₀ σ₁ σ₂ : Store} {env : Env} {φ φ' φ₀ φ₁ : Frm} {n : Nat} {nds : List Nat} {es : List (Nat × Nat)}

/-- iter(G) -/
theorem iter_G (H : HdOk w h₀) (hA : AOk (n + 2) A) (B : Base prog w h₀ Z ρ σ s) (G : GS nds es σ) {v : Value} (hv : VR Z ρ (.ref 1) v) {Q : Value → Shared → Prop}
    (k : ∀ I Z' ρ' s', Grow [] Z ρ s Z' ρ' s' → Base prog w h₀ Z' ρ' (σ.set 4 .dead) s' → Own I Z' ρ' s' → (∀ A' : Around, A'.handled = none → Itr prog w A' Z' I (natD nds) 0 s'.heap) → s.heap.get? I = none → Q (.ref I) s') :
    wpAny (model prog w) A (pyIter v) Q E s := by
  obtain ⟨x, hx, rfl⟩ := hv
  obtain ⟨d, o, I⟩ := inst_of B G.i G.a hx
  obtain ⟨f1, f2⟩ := at_iter w.params
  refine iter_inst (H.X.keeps B.h0) I f1 f2 ?_
  refine call_raw (n := n + 1) (ok_giter H) hA (names := [S "self"]) (pvs := [.ref 1]) (by decide +kernel) rfl B (.cons ⟨x, hx, rfl⟩ .nil) (bd_giter _ _) (kd_giter _) fun env s₁ he g₁ B₁ L₁ E' => ?_
  have hes : env.scope = itT.2 := he.trans (fs_giter _)
  rw [fs_giter] at L₁
  replace L₁ : Loc Z ρ env lnφ s₁ := by rw [← it_4]; exact L₁
  have hA1 : AOk (n + 1) (A.deeper env) := hA.deeper env
  have TT := tok0 (prog := prog) H (n + 1)
  obtain ⟨a1, a2, a3, a4, a5, a6⟩ := it_1
  obtain ⟨p, hst⟩ := ret_shape a2
  show wpAny (model prog w) (A.deeper env) (execs itT.1 env) _ _ _
  rw [a1, hst]
  refine wpAny_execs_cons (wpAny_Return_some ?_)
  have h1 : (R T0 18).ev itT.2 lnφ ((eArgs (sVal (sAt itT.1 0))).getD 0 xN) σ = some (.ref 4, σ) := ev_attr a5 (it_2 16 σ) G.i ow1 G.a A3n
  have h2 : evs (R T0 18) itT.2 lnφ (eArgs (sVal (sAt itT.1 0))) σ = some ([.ref 4], σ) := by rw [a4]; exact evs_cons a6 h1 evs_nil
  refine callNq (sound TT 18) TT hA1 hes (fv := .builtin "iter") a3 it_3 (by kernel_rfl) (keep_builtin "iter") h2 B₁ L₁ fun vals s₂ Z₂ ρ₂ g₂ B₂ r₂ => ?_
  obtain ⟨a, rfl, ha⟩ : ∃ a, vals = [.ref a] ∧ ρ₂[4]? = some a := by
    cases r₂ with | cons p q => cases q; obtain ⟨a, ha, rfl⟩ := p; exact ⟨a, rfl, ha⟩
  refine call_iter (iter_keys ha G.n B₂ fun I Z₃ s₃ g₃ B₃ O₃ it₃ ty₃ hn => ?_)
  have e1 : (refsFrom 8 nds).map (fun p => PyData.int p.1) = natD nds := by
    have : (refsFrom 8 nds).map (fun p => PyData.int p.1) = ((refsFrom 8 nds).map (·.1)).map PyData.int := by rw [List.map_map]; rfl
    rw [this, refs_keys]
    unfold natD
    rw [List.map_map]; rfl
  rw [e1] at it₃
  refine nextOf_keys ty₃ ?_
  have g12 := g₁.tr B₁ g₂
  have hnI : s.heap.get? I = none := g12.back0 B₂ hn
  exact k I Z₃ ρ₂ s₃ (g12.tr B₂ g₃) B₃ O₃ it₃ hnI
end
end Mine
end
section
open PySem PySem.W PyProof.Rows
open Sem (wp)
set_option maxRecDepth 100000
set_option linter.all false
namespace Mine
/-! the shape of connected_components -/
def pFor : Stmt → Pos × Pos
  | .For (.Name _ p) _ _ _ q => (p, q)
  | _ => (default, default)
def pIf : Stmt → Pos
  | .If _ _ _ p => p
  | _ => default
def pYld : Stmt → Pos × Pos
  | .Expr (.Yield _ p) q => (p, q)
  | _ => (default, default)
theorem cc_shape : cT.1 = [cS 0, cS 1] ++ [.For (.Name (S "v") (pFor (cS 2)).1) (sVal (cS 2)) [.If cTest (cPre ++ [.Expr (.Yield (some cY) (pYld (sAt (sBody cIf) 2)).1) (pYld (sAt (sBody cIf) 2)).2]) [] (pIf cIf)] [] (pFor (cS 2)).2] := by kernel_rfl
def cφ0 : Frm := ⟨[(S "G", .ref 1)], [], []⟩
theorem cc_0 (σ : Store) : (R TG 70).ex cT.2 (cS 0) cφ0 σ = some (.nxt, ⟨[(S "G", .ref 1), (S "seen", .ref σ.length)], [], []⟩, σ ++ [.bag []]) := by kernel_rfl
theorem cc_1 : isAs (S "n") (cS 1) = true ∧ plainVal (sVal (cS 1)) = true ∧ isCallN (S "len") (sVal (cS 1)) = true := by refine ⟨?_, ?_, ?_⟩ <;> kernel_rfl
theorem cc_2 (ks : Nat) (σ : Store) : evs (R TG 70) cT.2 ⟨[(S "G", .ref 1), (S "seen", .ref ks)], [], []⟩ (eArgs (sVal (cS 1))) σ = some ([.ref 1], σ) := by kernel_rfl
theorem cc_3 : cT.2.names.lookup (S "len") = some .globalImplicit ∧ (S "len" == S "__debug__") = false := by constructor <;> kernel_rfl
theorem cc_4 (n : Int) (ks : Nat) : stN cT.2 ⟨[(S "G", .ref 1), (S "seen", .ref ks)], [], []⟩ (S "n") (.d (.int n)) = some (cφ n ks []) := by kernel_rfl
theorem cc_5 (n : Int) (ks : Nat) (σ : Store) : (R TG 70).ev cT.2 (cφ n ks []) (sVal (cS 2)) σ = some (.ref 1, σ) := by kernel_rfl
theorem cc_6 : plainIter (sVal (cS 2)) = true := by kernel_rfl
theorem cc_7 : frmOf cT.2 ([S "G"].zip [.ref 1]) = cφ0 := by kernel_rfl
theorem cc_8 : cT.2.isCoroutine = false := by kernel_rfl

theorem GS.up {nds : List Nat} {es : List (Nat × Nat)} {σ : Store} (G : GS nds es σ) (l : Store) : GS nds es (σ ++ l) := by
  have up : ∀ {k : Nat} {po : PO}, σ[k]? = some po → (σ ++ l)[k]? = some po := fun h => by rw [List.getElem?_append_left (List.getElem?_eq_some_iff.mp h).1]; exact h
  exact ⟨up G.a, up G.i, up G.n, up G.j, fun k x hk => let ⟨ds, p1, p2⟩ := G.b k x hk; ⟨ds, up p1, p2⟩⟩
theorem GS.toGB {nds : List Nat} {es : List (Nat × Nat)} {σ : Store} (G : GS nds es σ) : GB nds es [] (σ.set 4 .dead) := by
  have oth : ∀ {k : Nat} {po : PO}, k ≠ 4 → σ[k]? = some po → (σ.set 4 PO.dead)[k]? = some po := fun h1 h => by rw [List.getElem?_set_ne (Ne.symm h1)]; exact h
  exact ⟨oth (by omega) G.a, oth (by omega) G.i, oth (by omega) G.j, fun k x hk _ => let ⟨ds, p1, p2⟩ := G.b k x hk; ⟨ds, oth (by omega) p1, p2⟩⟩
theorem GS.len {nds : List Nat} {es : List (Nat × Nat)} {σ : Store} (G : GS nds es σ) (h : nds ≠ []) : 6 + 2 * nds.length ≤ σ.length ∧ 7 ≤ σ.length := by
  have hl : nds.length - 1 < nds.length := by have := List.length_pos_iff.mpr h; omega
  obtain ⟨ds, p1, _⟩ := G.b (nds.length - 1) _ (List.getElem?_eq_getElem hl)
  have := (List.getElem?_eq_some_iff.mp p1).1
  omega

section
variable {prog : Program} {w : World} {h₀ : Heap} {A : Around} {E : Value → Shared → Prop} {s s' s₀ : Shared} {Z Z' : ZP} {ρ ρ' : List Addr} {σ σ' σ'' σ₀ σ₁ σ₂ : Store} {env : Env} {φ φ' φ₀ φ₁ : Frm} {n : Nat} {nds : List Nat} {es : List (Nat × Nat)}

theorem tokG (H : HdOk w h₀) (n : Nat) : TOk prog w h₀ TG (n + 1) := tok_of (O := OG) H (fun a vs σ r h => by
    unfold OG at h
    split at h
    · rename_i e; subst e; exact keep_func (ok_bfs H)
    · cases h) (fun a vs σ pv σ' h A Z ρ s vals hA B hv => by
    unfold OG at h
    split at h
    · rename_i e; subst e
      unfold bfsR at h
      have hp : ((txtOf "_plain_bfs").1, (fdA w.params 35).scope) = bT := by rw [fs_bfs]; rfl
      rw [← hp] at h
      exact runF_snd (tok0 (prog := prog) H n) (ok_bfs H) hA (by decide +kernel) (fun vals hv => match vals, hv with
        | [a, b, c], _ => bd_bfs _ a b c) (kd_bfs _) h B hv
    · cases h)

theorem GenMade.back {body : List Stmt} {scg : Scope} {φg : Frm} {gobj : Addr} {genv : Env} {g : Nat} {Z₁ Z₂ : ZP} {ρ₁ ρ₂ : List Addr} {s₁ s₂ : Shared} {σ₂ : Store} (m : GenMade prog w h₀ A Z₁ ρ₁ s₁ body scg φg σ₂ gobj genv g Z₂ ρ₂ s₂) (g₁ : Grow [] Z ρ s Z₁ ρ₁ s₁) (B₁ : Base prog w h₀ Z₁ ρ₁ σ₁ s₁) :
    GenMade prog w h₀ A Z ρ s body scg φg σ₂ gobj genv g Z₂ ρ₂ s₂ :=
  ⟨m.gs, g₁.tr B₁ m.grow, m.base, m.loc, m.isg, m.own, g₁.back0 B₁ m.fresh, fun b hb => ⟨g₁.back0 B₁ (m.news b hb).1, (m.news b hb).2⟩, m.sc, m.hin⟩

/-- the generator's body, from its start -/
theorem cc_seg (H : HdOk w h₀) (n : Nat) (prog : Program) (hnd : nds.Nodup) (h5 : ∀ v ∈ nds, v < 5) (hne : nds ≠ []) (hln : nds.length ≤ 5) (hes : ∀ p ∈ es, p.1 < 5 ∧ p.2 < 5) (hel : es.length < 1000) (G : GS nds es σ) {out : List (List Nat)} (hcc : ccF nds es nds [] [] = some out) :
    ∃ (Rs : List Store) (Ks : List Nat), Rs.length = out.length + 1 ∧ Ks.length = out.length ∧ (∀ i, i < out.length → ∃ σi k xs, Rs[i]? = some σi ∧ Ks[i]? = some k ∧ out[out.length - 1 - i]? = some xs ∧ σi[k]? = some (.set (intsN xs))) ∧
      ∀ (A : Around), AOk (n + 5) A → ∀ (pvY : Nat → PV) (σY σC : Nat → Store), (∀ i σi, Rs[i]? = some σi → σC i = σi) → (∀ i, σY (i + 1) = σC i) → (∀ i k, Ks[i]? = some k → pvY (i + 1) = .ref k) →
        ∀ (genv : Env) (g : Nat) (cX : List Addr) (hsH : Heap) (C : Nat → ZP → List Addr → Shared → Prop) (s₂ s₀ : Shared) (Z₂ : ZP) (ρ₂ : List Addr), GenC prog w h₀ cX hsH C → genv.scope = cT.2 → interactive genv = false → (∀ b ∈ allAdrs genv, b ∉ cX) → (∀ b ∈ envAdrs genv, hsH.get? b = none) →
          Base prog w h₀ Z₂ ρ₂ σ s₂ → Loc Z₂ ρ₂ genv cφ0 s₂ → C out.length Z₂ ρ₂ s₂ → s₂.gens[g]? = some .running → (∀ b, (b ∈ cX ∨ ∃ o, hsH.get? b = some o) → ∃ o, s₂.heap.get? b = some o) →
          Seg (model prog w) A.in1 (genR prog w h₀ C g σC) (genY prog w h₀ cX C g pvY σY σC) (out.length + 1) s₀ (.func cT.1 genv) ((model prog w).den (.func cT.1 genv)) [] s₂ := by
  have G1 : GS nds es (σ ++ [.bag []]) := G.up _
  obtain ⟨l1, l2⟩ := G.len hne
  have hbag : ((σ ++ [PO.bag []]).set 4 PO.dead)[σ.length]? = some (.bag (intsN [])) := by
    rw [List.getElem?_set_ne (by omega), List.getElem?_append_right (Nat.le_refl _)]; simp [intsN]
  obtain ⟨Rs, Ks, r1, r2, r3, r4, r5⟩ := pl_of nds es hnd hes hel σ.length l1 l2 nds [] [] [] ((σ ++ [PO.bag []]).set 4 PO.dead) (.inl rfl) h5 G1.toGB hbag hcc
  refine ⟨Rs, Ks, r1, r2, r4, fun A hA pvY σY σC k1 k2 k3 genv g cX hsH C s₂ s₀ Z₂ ρ₂ GC he hin hcX hhs B L hC hg hal => ?_⟩
  have hlen5 : nds.length < 1000 := by omega
  have TT := tokG (prog := prog) H (n + 1)
  have S := sound TT 70
  have hA2 : AOk (n + 2) (A.in1.over (.func cT.1 genv) []) := AOk.gen (n := n + 2) (hA.le (by omega)).in1 cT.1 genv
  refine gen_start S cc_shape hA2 he (by rw [he]; exact cc_8) hin GC hcX hhs (σ₁ := σ ++ [.bag []]) (φ₁ := cφ (Int.ofNat nds.length) σ.length []) (fun s Z ρ B L => ?_) (fun y => folded cc_6 y) (fun s Z ρ B L E Q k => ?_) (r5 pvY σY σC k1 k2 k3) B L hC hg hal
  · refine SndF.seq (S.ex (cc_0 σ) hA2 he B L) fun s₁ Z₁ ρ₁ B₁ L₁ => SndF.seq (snd_assign_of he cc_1.1 cc_1.2.1 (v := .d (.int (Int.ofNat nds.length))) (fun E Q k => ?_) (cc_4 _ _) L₁) fun s₂ Z₂ ρ₂ B₂ L₂ => snd_exs S hA2 he exs_nil B₂ L₂
    refine callNq S TT hA2 he (fv := .builtin "len") cc_1.2.2 cc_3 (by kernel_rfl) (keep_builtin "len") (cc_2 _ _) B₁ L₁ fun vals s₂ Z₂ ρ₂ g₂ B₂ r₂ => ?_
    obtain ⟨v, rfl, hv⟩ : ∃ v, vals = [v] ∧ VR Z₂ ρ₂ (.ref 1) v := by cases r₂ with | cons p q => cases q; exact ⟨_, rfl, p⟩
    exact len_call (n := n) H hA2 B₂ G1 hlen5 hv E Q fun u s₃ Z₃ ρ₃ g₃ B₃ r₃ => k u s₃ Z₃ ρ₃ (g₂.tr B₂ g₃) B₃ r₃
  · refine S.ev (cc_5 _ _ _) hA2 he B L E _ fun v s₁ Z₁ ρ₁ g₁ B₁ r₁ => ?_
    refine iter_G (n := n) H hA2 B₁ G1 r₁ fun I Z₂ ρ₂ s₂ g₂ B₂ O₂ it₂ hn => ?_
    exact k I s₂ Z₂ ρ₂ (g₁.tr B₁ g₂) B₂ O₂ (it₂ _ hA2.hh) (g₁.back0 B₁ hn)
end
end Mine
end
section
open PySem PySem.W PyProof.Rows
open Sem (wp)
set_option maxRecDepth 100000
set_option linter.all false
namespace Mine
def OL (a : Addr) (vs : List PV) (σ : Store) : Option (PV × Store) :=
  if a = 659 then dataO joinedR vs σ
  else if a = 632 then (match vs, σ with | [], [] => some (.ref 1, σG) | _, _ => none)
  else if a = 489 then kwO anT anN vs σ
  else if a = 527 then kwO aeT aeN vs σ
  else none
def TL : Txt := { T0 with O := OL }

section
variable {prog : Program} {w : World} {h₀ : Heap} {A : Around} {E : Value → Shared → Prop} {s s' s₀ : Shared} {Z Z' : ZP} {ρ ρ' : List Addr} {σ σ' σ'' σ₀ σ₁ σ₂ : Store} {n : Nat}

theorem kw_snd (H : HdOk w h₀) {a : Addr} {fd : FuncData} {p : List Stmt × Scope} {names : List Str} {vs : List PV} {vals : List Value} {pv : PV} (F : FnOk h₀ a fd p.1) (hp : fd.scope = p.2) (hA : AOk (n + 1) A) (hnn : (names ++ [S "attr"]).Nodup)
    (hbd : ∀ vals : List Value, vals.length = names.length → bindArgs fd ⟨vals, []⟩ = (alloc { cls := .type "dict", data := .dict #[] } >>= fun d => pure (names.zip vals ++ [(S "attr", .ref d)])))
    (hkd : ∀ x ∈ names ++ [S "attr"], fd.scope.names.lookup x = some .local ∨ fd.scope.names.lookup x = some .cell) (h : kwO p names vs σ = some (pv, σ')) (B : Base prog w h₀ Z ρ σ s) (hv : All2 (VR Z ρ) vs vals) :
    SndV prog w h₀ A Z ρ s (call (.ref a) vals) pv σ' := by
  unfold kwO runF at h
  split at h
  · rename_i hl
    have hvl := hv.length
    have hlen : names.length = vals.length := by simp at hl; omega
    split at h
    · rename_i f φ' σ₁ he
      split at h
      · rename_i pv₁ hr
        rw [if_neg Bool.false_ne_true] at h
        cases h
        rw [← hp] at he
        exact call_evB (sound (tok0 (prog := prog) H n) 30) F hA hnn B (bind_kw H.sm B hv hlen (hbd vals hlen.symm)) hkd he hr
      · cases h
    · cases h
  · cases h

theorem tokL (H : HdOk w h₀) (n : Nat) : TOk prog w h₀ TL (n + 2) := tok_of (O := OL) H (fun a vs σ r h => by
    unfold OL at h
    split at h
    · rename_i e; subst e; exact keep_func (ok_joined H)
    split at h
    · rename_i e; subst e; exact keep_cls H
    split at h
    · rename_i e; subst e; exact keep_func (ok_addn H)
    split at h
    · rename_i e; subst e; exact keep_func (ok_adde H)
    · cases h) (fun a vs σ pv σ' h A Z ρ s vals hA B hv => by
    unfold OL at h
    split at h
    · rename_i e; subst e
      refine dataO_snd h B hv fun {pv σ'} hr B0 hv0 => ?_
      unfold joinedR at hr
      have hp : ((txtOf "_law_joined").1, (fdA w.params 659).scope) = txtOf "_law_joined" := by rw [fs_joined]
      rw [← hp] at hr
      exact runF_snd (tok0 (prog := prog) H (n + 1)) (ok_joined H) hA (by decide +kernel) (fun vals hv => match vals, hv with
        | [a, b, c], _ => bd_joined _ a b c) (kd_joined _) hr B0 hv0
    split at h
    · rename_i e; subst e
      split at h
      · cases h
        cases hv
        have : ρ = [] := List.eq_nil_of_length_eq_zero B.len
        subst this
        exact graph_call (n := n) H hA B
      · cases h
    split at h
    · rename_i e; subst e
      exact kw_snd H (p := anT) (ok_addn H) (fs_addn _) hA (by decide +kernel) (fun vals hv => match vals, hv with
        | [a, b], _ => bd_addn _ a b) (kd_addn _) h B hv
    split at h
    · rename_i e; subst e
      exact kw_snd H (p := aeT) (ok_adde H) (fs_adde _) hA (by decide +kernel) (fun vals hv => match vals, hv with
        | [a, b, c], _ => bd_adde _ a b c) (kd_adde _) h B hv
    · cases h)
end

/-! _law_lots, the graph is made -/
def lT : List Stmt × Scope := txtOf "_law_lots"
def lS (n : Nat) : Stmt := sAt lT.1 n
def lCel (ties : List PyData) (kept : Bool) : List (Str × PV) := [(S "ties", .d (.list ties)), (S "kept", .d (.bool kept))]
def lφ (nds : List Nat) (ties : List PyData) (kept : Bool) (ext cx : List (Str × PV)) : Frm := ⟨(S "some", .d (.list (natD nds))) :: ext, lCel ties kept ++ cx, []⟩
def lG : Str × PV := (S "G", .ref 1)
theorem l_body : lT.1 = [lS 0, lS 1, lS 2] ++ (lS 3 :: [lS 4, lS 5, lS 6]) := by kernel_rfl
section
variable (N : Nat) (nds : List Nat) (ties : List PyData) (kept : Bool) (ext cx : List (Str × PV)) (σ : Store) (u v : Int) (q q' : PV)
theorem l_0 : (R TL 80).ex lT.2 (lS 0) (lφ nds ties kept [] []) [] = some (.nxt, lφ nds ties kept [lG] [], σG) := by kernel_rfl
theorem l_1 : isExC (lS 1) = true ∧ isCallM (S "add_nodes_from") (sVal (lS 1)) = true := by constructor <;> kernel_rfl
theorem l_2 : (R TL (N + 1)).ev lT.2 (lφ nds ties kept (lG :: ext) cx) (cmObj (sVal (lS 1))) σ = some (.ref 1, σ) := by kernel_rfl
theorem l_3 : calleeM TL (.ref 1) (S "add_nodes_from") σG = some (.fn 489) := by kernel_rfl
theorem l_4 : evs (R TL (N + 1)) lT.2 (lφ nds ties kept (lG :: ext) cx) (eArgs (sVal (lS 1))) σ = some ([.d (.list (natD nds))], σ) := by kernel_rfl
def lF : Stmt := sAt (sBody (lS 2)) 0
def lI : Stmt := sAt (sBody lF) 0
def lC0 : Expr := (bArgs (sVal lI)).getD 0 xN
def lC1 : Expr := (bArgs (sVal lI)).getD 1 xN
def lE : Stmt := sAt (sBody lI) 0
theorem l_5 : isFor (S "u") (lS 2) = true ∧ isFor (S "v") lF = true ∧ isIf lI = true ∧ isBo .And (sVal lI) = true ∧ isCmp .Lt lC0 = true ∧ isCmp .Eq lC1 = true ∧ isCallN (S "_law_joined") (eArg lC1 0) = true ∧ isExC lE = true ∧ isCallM (S "add_edge") (sVal lE) = true := by
  refine ⟨?_, ?_, ?_, ?_, ?_, ?_, ?_, ?_, ?_⟩ <;> kernel_rfl
theorem l_6 : sBody (lS 2) = [lF] ∧ sBody lF = [lI] ∧ sBody lI = [lE] ∧ sElse lI = [] ∧ bArgs (sVal lI) = [lC0, lC1] := by refine ⟨?_, ?_, ?_, ?_, ?_⟩ <;> kernel_rfl
theorem l_7 : (R TL (N + 1)).ev lT.2 (lφ nds ties kept (lG :: ext) cx) (sVal (lS 2)) σ = some (.d (.list (natD nds)), σ) := by kernel_rfl
theorem l_8 : (R TL (N + 1)).ev lT.2 (lφ nds ties kept (lG :: ext) cx) (sVal lF) σ = some (.d (.list (natD nds)), σ) := by kernel_rfl
theorem l_u0 : stN lT.2 (lφ nds ties kept [lG] cx) (S "u") (.d (.int u)) = some (lφ nds ties kept [lG, (S "u", .d (.int u))] cx) := by kernel_rfl
theorem l_u1 : stN lT.2 (lφ nds ties kept (lG :: (S "u", q) :: ext) cx) (S "u") (.d (.int u)) = some (lφ nds ties kept (lG :: (S "u", .d (.int u)) :: ext) cx) := by kernel_rfl
theorem l_v0 : stN lT.2 (lφ nds ties kept [lG, (S "u", q)] cx) (S "v") (.d (.int v)) = some (lφ nds ties kept [lG, (S "u", q), (S "v", .d (.int v))] cx) := by kernel_rfl
theorem l_v1 : stN lT.2 (lφ nds ties kept [lG, (S "u", q), (S "v", q')] cx) (S "v") (.d (.int v)) = some (lφ nds ties kept [lG, (S "u", q), (S "v", .d (.int v))] cx) := by kernel_rfl
def lUV (u v : Int) : List (Str × PV) := [lG, (S "u", .d (.int u)), (S "v", .d (.int v))]
theorem l_c1 : (R TL (N + 1)).ev lT.2 (lφ nds ties kept (lUV u v) cx) (eArg lC0 0) σ = some (.d (.int u), σ) := by kernel_rfl
theorem l_c2 : (R TL (N + 1)).ev lT.2 (lφ nds ties kept (lUV u v) cx) (eArg lC0 1) σ = some (.d (.int v), σ) := by kernel_rfl
theorem l_c3 : evs (R TL (N + 1)) lT.2 (lφ nds ties kept (lUV u v) cx) (eArgs (eArg lC1 0)) σ = some ([.d (.list ties), .d (.int u), .d (.int v)], σ) := by kernel_rfl
theorem l_c4 : (R TL (N + 1)).ev lT.2 (lφ nds ties kept (lUV u v) cx) (eArg lC1 1) σ = some (.d (.bool kept), σ) := by kernel_rfl
theorem l_c5 (vs : List PV) : evCallN TL lT.2 (S "_law_joined") vs σ = dataO joinedR vs σ := by kernel_rfl
theorem l_e1 : (R TL (N + 1)).ev lT.2 (lφ nds ties kept (lUV u v) cx) (cmObj (sVal lE)) σ = some (.ref 1, σ) := by kernel_rfl
theorem l_e2 : evs (R TL (N + 1)) lT.2 (lφ nds ties kept (lUV u v) cx) (eArgs (sVal lE)) σ = some ([.d (.int u), .d (.int v)], σ) := by kernel_rfl
end
theorem joined_D (ties : List PyData) (u v : Int) (σ : Store) : dataO joinedR [.d (.list ties), .d (.int u), .d (.int v)] σ = some (.d (.bool (jn ties u v)), σ) := by
  unfold dataO
  rw [joined_run]; rfl
theorem ca_ae : TL.ca 632 (S "add_edge") = some (.ref 527) := by kernel_rfl
theorem A3_ae : A3.lookup (S "add_edge") = none := by kernel_rfl
theorem calM_fn {T : Txt} {σ : Store} {name : Str} {f : Addr} (h1 : σ[1]? = some (.inst 632 0)) (h0 : σ[0]? = some (.attrs A3)) (hn : A3.lookup name = none) (ht : T.ca 632 name = some (.ref f)) : calleeM T (.ref 1) name σ = some (.fn f) := by
  simp only [calleeM, h1, h0, hn, ht]
theorem pCmp_lt (a b : Int) : pCmp .Lt (.int a) (.int b) = some (decide (a < b)) := rfl
def edR (nds : List Nat) (Ej : Nat → Nat → Bool) (u : Nat) (vs : List Nat) : List (Nat × Nat) := (vs.filter fun v => decide (u < v) && Ej u v).map fun v => (u, v)
def edgesOf (nds : List Nat) (Ej : Nat → Nat → Bool) : List (Nat × Nat) := nds.flatMap fun u => edR nds Ej u nds
def Ek (ties : List PyData) (kept : Bool) (u v : Nat) : Bool := jn ties (Int.ofNat u) (Int.ofNat v) == kept

def exV : Option PV → List (Str × PV)
  | none => []
  | some q => [(S "v", q)]
theorem l_in (N : Nat) (nds : List Nat) (ties : List PyData) (kept : Bool) (cx : List (Str × PV)) (hnd : nds.Nodup) (u : Nat) (hu : u ∈ nds) : ∀ (vs : List Nat) (q : Option PV) (es : List (Nat × Nat)) (σ : Store), vs.Pairwise (· < ·) → (∀ v ∈ vs, v ∈ nds) → GS nds es σ →
    (∀ p ∈ es, p.1 < p.2 ∧ (p.1 < u ∨ (p.1 = u ∧ ∀ v ∈ vs, p.2 < v))) → es.length + vs.length < 900 →
    ∃ q' σ', eFor (R TL (N + 8)) lT.2 (S "v") (sBody lF) (natD vs) (lφ nds ties kept (lG :: (S "u", .d (.int (Int.ofNat u))) :: exV q) cx) σ =
      some (.nxt, lφ nds ties kept (lG :: (S "u", .d (.int (Int.ofNat u))) :: exV q') cx, σ') ∧ GS nds (es ++ edR nds (Ek ties kept) u vs) σ'
  | [], q, es, σ, _, _, G, _, _ => by
    refine ⟨q, σ, ?_, by simpa [edR] using G⟩
    show eFor _ _ _ _ [] _ _ = _
    rw [eFor_nil]
  | v :: vs, q, es, σ, hs, hm, G, hes, hl => by
    have hv : v ∈ nds := hm v List.mem_cons_self
    have hs' := (List.pairwise_cons.mp hs)
    rw [List.length_cons] at hl
    obtain ⟨x1, x2, x3, x4, x5, x6, x7, x8, x9⟩ := l_5
    obtain ⟨y1, y2, y3, y4, y5⟩ := l_6
    have hst : stN lT.2 (lφ nds ties kept (lG :: (S "u", .d (.int (Int.ofNat u))) :: exV q) cx) (S "v") (.d (.int (Int.ofNat v))) = some (lφ nds ties kept (lUV (Int.ofNat u) (Int.ofNat v)) cx) := by
      cases q with
      | none => exact l_v0 nds ties kept cx _ _
      | some q => exact l_v1 nds ties kept cx _ _ q
    have hc : (R TL (N + 7)).tr lT.2 (lφ nds ties kept (lUV (Int.ofNat u) (Int.ofNat v)) cx) (sVal lI) σ = some (decide (u < v) && Ek ties kept u v, σ) := by
      refine tr_and x4 ?_
      rw [y5, show (decide (u < v) && Ek ties kept u v) = (decide (Int.ofNat u < Int.ofNat v) && ((jn ties (Int.ofNat u) (Int.ofNat v) == kept) && true)) by
        rw [Bool.and_true]
        have : decide (Int.ofNat u < Int.ofNat v) = decide (u < v) := decide_eq_decide.mpr Int.ofNat_lt
        rw [this]; rfl]
      refine evAll_cons (tr_cmp x5 (l_c1 (N + 4) nds ties kept cx σ _ _) (l_c2 (N + 4) nds ties kept cx σ _ _) (by exact pCmp_lt _ _)) fun _ => evAll_cons ?_ fun _ => evAll_nil
      exact tr_cmp x6 (ev_callN x7 (l_c3 (N + 3) nds ties kept cx σ _ _) (by rw [l_c5]; exact joined_D _ _ _ _)) (l_c4 (N + 4) nds ties kept cx σ _ _) (by exact pCmp_eq_bool _ _)
    have hedr : edR nds (Ek ties kept) u (v :: vs) = (if (decide (u < v) && Ek ties kept u v) = true then [(u, v)] else []) ++ edR nds (Ek ties kept) u vs := by
      unfold edR
      rw [List.filter_cons]
      split <;> simp
    cases hcc : decide (u < v) && Ek ties kept u v with
    | false =>
      rw [hcc] at hc hedr
      have hbody : exs (R TL (N + 8)) lT.2 (sBody lF) (lφ nds ties kept (lUV (Int.ofNat u) (Int.ofNat v)) cx) σ = some (.nxt, lφ nds ties kept (lUV (Int.ofNat u) (Int.ofNat v)) cx, σ) := by
        rw [y2]; exact exs_cons (ex_ifF x3 hc (by rw [y4]; exact exs_nil)) exs_nil
      obtain ⟨q', σ', hr, G'⟩ := l_in N nds ties kept cx hnd u hu vs (some (.d (.int (Int.ofNat v)))) es σ hs'.2 (fun w h => hm w (List.mem_cons_of_mem _ h)) G (fun p hp => ⟨(hes p hp).1, (hes p hp).2.imp id fun h => ⟨h.1, fun w hw => h.2 w (List.mem_cons_of_mem _ hw)⟩⟩) (by omega)
      refine ⟨q', σ', ?_, by rw [hedr]; simpa using G'⟩
      show eFor _ _ _ _ (.int (Int.ofNat v) :: natD vs) _ _ = _
      exact eFor_cons hst hbody hr
    | true =>
      rw [hcc] at hc hedr
      have huv : u < v := by
        rw [Bool.and_eq_true] at hcc
        exact of_decide_eq_true hcc.1
      have hf : v ∉ kbOf es u := fun hmem => by
        unfold kbOf at hmem
        obtain ⟨p, hp, hq⟩ := List.mem_filterMap.mp hmem
        obtain ⟨h1, h2⟩ := hes p hp
        split at hq
        · rename_i e1
          cases hq
          rcases h2 with h | ⟨_, h⟩
          · omega
          · exact Nat.lt_irrefl _ (h p.2 List.mem_cons_self)
        · split at hq
          · rename_i e1 e2
            cases hq
            omega
          · cases hq
      obtain ⟨σ₁, hk, G₁⟩ := ae_gs G hnd hu hv (by omega) hf (by omega)
      have hE : (R TL (N + 7)).ex lT.2 lE (lφ nds ties kept (lUV (Int.ofNat u) (Int.ofNat v)) cx) σ = some (.nxt, lφ nds ties kept (lUV (Int.ofNat u) (Int.ofNat v)) cx, σ₁) :=
        ex_expr x8 (ev_callM x9 (l_e1 (N + 4) nds ties kept cx σ _ _) (calM_fn G.i G.a A3_ae ca_ae) (l_e2 (N + 4) nds ties kept cx σ _ _) (by exact hk))
      have hbody : exs (R TL (N + 8)) lT.2 (sBody lF) (lφ nds ties kept (lUV (Int.ofNat u) (Int.ofNat v)) cx) σ = some (.nxt, lφ nds ties kept (lUV (Int.ofNat u) (Int.ofNat v)) cx, σ₁) := by
        rw [y2]; exact exs_cons (ex_ifT x3 hc (by rw [y3]; exact exs_cons hE exs_nil)) exs_nil
      obtain ⟨q', σ', hr, G'⟩ := l_in N nds ties kept cx hnd u hu vs (some (.d (.int (Int.ofNat v)))) (es ++ [(u, v)]) σ₁ hs'.2 (fun w h => hm w (List.mem_cons_of_mem _ h)) G₁ (fun p hp => by
        rcases List.mem_append.mp hp with h | h
        · exact ⟨(hes p h).1, (hes p h).2.imp id fun h => ⟨h.1, fun w hw => h.2 w (List.mem_cons_of_mem _ hw)⟩⟩
        · rw [List.mem_singleton.mp h]; exact ⟨huv, .inr ⟨rfl, fun w hw => hs'.1 w hw⟩⟩) (by simp; omega)
      refine ⟨q', σ', ?_, by rw [hedr]; simpa using G'⟩
      show eFor _ _ _ _ (.int (Int.ofNat v) :: natD vs) _ _ = _
      exact eFor_cons hst hbody hr
end Mine
end
section
open PySem PySem.W PyProof.Rows
open Sem (wp)
set_option maxRecDepth 100000
set_option linter.all false
namespace Mine
theorem blanks_at : ∀ (nds : List Nat) (k x : Nat), nds[k]? = some x → (blanks nds)[2 * k]? = some (.dict [])
  | [], k, x, h => by simp at h
  | _ :: r, 0, x, h => rfl
  | _ :: r, k + 1, x, h => by
    rw [List.getElem?_cons_succ] at h
    have := blanks_at r k x h
    show (PO.dict [] :: PO.dict [] :: blanks r)[2 * (k + 1)]? = _
    have e : 2 * (k + 1) = 2 * k + 1 + 1 := by omega
    rw [e, List.getElem?_cons_succ, List.getElem?_cons_succ]; exact this
theorem gs_N (nds : List Nat) : GS nds [] (σN nds) := by
  refine ⟨rfl, rfl, rfl, rfl, fun k x h => ⟨[], ?_, rfl⟩⟩
  unfold σN
  rw [List.getElem?_append_right (by simp)]
  have : 7 + 2 * k - List.length ([PO.attrs A3, PO.inst 632 0, PO.dict [], PO.dict [], PO.dict (refsFrom 8 nds), PO.dict (refsFrom 7 nds), PO.dict []] : Store) = 2 * k := by simp
  rw [this]
  exact blanks_at nds k x h
theorem an_kw {nds : List Nat} (h : nds ∈ subs) : kwO anT anN [.ref 1, .d (.list (natD nds))] σG = some (.d .none, σN nds) := an_run nds h

theorem edR_len (nds : List Nat) (Ej : Nat → Nat → Bool) (u : Nat) (vs : List Nat) : (edR nds Ej u vs).length ≤ vs.length := by
  unfold edR
  rw [List.length_map]
  exact List.length_filter_le _ _
theorem edR_mem {nds : List Nat} {Ej : Nat → Nat → Bool} {u : Nat} {vs : List Nat} {p : Nat × Nat} (h : p ∈ edR nds Ej u vs) : p.1 = u ∧ u < p.2 ∧ p.2 ∈ vs := by
  unfold edR at h
  obtain ⟨v, hv, rfl⟩ := List.mem_map.mp h
  obtain ⟨h1, h2⟩ := List.mem_filter.mp hv
  rw [Bool.and_eq_true] at h2
  exact ⟨rfl, of_decide_eq_true h2.1, h1⟩

def exU : Option (PV × Option PV) → List (Str × PV)
  | none => []
  | some (q, r) => (S "u", q) :: exV r
theorem l_out (N : Nat) (nds : List Nat) (ties : List PyData) (kept : Bool) (cx : List (Str × PV)) (hs : nds.Pairwise (· < ·)) (h5 : nds.length ≤ 5) : ∀ (us : List Nat) (q : Option (PV × Option PV)) (es : List (Nat × Nat)) (σ : Store), us.Pairwise (· < ·) → (∀ u ∈ us, u ∈ nds) → GS nds es σ →
    (∀ p ∈ es, p.1 < p.2 ∧ ∀ u ∈ us, p.1 < u) → es.length + us.length * 100 < 800 →
    ∃ q' σ', eFor (R TL (N + 9)) lT.2 (S "u") (sBody (lS 2)) (natD us) (lφ nds ties kept (lG :: exU q) cx) σ =
      some (.nxt, lφ nds ties kept (lG :: exU q') cx, σ') ∧ GS nds (es ++ us.flatMap fun u => edR nds (Ek ties kept) u nds) σ'
  | [], q, es, σ, _, _, G, _, _ => by
    refine ⟨q, σ, ?_, by simpa using G⟩
    show eFor _ _ _ _ [] _ _ = _
    rw [eFor_nil]
  | u :: us, q, es, σ, hu, hm, G, hes, hl => by
    have hu' := List.pairwise_cons.mp hu
    rw [List.length_cons] at hl
    have hst : ∃ q2, stN lT.2 (lφ nds ties kept (lG :: exU q) cx) (S "u") (.d (.int (Int.ofNat u))) = some (lφ nds ties kept (lG :: (S "u", .d (.int (Int.ofNat u))) :: exV q2) cx) := by
      cases q with
      | none => exact ⟨none, l_u0 nds ties kept cx _⟩
      | some q => exact ⟨q.2, l_u1 nds ties kept (exV q.2) cx _ _⟩
    obtain ⟨q2, hst⟩ := hst
    obtain ⟨q3, σ₁, hin, G₁⟩ := l_in N nds ties kept cx (hs.imp fun h => Nat.ne_of_lt h) u (hm u List.mem_cons_self) nds q2 es σ hs (fun v h => h) G (fun p hp => ⟨(hes p hp).1, .inl ((hes p hp).2 u List.mem_cons_self)⟩) (by omega)
    have hF : (R TL (N + 9)).ex lT.2 lF (lφ nds ties kept (lG :: (S "u", .d (.int (Int.ofNat u))) :: exV q2) cx) σ = some (.nxt, lφ nds ties kept (lG :: (S "u", .d (.int (Int.ofNat u))) :: exV q3) cx, σ₁) :=
      ex_for l_5.2.1 (l_8 (N + 7) nds ties kept _ cx σ) rfl hin
    have hbody : exs (R TL (N + 9)) lT.2 (sBody (lS 2)) (lφ nds ties kept (lG :: (S "u", .d (.int (Int.ofNat u))) :: exV q2) cx) σ = some (.nxt, lφ nds ties kept (lG :: exU (some (.d (.int (Int.ofNat u)), q3))) cx, σ₁) := by
      rw [l_6.1]; exact exs_cons hF exs_nil
    have hlen := edR_len nds (Ek ties kept) u nds
    obtain ⟨q4, σ₂, hr, G₂⟩ := l_out N nds ties kept cx hs h5 us (some (.d (.int (Int.ofNat u)), q3)) (es ++ edR nds (Ek ties kept) u nds) σ₁ hu'.2 (fun w h => hm w (List.mem_cons_of_mem _ h)) G₁ (fun p hp => by
      rcases List.mem_append.mp hp with h | h
      · exact ⟨(hes p h).1, fun w hw => (hes p h).2 w (List.mem_cons_of_mem _ hw)⟩
      · obtain ⟨e1, e2, _⟩ := edR_mem h
        exact ⟨by omega, fun w hw => by rw [e1]; exact hu'.1 w hw⟩) (by rw [List.length_append]; omega)
    refine ⟨q4, σ₂, ?_, by rw [List.flatMap_cons, ← List.append_assoc]; exact G₂⟩
    show eFor _ _ _ _ (.int (Int.ofNat u) :: natD us) _ _ = _
    exact eFor_cons hst hbody hr

theorem subs_ok : ∀ nds ∈ subs, nds.Pairwise (· < ·) ∧ nds.length ≤ 5 ∧ (∀ v ∈ nds, v < 5) ∧ 2 ≤ nds.length := by decide +kernel
theorem l_graph {nds : List Nat} (h : nds ∈ subs) (ties : List PyData) (kept : Bool) : ∃ q σ', exs (R TL 80) lT.2 [lS 0, lS 1, lS 2] (lφ nds ties kept [] []) [] = some (.nxt, lφ nds ties kept (lG :: exU q) [], σ') ∧ GS nds (edgesOf nds (Ek ties kept)) σ' := by
  obtain ⟨h1, h2, h3, h4⟩ := subs_ok nds h
  obtain ⟨q, σ', hr, G⟩ := l_out 70 nds ties kept [] h1 h2 nds none [] (σN nds) h1 (fun _ h => h) (gs_N nds) (fun _ h => nomatch h) (by simp; omega)
  have S1 : (R TL 80).ex lT.2 (lS 1) (lφ nds ties kept [lG] []) σG = some (.nxt, lφ nds ties kept [lG] [], σN nds) :=
    ex_expr l_1.1 (ev_callM l_1.2 (l_2 77 nds ties kept [] [] σG) l_3 (l_4 77 nds ties kept [] [] σG) (by exact an_kw h))
  have S2 : (R TL 80).ex lT.2 (lS 2) (lφ nds ties kept [lG] []) (σN nds) = some (.nxt, lφ nds ties kept (lG :: exU q) [], σ') :=
    ex_for l_5.1 (l_7 78 nds ties kept [] [] (σN nds)) rfl hr
  exact ⟨q, σ', exs_cons (l_0 nds ties kept) (exs_cons S1 (exs_cons S2 exs_nil)), by simpa [edgesOf] using G⟩
end Mine
end
section
open PySem PySem.W PyProof.Rows
open Sem (wp)
set_option maxRecDepth 100000
set_option linter.all false
namespace Mine
section
variable {prog : Program} {w : World} {h₀ : Heap} {A : Around} {s s' : Shared} {Z Z' : ZP} {ρ ρ' : List Addr} {σ σ' : Store} {env : Env} {φ φ' : Frm} {n : Nat} {f : Fl} {t : Sem Flow}
theorem Loc.weak (L : Loc Z ρ env φ s) (h1 : ∀ x pv, φ'.loc.lookup x = some pv → φ.loc.lookup x = some pv) (h2 : ∀ x pv, φ'.cel.lookup x = some pv → φ.cel.lookup x = some pv) (h3 : φ'.ro = φ.ro) : Loc Z ρ env φ' s := by
  obtain ⟨m, hn, hm⟩ := L.ns
  exact ⟨L.hk, L.gl, L.bl, ⟨m, hn, fun x pv h => hm x pv (h1 x pv h)⟩, fun x pv h => L.ce x pv (h2 x pv h), L.al, L.ck, L.zL, L.zc, L.ap, fun x c h hr => L.wc x c h (by rw [← h3]; exact hr), L.cd⟩
theorem SndF.weak (h : SndF prog w h₀ A env Z ρ s t f φ σ') (h1 : ∀ x pv, φ'.loc.lookup x = some pv → φ.loc.lookup x = some pv) (h2 : ∀ x pv, φ'.cel.lookup x = some pv → φ.cel.lookup x = some pv) (h3 : φ'.ro = φ.ro) : SndF prog w h₀ A env Z ρ s t f φ' σ' :=
  fun E Q k => h E Q fun v s' Z' ρ' g B' L' hf => k v s' Z' ρ' g B' (L'.weak h1 h2 h3) hf
end

/-! lots = [sorted(lot) for lot in connected_components(G)] -/
def asP : Stmt → Pos × Pos × Pos × Pos
  | .Assign [.Name _ p] (.ListComp _ [⟨.Name _ q, _, _, _⟩] _ r) t => (p, q, r, t)
  | _ => (default, default, default, default)
def l3e : Expr := sVal (lS 3)
def l3i : Expr := gI (lcG l3e 0)
def l3S : Scope := relabelS (lcS l3e) lT.2
theorem l3_shape : lS 3 = .Assign [.Name (S "lots") (asP (lS 3)).1] (.ListComp (lcE l3e) [⟨.Name (S "lot") (asP (lS 3)).2.1, l3i, [], 0⟩] (lcS l3e) (asP (lS 3)).2.2.1) (asP (lS 3)).2.2.2 := by kernel_rfl
theorem l3_1 : plainIter l3i = true ∧ (lcS l3e).kind = .function ∧ takes lT.2 (lcS l3e).names = true ∧ ((lcS l3e).names.map (·.1)).Nodup := by
  refine ⟨?_, ?_, ?_, ?_⟩
  · kernel_rfl
  · kernel_rfl
  · kernel_rfl
  · decide +kernel
theorem l3_2 : isCallN (S "connected_components") l3i = true := by kernel_rfl
theorem l3_3 : lT.2.names.lookup (S "connected_components") = some .globalImplicit ∧ (S "connected_components" == S "__debug__") = false := by constructor <;> kernel_rfl
section
variable (N : Nat) (nds : List Nat) (ties : List PyData) (kept : Bool) (ext cx : List (Str × PV)) (σ : Store) (q pv : PV) (k : Nat)
theorem l3_4 : evs (R TL (N + 1)) lT.2 (lφ nds ties kept (lG :: ext) cx) (eArgs l3i) σ = some ([.ref 1], σ) := by kernel_rfl
theorem l3_5 : (⟨[], celOf (lcS l3e).names (lφ nds ties kept ext []).cel, freeN (lcS l3e).names⟩ : Frm) = ⟨[], [], []⟩ := by kernel_rfl
theorem l3_6 : stN l3S ⟨[], [], []⟩ (S "lot") pv = some ⟨[(S "lot", pv)], [], []⟩ := by kernel_rfl
theorem l3_7 : stN l3S ⟨[(S "lot", q)], [], []⟩ (S "lot") pv = some ⟨[(S "lot", pv)], [], []⟩ := by kernel_rfl
theorem l3_8 : (R TL (N + 3)).ev l3S ⟨[(S "lot", .ref k)], [], []⟩ (lcE l3e) σ = (pFun "sorted" [.ref k] σ).map fun v => (v, σ) := by kernel_rfl
theorem l3_9 : stN lT.2 (lφ nds ties kept [lG] []) (S "lots") pv = some (lφ nds ties kept [lG, (S "lots", pv)] []) := by kernel_rfl
end
theorem sorted_set {σ : Store} {k : Nat} {xs : List Nat} (h : σ[k]? = some (.set (intsN xs))) : pFun "sorted" [.ref k] σ = some (.d (.list (natD xs))) := by
  have : (intsN xs).map PyData.int = natD xs := by unfold intsN natD; rw [List.map_map]; rfl
  simp [pFun, h, this]
theorem ccF_len (nds : List Nat) (es : List (Nat × Nat)) : ∀ (rest bag vis : List Nat) {out : List (List Nat)}, ccF nds es rest bag vis = some out → out.length ≤ rest.length
  | [], bag, vis, out, h => by unfold ccF at h; cases h; exact Nat.le_refl _
  | v :: rest, bag, vis, out, h => by
    unfold ccF at h
    split at h
    · have := ccF_len nds es rest bag vis h
      rw [List.length_cons]; omega
    · split at h
      · cases h
      split at h
      · cases h
      · cases h
      split at h
      · cases h
      rename_i out' hcc
      cases h
      have := ccF_len nds es rest _ _ hcc
      rw [List.length_cons, List.length_cons]; omega
theorem edges_mem {nds : List Nat} {Ej : Nat → Nat → Bool} {p : Nat × Nat} (h : p ∈ edgesOf nds Ej) : p.1 ∈ nds ∧ p.2 ∈ nds := by
  unfold edgesOf at h
  obtain ⟨u, hu, hp⟩ := List.mem_flatMap.mp h
  obtain ⟨e1, _, e2⟩ := edR_mem hp
  exact ⟨e1 ▸ hu, e2⟩
theorem edges_len {nds : List Nat} (Ej : Nat → Nat → Bool) (h : nds.length ≤ 5) : (edgesOf nds Ej).length ≤ 25 := by
  have := flatMap_len (fun u => edR nds Ej u nds) 5 nds (fun u _ => Nat.le_trans (edR_len nds Ej u nds) h)
  unfold edgesOf
  omega
def lotsD (out : List (List Nat)) : List PyData := out.map fun l => .list (natD l)

section
variable {prog : Program} {w : World} {h₀ : Heap} {A : Around} {s s' : Shared} {Z Z' : ZP} {ρ ρ' : List Addr} {σ σ' : Store} {env : Env} {φ φ' : Frm} {n : Nat}
theorem l_comp (H : HdOk w h₀) (n : Nat) (prog : Program) {nds : List Nat} (hn : nds ∈ subs) (ties : List PyData) (kept : Bool) {es : List (Nat × Nat)} (hes : ∀ p ∈ es, p.1 < 5 ∧ p.2 < 5) (hel : es.length < 1000) (G : GS nds es σ) {out : List (List Nat)} (hcc : ccF nds es nds [] [] = some out) :
    ∃ σ', ∀ (A : Around) (env : Env) (Z : ZP) (ρ : List Addr) (s : Shared), AOk (n + 5) A → env.scope = lT.2 → Base prog w h₀ Z ρ σ s → Loc Z ρ env (lφ nds ties kept [lG] []) s → SndF prog w h₀ A env Z ρ s (exec (lS 3) env) .nxt (lφ nds ties kept [lG, (S "lots", .d (.list (lotsD out)))] []) σ' := by
  obtain ⟨q1, q2, q3, q4⟩ := subs_ok nds hn
  have hne : nds ≠ [] := fun e => by rw [e] at q4; simp at q4
  obtain ⟨Rs, Ks, r1, r2, r4, r5⟩ := cc_seg H n prog (q1.imp fun h => Nat.ne_of_lt h) q3 hne q2 hes hel G hcc
  have hol := ccF_len nds es nds [] [] hcc
  refine ⟨Rs.getD 0 [], fun A env Z ρ s hA hs B L => ?_⟩
  have TT := tokL (prog := prog) H (n + 3)
  have S := sound TT 80
  obtain ⟨a1, a2, a3, a4⟩ := l3_1
  rw [l3_shape]
  have seg := r5 A hA (fun i => .ref (Ks.getD (i - 1) 0)) (fun i => Rs.getD (i - 1) []) (fun i => Rs.getD i []) (fun i σi h => by rw [List.getD_eq_getElem?_getD, h]; rfl) (fun i => rfl) (fun i k h => by
    show PV.ref (Ks.getD (i + 1 - 1) 0) = _
    rw [Nat.add_sub_cancel, List.getD_eq_getElem?_getD, h]; rfl)
  refine assign_run hs (comp_coreG (φg := cφ0) (scg := cT.2) (body := cT.1) (N := out.length) (φC := fun j => if j = out.length then ⟨[], [], []⟩ else ⟨[(Mine.S "lot", .ref (Ks.getD j 0))], [], []⟩) (accC := fun j => lotsD (out.take (out.length - j)))
    (pvY := fun i => .ref (Ks.getD (i - 1) 0)) (σY := fun i => Rs.getD (i - 1) []) (σC := fun i => Rs.getD i []) S hA hs H.lim a1 a2 a3 a4 (fun E Q k => ?_) seg (fun m hm => ?_) ?_ ?_ ?_ B L) (l3_9 _ _ _ _) B L
  · refine callNq S TT hA hs (fv := .ref 28) l3_2 l3_3 (by kernel_rfl) (keep_func (ok_cc H)) (l3_4 79 nds ties kept [] [] σ) B L fun vals s₁ Z₁ ρ₁ g₁ B₁ r₁ => ?_
    obtain ⟨v, rfl, hv⟩ : ∃ v, vals = [v] ∧ VR Z₁ ρ₁ (.ref 1) v := by cases r₁ with | cons p q => cases q; exact ⟨_, rfl, p⟩
    refine call_gen (n := n + 4) (ok_cc H) hA (names := [Mine.S "G"]) (pvs := [.ref 1]) (by decide +kernel) rfl B₁ (.cons hv .nil) (bd_cc _ _) (kd_cc _) fun gobj genv g Z₂ ρ₂ s₂ gm => ?_
    have gm' := gm.back g₁ B₁
    rw [fs_cc] at gm'
    exact k gobj genv g Z₂ ρ₂ s₂ (by rw [← cc_7]; exact gm')
  · obtain ⟨σi, kk, xs, p1, p2, p3, p4⟩ := r4 m hm
    have e1 : Ks.getD m 0 = kk := by rw [List.getD_eq_getElem?_getD, p2]; rfl
    have e2 : Rs.getD m [] = σi := by rw [List.getD_eq_getElem?_getD, p1]; rfl
    have hmN : ¬ m = out.length := by omega
    refine ⟨⟨[(Mine.S "lot", .ref kk)], [], []⟩, ?_, ?_⟩
    · show stN l3S (if m + 1 = out.length then _ else _) _ (.ref (Ks.getD (m + 1 - 1) 0)) = _
      rw [Nat.add_sub_cancel, e1]
      split
      · exact l3_6 _
      · exact l3_7 _ _
    · show cEmit _ l3S _ _ _ (Rs.getD (m + 1 - 1) []) = some (if m = out.length then _ else _, _, Rs.getD m [])
      rw [Nat.add_sub_cancel, e2, if_neg hmN, e1]
      have hev : (R TL 80).ev l3S ⟨[(Mine.S "lot", .ref kk)], [], []⟩ (lcE l3e) σi = some (.d (.list (natD xs)), σi) := by
        rw [l3_8 77, sorted_set p4]; rfl
      have := cEmit_eq (r := R TL 80) (acc := lotsD (out.take (out.length - (m + 1)))) hev (by simp [lotsD]; omega)
      rw [this]
      have e3 : out.take (out.length - m) = out.take (out.length - (m + 1)) ++ [xs] := by
        have : out.length - m = (out.length - (m + 1)) + 1 := by omega
        rw [this, List.take_succ]
        have : out.length - (m + 1) = out.length - 1 - m := by omega
        rw [this, p3]; rfl
      rw [e3]
      simp [lotsD]
  · show (if out.length = out.length then _ else _) = _
    rw [if_pos rfl, l3_5]
  · show lotsD (out.take (out.length - out.length)) = []
    simp [lotsD]
  · show lotsD (out.take (out.length - 0)) = lotsD out
    simp
end
end Mine
end
section
open PySem PySem.W PyProof.Rows
set_option maxRecDepth 100000
set_option linter.all false
namespace Mine
/-! sorted, lists of ints, in plain Lean -/
def insL (x : Nat) : List Nat → List Nat
  | [] => [x]
  | y :: r => if x ≤ y then x :: y :: r else y :: insL x r
def sortN : List Nat → List Nat
  | [] => []
  | x :: r => insL x (sortN r)
theorem insI_N (x : Nat) : ∀ l : List Nat, insI (Int.ofNat x) (intsN l) = intsN (insL x l)
  | [] => rfl
  | y :: r => by
    show insI (Int.ofNat x) (Int.ofNat y :: intsN r) = intsN (insL x (y :: r))
    unfold insI insL
    by_cases h : x ≤ y
    · rw [if_pos h, if_pos (show Int.ofNat x ≤ Int.ofNat y from Int.ofNat_le.mpr h)]; rfl
    · rw [if_neg h, if_neg (show ¬ Int.ofNat x ≤ Int.ofNat y from fun q => h (Int.ofNat_le.mp q)), insI_N x r]; rfl
theorem sortI_N : ∀ l : List Nat, sortI (intsN l) = intsN (sortN l)
  | [] => rfl
  | x :: r => by
    show insI (Int.ofNat x) (sortI (intsN r)) = intsN (insL x (sortN r))
    rw [sortI_N r, insI_N]
theorem ints_natD : ∀ l : List Nat, ints? (natD l) = some (intsN l)
  | [] => rfl
  | x :: r => by
    show (ints? (natD r)).map (Int.ofNat x :: ·) = some (Int.ofNat x :: intsN r)
    rw [ints_natD r]; rfl
theorem intsN_map (l : List Nat) : (intsN l).map PyData.int = natD l := by unfold intsN natD; rw [List.map_map]; rfl
theorem sorted_natD {σ : Store} (l : List Nat) (h : l.length < 64) : pFun "sorted" [.d (.list (natD l))] σ = some (.d (.list (natD (sortN l)))) := by
  have h1 : (natD l).length < 64 := by rw [natD_len]; exact h
  have e : (("sorted" : String) = "len") = False := by simp
  simp only [pFun, e, if_false, if_true, h1, ints_natD, Option.map_some, sortI_N, intsN_map]
theorem depthAll_natD : ∀ l : List Nat, PyData.depthAll (natD l) = 0
  | [] => rfl
  | x :: r => by
    show max (PyData.depth (.int (Int.ofNat x))) (PyData.depthAll (natD r)) = 0
    rw [depthAll_natD r]; rfl
theorem eqvAll_natD : ∀ a b : List Nat, PyData.eqvAll (natD a) (natD b) = decide (a = b)
  | [], [] => rfl
  | [], _ :: _ => rfl
  | _ :: _, [] => rfl
  | x :: a, y :: b => by
    show (PyData.eqv (.int (Int.ofNat x)) (.int (Int.ofNat y)) && PyData.eqvAll (natD a) (natD b)) = _
    rw [eqvAll_natD a b]
    have : PyData.eqv (.int (Int.ofNat x)) (.int (Int.ofNat y)) = decide (x = y) := by
      show (Int.ofNat x == Int.ofNat y) = _
      by_cases h : x = y
      · subst h; simp
      · rw [decide_eq_false h]
        exact beq_eq_false_iff_ne.mpr fun q => h (Int.ofNat.inj q)
    rw [this]
    by_cases h1 : x = y
    · by_cases h2 : a = b
      · subst h1 h2; simp
      · simp [h2]
    · simp [h1]
theorem eqv_natD (a b : List Nat) : PyData.eqv (.list (natD a)) (.list (natD b)) = decide (a = b) := eqvAll_natD a b
theorem shallow_natD (a : List Nat) (b : PyData) : shallow (.list (natD a)) b = true := by
  unfold shallow
  have : (PyData.list (natD a)).depth = 1 := by
    show PyData.depthAll (natD a) + 1 = 1
    rw [depthAll_natD]
  rw [this]; rfl
theorem pCmp_ne_natD (a b : List Nat) : pCmp .NotEq (.list (natD a)) (.list (natD b)) = some (!decide (a = b)) := by
  show (if shallow (.list (natD a)) (.list (natD b)) then some (!PyData.eqv (.list (natD a)) (.list (natD b))) else none) = _
  rw [shallow_natD, eqv_natD]; rfl

section
variable {T : Txt} {r : Rec} {N : Nat} {sc : Scope} {φ φ' : Frm} {e : Expr} {st : Stmt} {σ σ1 σ2 σ3 : Store}
def isList1 : Expr → Bool
  | .List [e] _ => noStar e
  | _ => false
theorem ev_list1 {x : PyData} (hs : isList1 e = true) (h : (R T N).ev sc φ (eArg e 0) σ = some (.d x, σ1)) : (R T (N + 1)).ev sc φ e σ = some (.d (.list [x]), σ1) := by
  unfold isList1 at hs
  split at hs
  · rename_i e p
    replace h : (R T N).ev sc φ e σ = _ := h
    have h2 : evs (R T N) sc φ [e] σ = some ([.d x], σ1) := evs_cons hs h evs_nil
    rw [R_ev]
    simp only [stepEv, evNew, List.length_cons, List.length_nil, h2]
    rfl
  · cases hs
end

/-! what lots checks -/
def nearF (nds : List Nat) (Ej : Nat → Nat → Bool) : Nat → List Nat → Nat → Option (List Nat)
  | 0, _, _ => none
  | f + 1, near, at_ => if at_ < near.length then (if 50 < near.length then none else nearF nds Ej f (near ++ nds.filter fun v => !near.contains v && Ej (near.getD at_ 0) v) (at_ + 1)) else some near
def chk (nds : List Nat) (Ej : Nat → Nat → Bool) (lot : List Nat) : Bool := match lot with
  | [] => false
  | x :: r => match nearF nds Ej 8 [x] 0 with
    | some near => decide (near.length < 64) && decide ((x :: r).length < 1000) && decide (sortN near = x :: r)
    | none => false
def lotsF (nds : List Nat) (Ej : Nat → Nat → Bool) : Option (List (List Nat)) := match ccF nds (edgesOf nds Ej) nds [] [] with
  | none => none
  | some out => if decide (out.flatten.length < 64) && decide (sortN out.flatten = sortN nds) && out.all (chk nds Ej) then some out else none
end Mine
end
section
open PySem PySem.W PyProof.Rows
set_option maxRecDepth 100000
set_option linter.all false
namespace Mine
/-! statement 4 of lots -/
def l4c : Expr := sVal (lS 4)
def l4e : Expr := eArg (eArg l4c 0) 0
def l4S : Scope := relabelS (lcS l4e) lT.2
def lLots (out : List (List Nat)) : Str × PV := (S "lots", .d (.list (lotsD out)))
theorem l4_1 : isIf (lS 4) = true ∧ isCmp .NotEq l4c = true ∧ isCallN (S "sorted") (eArg l4c 0) = true ∧ isCallN (S "sorted") (eArg l4c 1) = true ∧ isLC l4e = true ∧ lcOk2 lT.2 (S "lot") (S "v") l4e = true ∧ gF (lcG l4e 0) = [] ∧ gF (lcG l4e 1) = [] ∧ sElse (lS 4) = [] ∧ eArgs (eArg l4c 0) = [l4e] ∧ noStar l4e = true := by
  refine ⟨?_, ?_, ?_, ?_, ?_, ?_, ?_, ?_, ?_, ?_, ?_⟩ <;> kernel_rfl
section
variable (N : Nat) (nds : List Nat) (ties : List PyData) (kept : Bool) (out : List (List Nat)) (cx l : List (Str × PV)) (σ : Store) (d : PyData) (q q' : PV)
theorem l4_2 : cFrm l4e (lφ nds ties kept [lG, lLots out] []) = ⟨[], [], []⟩ := by kernel_rfl
theorem l4_3 : (R TL (N + 1)).ev lT.2 (lφ nds ties kept [lG, lLots out] []) (gI (lcG l4e 0)) σ = some (.d (.list (lotsD out)), σ) := by kernel_rfl
theorem l4_4 : stN l4S ⟨[], [], []⟩ (S "lot") (.d d) = some ⟨[(S "lot", .d d)], [], []⟩ := by kernel_rfl
theorem l4_5 : stN l4S ⟨(S "lot", q) :: l, [], []⟩ (S "lot") (.d d) = some ⟨(S "lot", .d d) :: l, [], []⟩ := by kernel_rfl
theorem l4_6 : stN l4S ⟨[(S "lot", q)], [], []⟩ (S "v") (.d d) = some ⟨[(S "lot", q), (S "v", .d d)], [], []⟩ := by kernel_rfl
theorem l4_7 : stN l4S ⟨[(S "lot", q), (S "v", q')], [], []⟩ (S "v") (.d d) = some ⟨[(S "lot", q), (S "v", .d d)], [], []⟩ := by kernel_rfl
theorem l4_8 : (R TL (N + 1)).ev l4S ⟨(S "lot", .d d) :: l, [], []⟩ (gI (lcG l4e 1)) σ = some (.d d, σ) := by kernel_rfl
theorem l4_9 : (R TL (N + 1)).ev l4S ⟨[(S "lot", q), (S "v", .d d)], [], []⟩ (lcE l4e) σ = some (.d d, σ) := by kernel_rfl
theorem l4_10 (vs : List PV) : evCallN TL lT.2 (S "sorted") vs σ = (pFun "sorted" vs σ).map fun v => (v, σ) := by kernel_rfl
theorem l4_11 : evs (R TL (N + 1)) lT.2 (lφ nds ties kept (lG :: l) cx) (eArgs (eArg l4c 1)) σ = some ([.d (.list (natD nds))], σ) := by kernel_rfl
end
def shL (l : List (Str × PV)) : Prop := l = [] ∨ (∃ q, l = [(S "lot", q)]) ∨ ∃ q q', l = [(S "lot", q), (S "v", q')]
def unL : PyData → List PyData
  | .list xs => xs
  | _ => []
theorem flat_lots : ∀ out : List (List Nat), flatP (fun _ => true) unL (lotsD out) = natD out.flatten
  | [] => rfl
  | l :: out => by
    have ih := flat_lots out
    unfold flatP lotsD at ih ⊢
    rw [List.map_cons, List.flatMap_cons, ih, List.flatten_cons]
    simp [unL, natD]
theorem flat_self : ∀ l : List PyData, flatP (fun _ => true) (fun v => [v]) l = l
  | [] => rfl
  | v :: l => by
    have ih := flat_self l
    unfold flatP at ih ⊢
    rw [List.flatMap_cons, ih]; rfl
theorem l4_flat (N : Nat) (nds : List Nat) (ties : List PyData) (kept : Bool) (out : List (List Nat)) (σ : Store) (hl : out.flatten.length < 64) :
    evC (R TL (N + 3)) lT.2 (lφ nds ties kept [lG, lLots out] []) l4e σ = some (natD out.flatten, σ) := by
  obtain ⟨x1, x2, x3, x4, x5, x6, x7, x8, x9, x10, x11⟩ := l4_1
  obtain ⟨φ', _, h⟩ := cItems_flat (r := R TL (N + 3)) (sc := l4S) (x := S "lot") (ifs := gF (lcG l4e 0)) (inner := cInner (R TL (N + 3)) l4S (lcE l4e) (S "v") (gI (lcG l4e 1)) (gF (lcG l4e 1))) (σ := σ)
    (fun φ => ∃ l, shL l ∧ φ = ⟨l, [], []⟩) (fun _ => true) unL (lotsD out)
    (by
      intro w hw φ acc hI hb
      unfold lotsD at hw
      obtain ⟨xs, hxs, rfl⟩ := List.mem_map.mp hw
      obtain ⟨l, hl, rfl⟩ := hI
      simp only [if_true, unL] at hb
      have hst : ∃ l', (l' = [] ∨ ∃ q, l' = [(S "v", q)]) ∧ stN l4S ⟨l, [], []⟩ (S "lot") (.d (.list (natD xs))) = some ⟨(S "lot", .d (.list (natD xs))) :: l', [], []⟩ := by
        rcases hl with rfl | ⟨q, rfl⟩ | ⟨q, q', rfl⟩
        · exact ⟨[], .inl rfl, l4_4 _⟩
        · exact ⟨[], .inl rfl, l4_5 [] _ q⟩
        · exact ⟨_, .inr ⟨q', rfl⟩, l4_5 _ _ q⟩
      obtain ⟨l', hl', hst⟩ := hst
      refine ⟨_, hst, by rw [x7]; exact evIfs_nil, ?_⟩
      rw [if_pos rfl]
      obtain ⟨φ2, hI2, h2⟩ := cItems_flat (r := R TL (N + 3)) (sc := l4S) (x := S "v") (ifs := gF (lcG l4e 1)) (inner := cEmit (R TL (N + 3)) l4S (lcE l4e)) (σ := σ)
        (fun φ => ∃ l', (l' = [] ∨ ∃ q, l' = [(S "v", q)]) ∧ φ = ⟨(S "lot", .d (.list (natD xs))) :: l', [], []⟩) (fun _ => true) (fun v => [v]) (natD xs)
        (by
          intro v hv φ acc hI hb
          obtain ⟨l', hl', rfl⟩ := hI
          simp only [if_true, List.length_cons, List.length_nil] at hb
          refine ⟨⟨[(S "lot", .d (.list (natD xs))), (S "v", .d v)], [], []⟩, ?_, by rw [x8]; exact evIfs_nil, ?_⟩
          · rcases hl' with rfl | ⟨q, rfl⟩
            · exact l4_6 _ _
            · exact l4_7 _ _ _
          · rw [if_pos rfl]
            exact ⟨_, ⟨_, .inr ⟨_, rfl⟩, rfl⟩, cEmit_eq (l4_9 (N + 2) σ _ _) (by omega)⟩)
        _ acc ⟨l', hl', rfl⟩ (by rw [flat_self]; exact hb)
      rw [flat_self] at h2
      refine ⟨φ2, ?_, ?_⟩
      · obtain ⟨l'', hl'', rfl⟩ := hI2
        refine ⟨_, ?_, rfl⟩
        rcases hl'' with rfl | ⟨q, rfl⟩
        · exact .inr (.inl ⟨_, rfl⟩)
        · exact .inr (.inr ⟨_, _, rfl⟩)
      · rw [cInner_eq (l4_8 (N + 2) l' σ _) (show pIter (.d (.list (natD xs))) = some (natD xs) from rfl)]
        exact h2)
    ⟨[], [], []⟩ [] ⟨[], .inl rfl, rfl⟩ (by rw [flat_lots, natD_len]; simp at hl ⊢; omega)
  rw [flat_lots, List.nil_append] at h
  refine evC2 (φ' := φ') x6 (l4_3 (N + 2) nds ties kept out σ) rfl ?_
  rw [l4_2]
  exact h
theorem l4_run (nds : List Nat) (ties : List PyData) (kept : Bool) (out : List (List Nat)) (σ : Store) (hl : out.flatten.length < 64) (hn : nds.length < 64) (he : sortN out.flatten = sortN nds) :
    (R TL 80).ex lT.2 (lS 4) (lφ nds ties kept [lG, lLots out] []) σ = some (.nxt, lφ nds ties kept [lG, lLots out] [], σ) := by
  obtain ⟨x1, x2, x3, x4, x5, x6, x7, x8, x9, x10, x11⟩ := l4_1
  have h1 : (R TL 78).ev lT.2 (lφ nds ties kept [lG, lLots out] []) (eArg l4c 0) σ = some (.d (.list (natD (sortN out.flatten))), σ) := by
    refine ev_callN x3 (vs := [.d (.list (natD out.flatten))]) (σ1 := σ) ?_ (by rw [l4_10, sorted_natD _ hl]; rfl)
    rw [x10]
    exact evs_cons x11 (ev_lc x5 (l4_flat 73 nds ties kept out σ hl)) evs_nil
  have h2 : (R TL 78).ev lT.2 (lφ nds ties kept [lG, lLots out] []) (eArg l4c 1) σ = some (.d (.list (natD (sortN nds))), σ) :=
    ev_callN x4 (l4_11 76 nds ties kept [] [lLots out] σ) (by rw [l4_10, sorted_natD _ hn]; rfl)
  have ht : (R TL 79).tr lT.2 (lφ nds ties kept [lG, lLots out] []) l4c σ = some (false, σ) := by
    have := tr_cmp (T := TL) x2 h1 h2 (b := false) (by
      show pCmp .NotEq _ _ = _
      rw [pCmp_ne_natD, he]; simp)
    exact this
  exact ex_ifF x1 ht (by rw [x9]; exact exs_nil)

/-! statement 5 -/
def l5 (n : Nat) : Stmt := sAt (sBody (lS 5)) n
def l5W (n : Nat) : Stmt := sAt (sBody (l5 2)) n
def l5e : Expr := eArg (sVal (l5W 0)) 1
def l5S : Scope := relabelS (lcS l5e) lT.2
def l5C : Expr := (gF (lcG l5e 0)).getD 0 xN
def l5C0 : Expr := (bArgs l5C).getD 0 xN
def l5C1 : Expr := (bArgs l5C).getD 1 xN
def lNA (near : List Nat) (at_ : Nat) : List (Str × PV) := [(S "near", .d (.list (natD near))), (S "at", .d (.int (Int.ofNat at_)))]
def l5X (out : List (List Nat)) (lot : List Nat) : List (Str × PV) := [lG, lLots out, (S "lot", .d (.list (natD lot)))]
def l5P (ties : List PyData) (kept : Bool) (near : List Nat) (at_ : Nat) (l : List (Str × PV)) : Frm := ⟨l, lCel ties kept ++ lNA near at_, freeN (lcS l5e).names⟩
theorem l5_1 : isFor (S "lot") (lS 5) = true ∧ sBody (lS 5) = [l5 0, l5 1, l5 2, l5 3] ∧ sBody (l5 2) = [l5W 0, l5W 1] ∧ isWhile (l5 2) = true ∧ isIf (l5 3) = true ∧ sElse (l5 3) = [] := by
  refine ⟨?_, ?_, ?_, ?_, ?_, ?_⟩ <;> kernel_rfl
theorem l5_2 : isAs (S "near") (l5 0) = true ∧ plainVal (sVal (l5 0)) = true ∧ (mutN.contains (S "near") && isNewForm (sVal (l5 0))) = false ∧ isList1 (sVal (l5 0)) = true ∧ isSub (eArg (sVal (l5 0)) 0) = true := by
  refine ⟨?_, ?_, ?_, ?_, ?_⟩ <;> kernel_rfl
theorem l5_3 : isAs (S "near") (l5W 0) = true ∧ plainVal (sVal (l5W 0)) = true ∧ (mutN.contains (S "near") && isNewForm (sVal (l5W 0))) = false ∧ isBin .Add (sVal (l5W 0)) = true ∧ isLC l5e = true ∧ lcOk1 lT.2 (S "v") l5e = true ∧ gF (lcG l5e 0) = [l5C] ∧ isBo .And l5C = true ∧
    bArgs l5C = [l5C0, l5C1] ∧ isCmp .NotIn l5C0 = true ∧ isCmp .Eq l5C1 = true ∧ isCallN (S "_law_joined") (eArg l5C1 0) = true := by
  refine ⟨?_, ?_, ?_, ?_, ?_, ?_, ?_, ?_, ?_, ?_, ?_, ?_⟩ <;> kernel_rfl
theorem l5_4 : isCmp .Lt (sVal (l5 2)) = true ∧ isCallN (S "len") (eArg (sVal (l5 2)) 1) = true ∧ isCmp .NotEq (sVal (l5 3)) = true ∧ isCallN (S "sorted") (eArg (sVal (l5 3)) 0) = true := by
  refine ⟨?_, ?_, ?_, ?_⟩ <;> kernel_rfl
section
variable (N : Nat) (nds : List Nat) (ties : List PyData) (kept : Bool) (out : List (List Nat)) (lot near : List Nat) (at_ : Nat) (cx l : List (Str × PV)) (σ : Store) (d : PyData) (q q' : PV) (v : Int)
theorem l5_5 : stN lT.2 (lφ nds ties kept [lG, lLots out] cx) (S "lot") (.d d) = some (lφ nds ties kept [lG, lLots out, (S "lot", .d d)] cx) := by kernel_rfl
theorem l5_6 : stN lT.2 (lφ nds ties kept [lG, lLots out, (S "lot", q)] cx) (S "lot") (.d d) = some (lφ nds ties kept [lG, lLots out, (S "lot", .d d)] cx) := by kernel_rfl
theorem l5_7 : (R TL (N + 1)).ev lT.2 (lφ nds ties kept (l5X out lot) cx) (eArg (eArg (sVal (l5 0)) 0) 0) σ = some (.d (.list (natD lot)), σ) := by kernel_rfl
theorem l5_8 : (R TL (N + 1)).ev lT.2 (lφ nds ties kept (l5X out lot) cx) (eArg (eArg (sVal (l5 0)) 0) 1) σ = some (.d (.int 0), σ) := by kernel_rfl
theorem l5_9 : stN lT.2 (lφ nds ties kept l []) (S "near") (.d d) = some (lφ nds ties kept l [(S "near", .d d)]) := by kernel_rfl
theorem l5_10 : stN lT.2 (lφ nds ties kept l ((S "near", q) :: cx)) (S "near") (.d d) = some (lφ nds ties kept l ((S "near", .d d) :: cx)) := by kernel_rfl
theorem l5_11 : (R TL (N + 3)).ex lT.2 (l5 1) (lφ nds ties kept l [(S "near", q)]) σ = some (.nxt, lφ nds ties kept l [(S "near", q), (S "at", .d (.int 0))], σ) := by kernel_rfl
theorem l5_12 : (R TL (N + 3)).ex lT.2 (l5 1) (lφ nds ties kept l [(S "near", q), (S "at", q')]) σ = some (.nxt, lφ nds ties kept l [(S "near", q), (S "at", .d (.int 0))], σ) := by kernel_rfl
theorem l5_13 : (R TL (N + 1)).ev lT.2 (lφ nds ties kept l (lNA near at_)) (eArg (sVal (l5 2)) 0) σ = some (.d (.int (Int.ofNat at_)), σ) := by kernel_rfl
theorem l5_14 : evs (R TL (N + 1)) lT.2 (lφ nds ties kept l (lNA near at_)) (eArgs (eArg (sVal (l5 2)) 1)) σ = some ([.d (.list (natD near))], σ) := by kernel_rfl
theorem l5_15 (vs : List PV) : evCallN TL lT.2 (S "len") vs σ = (pFun "len" vs σ).map fun v => (v, σ) := by kernel_rfl
theorem l5_16 : (R TL (N + 1)).ev lT.2 (lφ nds ties kept l (lNA near at_)) (eArg (sVal (l5W 0)) 0) σ = some (.d (.list (natD near)), σ) := by kernel_rfl
theorem l5_17 : (R TL (N + 1)).ev lT.2 (lφ nds ties kept l cx) (gI (lcG l5e 0)) σ = some (.d (.list (natD nds)), σ) := by kernel_rfl
theorem l5_18 : cFrm l5e (lφ nds ties kept l (lNA near at_)) = l5P ties kept near at_ [] := by kernel_rfl
theorem l5_19 : stN l5S (l5P ties kept near at_ []) (S "v") (.d d) = some (l5P ties kept near at_ [(S "v", .d d)]) := by kernel_rfl
theorem l5_20 : stN l5S (l5P ties kept near at_ [(S "v", q)]) (S "v") (.d d) = some (l5P ties kept near at_ [(S "v", .d d)]) := by kernel_rfl
theorem l5_21 : (R TL (N + 1)).ev l5S (l5P ties kept near at_ [(S "v", .d d)]) (lcE l5e) σ = some (.d d, σ) := by kernel_rfl
theorem l5_22 : (R TL (N + 1)).ev l5S (l5P ties kept near at_ [(S "v", .d d)]) (eArg l5C0 0) σ = some (.d d, σ) := by kernel_rfl
theorem l5_23 : (R TL (N + 1)).ev l5S (l5P ties kept near at_ [(S "v", .d d)]) (eArg l5C0 1) σ = some (.d (.list (natD near)), σ) := by kernel_rfl
theorem l5_24 : eArgs (eArg l5C1 0) = [(eArgs (eArg l5C1 0)).getD 0 xN, (eArgs (eArg l5C1 0)).getD 1 xN, (eArgs (eArg l5C1 0)).getD 2 xN] := by kernel_rfl
theorem l5_25 : (R TL (N + 1)).ev l5S (l5P ties kept near at_ [(S "v", .d d)]) ((eArgs (eArg l5C1 0)).getD 0 xN) σ = some (.d (.list ties), σ) := by kernel_rfl
theorem l5_26 : isSub ((eArgs (eArg l5C1 0)).getD 1 xN) = true ∧ noStar ((eArgs (eArg l5C1 0)).getD 0 xN) = true ∧ noStar ((eArgs (eArg l5C1 0)).getD 1 xN) = true ∧ noStar ((eArgs (eArg l5C1 0)).getD 2 xN) = true := by refine ⟨?_, ?_, ?_, ?_⟩ <;> kernel_rfl
theorem l5_27 : (R TL (N + 1)).ev l5S (l5P ties kept near at_ [(S "v", .d d)]) (eArg ((eArgs (eArg l5C1 0)).getD 1 xN) 0) σ = some (.d (.list (natD near)), σ) := by kernel_rfl
theorem l5_28 : (R TL (N + 1)).ev l5S (l5P ties kept near at_ [(S "v", .d d)]) (eArg ((eArgs (eArg l5C1 0)).getD 1 xN) 1) σ = some (.d (.int (Int.ofNat at_)), σ) := by kernel_rfl
theorem l5_29 : (R TL (N + 1)).ev l5S (l5P ties kept near at_ [(S "v", .d d)]) ((eArgs (eArg l5C1 0)).getD 2 xN) σ = some (.d d, σ) := by kernel_rfl
theorem l5_30 : (R TL (N + 1)).ev l5S (l5P ties kept near at_ [(S "v", .d d)]) (eArg l5C1 1) σ = some (.d (.bool kept), σ) := by kernel_rfl
theorem l5_31 (vs : List PV) : evCallN TL l5S (S "_law_joined") vs σ = dataO joinedR vs σ := by kernel_rfl
theorem l5_32 : (R TL (N + 3)).ex lT.2 (l5W 1) (lφ nds ties kept l (lNA near at_)) σ = some (.nxt, lφ nds ties kept l [(S "near", .d (.list (natD near))), (S "at", .d (.int (Int.ofNat at_ + 1)))], σ) := by kernel_rfl
theorem l5_33 : evs (R TL (N + 1)) lT.2 (lφ nds ties kept (l5X out lot) (lNA near at_)) (eArgs (eArg (sVal (l5 3)) 0)) σ = some ([.d (.list (natD near))], σ) := by kernel_rfl
theorem l5_34 : (R TL (N + 1)).ev lT.2 (lφ nds ties kept (l5X out lot) cx) (eArg (sVal (l5 3)) 1) σ = some (.d (.list (natD lot)), σ) := by kernel_rfl
theorem l5_35 : (R TL (N + 1)).ev lT.2 (lφ nds ties kept [lG, lLots out] cx) (sVal (lS 5)) σ = some (.d (.list (lotsD out)), σ) := by kernel_rfl
theorem l5_36 : (R TL (N + 2)).ex lT.2 (lS 6) (lφ nds ties kept (lG :: lLots out :: l) cx) σ = some (.ret (.d (.list (lotsD out))), lφ nds ties kept (lG :: lLots out :: l) cx, σ) := by kernel_rfl
end
end Mine
end
section
open PySem PySem.W PyProof.Rows
set_option maxRecDepth 100000
set_option linter.all false
namespace Mine
theorem itemAt_nat {near : List Nat} {k : Nat} (hl : near.length < 1000000) (h : k < near.length) : itemAt (natD near) (Int.ofNat k) = some (.int (Int.ofNat (near.getD k 0))) := by
  unfold itemAt
  rw [if_pos (by rw [natD_len]; exact hl), if_pos (show (0 : Int) ≤ Int.ofNat k from Int.natCast_nonneg k)]
  have e : (Int.ofNat k).toNat = k := rfl
  rw [e]
  unfold natD
  rw [List.getElem?_map, List.getElem?_eq_getElem h, List.getD_eq_getElem?_getD, List.getElem?_eq_getElem h]; rfl
theorem flatP_filt (p : PyData → Bool) (p' : Nat → Bool) (hp : ∀ v, p (.int (Int.ofNat v)) = p' v) : ∀ l : List Nat, flatP p (fun v => [v]) (natD l) = natD (l.filter p')
  | [] => rfl
  | v :: l => by
    have ih := flatP_filt p p' hp l
    unfold flatP natD at ih ⊢
    rw [List.map_cons, List.flatMap_cons, ih, List.filter_cons, hp]
    cases p' v <;> simp
theorem len_list {σ : Store} {xs : List PyData} (h : xs.length < 1000000) : pFun "len" [.d (.list xs)] σ = some (.d (.int xs.length)) := by
  simp [pFun, h]
def stepN (nds : List Nat) (Ej : Nat → Nat → Bool) (near : List Nat) (at_ : Nat) : List Nat := nds.filter fun v => !near.contains v && Ej (near.getD at_ 0) v

def pN (ties : List PyData) (kept : Bool) (near : List Nat) (at_ : Nat) : PyData → Bool
  | .int i => !near.contains i.toNat && (jn ties (Int.ofNat (near.getD at_ 0)) i == kept)
  | _ => false
theorem l5_comp (N : Nat) (nds : List Nat) (ties : List PyData) (kept : Bool) (near : List Nat) (at_ : Nat) (l : List (Str × PV)) (σ : Store) (hl : near.length < 1000) (ha : at_ < near.length) (hn : nds.length ≤ 5) :
    evC (R TL (N + 6)) lT.2 (lφ nds ties kept l (lNA near at_)) l5e σ = some (natD (stepN nds (Ek ties kept) near at_), σ) := by
  obtain ⟨x1, x2, x3, x4, x5, x6, x7, x8, x9, x10, x11, x12⟩ := l5_3
  obtain ⟨y1, y2, y3, y4⟩ := l5_26
  have hp : ∀ v : Nat, (pN ties kept near at_) (.int (Int.ofNat v)) = (!near.contains v && Ek ties kept (near.getD at_ 0) v) := fun v => rfl
  have hflat := flatP_filt (pN ties kept near at_) (fun v => !near.contains v && Ek ties kept (near.getD at_ 0) v) hp nds
  have hcond : ∀ v : Nat, (R TL (N + 6)).tr l5S (l5P ties kept near at_ [(S "v", .d (.int (Int.ofNat v)))]) l5C σ = some (!near.contains v && Ek ties kept (near.getD at_ 0) v, σ) := fun v => by
    refine tr_and x8 ?_
    rw [x9, show (!near.contains v && Ek ties kept (near.getD at_ 0) v) = (!near.contains v && ((jn ties (Int.ofNat (near.getD at_ 0)) (Int.ofNat v) == kept) && true)) by rw [Bool.and_true]; rfl]
    have h1 : (R TL (N + 5)).tr l5S (l5P ties kept near at_ [(S "v", .d (.int (Int.ofNat v)))]) l5C0 σ = some (!near.contains v, σ) := by
      refine tr_cmp x10 (l5_22 (N + 3) ties kept near at_ σ _) (l5_23 (N + 3) ties kept near at_ σ _) ?_
      show pCmp .NotIn (.int (Int.ofNat v)) (.list (natD near)) = _
      rw [pCmp_ni, any_natD]
    refine evAll_cons h1 fun _ => evAll_cons ?_ fun _ => evAll_nil
    refine tr_cmp x11 (ev_callN x12 (vs := [.d (.list ties), .d (.int (Int.ofNat (near.getD at_ 0))), .d (.int (Int.ofNat v))]) (σ1 := σ) ?_ (by rw [l5_31]; exact joined_D _ _ _ _)) (l5_30 (N + 3) ties kept near at_ σ _) (by exact pCmp_eq_bool _ _)
    rw [l5_24]
    refine evs_cons y2 (l5_25 (N + 2) ties kept near at_ σ _) (evs_cons y3 (ev_sub y1 (l5_27 (N + 1) ties kept near at_ σ _) (l5_28 (N + 1) ties kept near at_ σ _) ?_) (evs_cons y4 (l5_29 (N + 2) ties kept near at_ σ _) evs_nil))
    show (itemAt (natD near) (Int.ofNat at_)).map PV.d = _
    rw [itemAt_nat (by omega) ha]; rfl
  have hlen : (stepN nds (Ek ties kept) near at_).length ≤ 5 := Nat.le_trans (List.length_filter_le _ _) hn
  obtain ⟨φ', _, h⟩ := cItems_flat (r := R TL (N + 6)) (sc := l5S) (x := S "v") (ifs := gF (lcG l5e 0)) (inner := cEmit (R TL (N + 6)) l5S (lcE l5e)) (σ := σ)
    (fun φ => φ = l5P ties kept near at_ [] ∨ ∃ q, φ = l5P ties kept near at_ [(S "v", q)]) (pN ties kept near at_) (fun v => [v]) (natD nds)
    (by
      intro w hw φ acc hI hb
      unfold natD at hw
      obtain ⟨v, hv, rfl⟩ := List.mem_map.mp hw
      refine ⟨l5P ties kept near at_ [(S "v", .d (.int (Int.ofNat v)))], ?_, ?_, ?_⟩
      · rcases hI with rfl | ⟨q, rfl⟩
        · exact l5_19 ties kept near at_ _
        · exact l5_20 ties kept near at_ _ _
      · rw [x7]
        exact evIfs_one (hcond v)
      · split
        · exact ⟨_, .inr ⟨_, rfl⟩, cEmit_eq (l5_21 (N + 5) ties kept near at_ σ _) (by simp at hb; omega)⟩
        · exact .inr ⟨_, rfl⟩)
    (l5P ties kept near at_ []) [] (.inl rfl) (by rw [hflat, natD_len]; show 0 + (stepN nds (Ek ties kept) near at_).length < _; omega)
  rw [hflat, List.nil_append] at h
  refine evC1 (φ' := φ') x6 (l5_17 (N + 5) nds ties kept l _ σ) rfl ?_
  rw [l5_18]
  exact h
end Mine
end
section
open PySem PySem.W PyProof.Rows
open Sem (wp)
set_option maxRecDepth 100000
set_option linter.all false
namespace Mine
theorem nearF_T {nds : List Nat} {Ej : Nat → Nat → Bool} {f : Nat} {near : List Nat} {at_ : Nat} {r : List Nat} (h : nearF nds Ej (f + 1) near at_ = some r) (ha : at_ < near.length) : near.length ≤ 50 ∧ nearF nds Ej f (near ++ stepN nds Ej near at_) (at_ + 1) = some r := by
  unfold nearF at h
  rw [if_pos ha] at h
  split at h
  · cases h
  · exact ⟨by omega, h⟩
theorem nearF_F {nds : List Nat} {Ej : Nat → Nat → Bool} {f : Nat} {near : List Nat} {at_ : Nat} {r : List Nat} (h : nearF nds Ej (f + 1) near at_ = some r) (ha : ¬ at_ < near.length) : r = near := by
  unfold nearF at h
  rw [if_neg ha] at h
  cases h; rfl

theorem l5_while (N : Nat) (nds : List Nat) (ties : List PyData) (kept : Bool) (l : List (Str × PV)) (σ : Store) (hn : nds.length ≤ 5) : ∀ (f : Nat) (near : List Nat) (at_ : Nat) {r : List Nat}, near.length < 1000 → nearF nds (Ek ties kept) f near at_ = some r →
    ∃ at', (R TL (N + f + 12)).wh lT.2 (sVal (l5 2)) (sBody (l5 2)) (lφ nds ties kept l (lNA near at_)) σ = some (.nxt, lφ nds ties kept l (lNA r at'), σ)
  | 0, near, at_, r, _, h => by unfold nearF at h; cases h
  | f + 1, near, at_, r, hl, h => by
    obtain ⟨x1, x2, x3, x4⟩ := l5_4
    have ht : (R TL (N + f + 12)).tr lT.2 (lφ nds ties kept l (lNA near at_)) (sVal (l5 2)) σ = some (decide (at_ < near.length), σ) := by
      have h1 : (R TL (N + f + 11)).ev lT.2 (lφ nds ties kept l (lNA near at_)) (eArg (sVal (l5 2)) 1) σ = some (.d (.int (Int.ofNat near.length)), σ) :=
        ev_callN x2 (l5_14 (N + f + 9) nds ties kept near at_ l σ) (by rw [l5_15, len_list (by rw [natD_len]; omega), natD_len]; rfl)
      refine tr_cmp x1 (l5_13 (N + f + 10) nds ties kept near at_ l σ) h1 ?_
      exact (pCmp_lt (Int.ofNat at_) (Int.ofNat near.length)).trans (congrArg some (decide_eq_decide.mpr Int.ofNat_lt))
    by_cases ha : at_ < near.length
    · rw [decide_eq_true ha] at ht
      obtain ⟨h5, hr⟩ := nearF_T h ha
      obtain ⟨z1, z2, z3, z4, z5, z6, _⟩ := l5_3
      have hlen : (stepN nds (Ek ties kept) near at_).length ≤ 5 := Nat.le_trans (List.length_filter_le _ _) hn
      have W0 : (R TL (N + f + 12)).ex lT.2 (l5W 0) (lφ nds ties kept l (lNA near at_)) σ = some (.nxt, lφ nds ties kept l (lNA (near ++ stepN nds (Ek ties kept) near at_) at_), σ) := by
        have hc : (R TL (N + f + 11)).ev lT.2 (lφ nds ties kept l (lNA near at_)) (sVal (l5W 0)) σ = some (.d (.list (natD near ++ natD (stepN nds (Ek ties kept) near at_))), σ) := by
          refine ev_cat z4 (l5_16 (N + f + 9) nds ties kept near at_ l σ) (ev_lc z5 (l5_comp (N + f + 3) nds ties kept near at_ l σ hl ha hn)) ?_
          rw [natD_len, natD_len]; omega
        have e1 : natD near ++ natD (stepN nds (Ek ties kept) near at_) = natD (near ++ stepN nds (Ek ties kept) near at_) := by simp [natD]
        rw [e1] at hc
        exact ex_as z1 z2 z3 hc (l5_10 nds ties kept _ l _ _)
      have hbody : exs (R TL (N + f + 12)) lT.2 (sBody (l5 2)) (lφ nds ties kept l (lNA near at_)) σ = some (.nxt, lφ nds ties kept l (lNA (near ++ stepN nds (Ek ties kept) near at_) (at_ + 1)), σ) := by
        rw [l5_1.2.2.1]
        exact exs_cons W0 (exs_cons (l5_32 (N + f + 9) nds ties kept _ at_ l σ) exs_nil)
      obtain ⟨at', hw⟩ := l5_while N nds ties kept l σ hn f _ (at_ + 1) (by rw [List.length_append]; omega) hr
      exact ⟨at', wh_T ht hbody hw⟩
    · rw [decide_eq_false ha] at ht
      rw [nearF_F h ha]
      exact ⟨at_, wh_F ht⟩

def exL : Option PV → List (Str × PV)
  | none => []
  | some q => [(S "lot", q)]
def exN : Option (List Nat × Nat) → List (Str × PV)
  | none => []
  | some (n, a) => lNA n a
def exM (x : Nat) : Option (List Nat × Nat) → List (Str × PV)
  | none => [(S "near", .d (.list (natD [x])))]
  | some (_, a) => [(S "near", .d (.list (natD [x]))), (S "at", .d (.int (Int.ofNat a)))]
theorem l5_loop (N : Nat) (nds : List Nat) (ties : List PyData) (kept : Bool) (out : List (List Nat)) (σ : Store) (hn : nds.length ≤ 5) : ∀ (rest : List (List Nat)) (q : Option PV) (c : Option (List Nat × Nat)), (∀ lot ∈ rest, chk nds (Ek ties kept) lot = true) →
    ∃ q' c', eFor (R TL (N + 23)) lT.2 (S "lot") (sBody (lS 5)) (lotsD rest) (lφ nds ties kept (lG :: lLots out :: exL q) (exN c)) σ = some (.nxt, lφ nds ties kept (lG :: lLots out :: exL q') (exN c'), σ)
  | [], q, c, _ => ⟨q, c, by show eFor _ _ _ _ [] _ _ = _; rw [eFor_nil]⟩
  | lot :: rest, q, c, h => by
    have hch := h lot List.mem_cons_self
    cases lot with
    | nil => cases hch
    | cons x r =>
      unfold chk at hch
      dsimp only at hch
      split at hch
      · rename_i near hnear
        simp only [Bool.and_eq_true, decide_eq_true_eq] at hch
        obtain ⟨⟨c1, c2⟩, c3⟩ := hch
        have hst : stN lT.2 (lφ nds ties kept (lG :: lLots out :: exL q) (exN c)) (S "lot") (.d (.list (natD (x :: r)))) = some (lφ nds ties kept (l5X out (x :: r)) (exN c)) := by
          cases q with
          | none => exact l5_5 nds ties kept out _ _
          | some q => exact l5_6 nds ties kept out _ _ q
        obtain ⟨a1, a2, a3, a4, a5⟩ := l5_2
        have hv : (R TL (N + 22)).ev lT.2 (lφ nds ties kept (l5X out (x :: r)) (exN c)) (sVal (l5 0)) σ = some (.d (.list (natD [x])), σ) := by
          refine ev_list1 (x := .int (Int.ofNat x)) a4 (ev_sub a5 (l5_7 (N + 19) nds ties kept out _ _ σ) (l5_8 (N + 19) nds ties kept out _ _ σ) ?_)
          show (itemAt (natD (x :: r)) 0).map PV.d = _
          rw [itemAt_0 (by rw [natD_len]; omega)]; rfl
        have hF0 : (R TL (N + 23)).ex lT.2 (l5 0) (lφ nds ties kept (l5X out (x :: r)) (exN c)) σ = some (.nxt, lφ nds ties kept (l5X out (x :: r)) (exM x c), σ) := by
          refine ex_as a1 a2 a3 hv ?_
          cases c with
          | none => exact l5_9 nds ties kept _ _
          | some p => exact l5_10 nds ties kept _ _ _ _
        have hF1 : (R TL (N + 23)).ex lT.2 (l5 1) (lφ nds ties kept (l5X out (x :: r)) (exM x c)) σ = some (.nxt, lφ nds ties kept (l5X out (x :: r)) (lNA [x] 0), σ) := by
          cases c with
          | none => exact l5_11 (N + 20) nds ties kept _ σ _
          | some p => exact l5_12 (N + 20) nds ties kept _ σ _ _
        obtain ⟨at', hw⟩ := l5_while (N + 2) nds ties kept (l5X out (x :: r)) σ hn 8 [x] 0 (by simp) hnear
        have hF2 : (R TL (N + 23)).ex lT.2 (l5 2) (lφ nds ties kept (l5X out (x :: r)) (lNA [x] 0)) σ = some (.nxt, lφ nds ties kept (l5X out (x :: r)) (lNA near at'), σ) := ex_while l5_1.2.2.2.1 hw
        obtain ⟨y1, y2, y3, y4⟩ := l5_4
        have ht : (R TL (N + 22)).tr lT.2 (lφ nds ties kept (l5X out (x :: r)) (lNA near at')) (sVal (l5 3)) σ = some (false, σ) := by
          refine tr_cmp (b := false) y3 (ev_callN y4 (l5_33 (N + 19) nds ties kept out _ near at' σ) (by rw [l4_10, sorted_natD _ c1]; rfl)) (l5_34 (N + 20) nds ties kept out _ _ σ) ?_
          show pCmp .NotEq _ _ = _
          rw [pCmp_ne_natD, c3]; simp
        have hF3 : (R TL (N + 23)).ex lT.2 (l5 3) (lφ nds ties kept (l5X out (x :: r)) (lNA near at')) σ = some (.nxt, lφ nds ties kept (l5X out (x :: r)) (lNA near at'), σ) := ex_ifF l5_1.2.2.2.2.1 ht (by rw [l5_1.2.2.2.2.2]; exact exs_nil)
        have hbody : exs (R TL (N + 23)) lT.2 (sBody (lS 5)) (lφ nds ties kept (l5X out (x :: r)) (exN c)) σ = some (.nxt, lφ nds ties kept (l5X out (x :: r)) (lNA near at'), σ) := by
          rw [l5_1.2.1]
          exact exs_cons hF0 (exs_cons hF1 (exs_cons hF2 (exs_cons hF3 exs_nil)))
        obtain ⟨q', c', hr⟩ := l5_loop N nds ties kept out σ hn rest (some (.d (.list (natD (x :: r))))) (some (near, at')) (fun lot hl => h lot (List.mem_cons_of_mem _ hl))
        refine ⟨q', c', ?_⟩
        show eFor _ _ _ _ (.list (natD (x :: r)) :: lotsD rest) _ _ = _
        exact eFor_cons hst hbody hr
      · cases hch

theorem l_rest {nds : List Nat} (hn : nds.length ≤ 5) (ties : List PyData) (kept : Bool) (out : List (List Nat)) (σ : Store) (h1 : out.flatten.length < 64) (h2 : sortN out.flatten = sortN nds) (h3 : out.all (chk nds (Ek ties kept)) = true) :
    ∃ φ', exs (R TL 80) lT.2 [lS 4, lS 5, lS 6] (lφ nds ties kept [lG, lLots out] []) σ = some (.ret (.d (.list (lotsD out))), φ', σ) := by
  obtain ⟨q', c', hr⟩ := l5_loop 56 nds ties kept out σ hn out none none (List.all_eq_true.mp h3)
  have S5 : (R TL 80).ex lT.2 (lS 5) (lφ nds ties kept [lG, lLots out] []) σ = some (.nxt, lφ nds ties kept (lG :: lLots out :: exL q') (exN c'), σ) :=
    ex_for l5_1.1 (l5_35 78 nds ties kept out [] σ) rfl hr
  exact ⟨_, exs_cons (l4_run nds ties kept out σ h1 (by omega) h2) (exs_cons S5 (exs_ret (l5_36 78 nds ties kept out _ _ σ)))⟩

theorem lotsF_some {nds : List Nat} {Ej : Nat → Nat → Bool} {out : List (List Nat)} (h : lotsF nds Ej = some out) : ccF nds (edgesOf nds Ej) nds [] [] = some out ∧ out.flatten.length < 64 ∧ sortN out.flatten = sortN nds ∧ out.all (chk nds Ej) = true := by
  unfold lotsF at h
  split at h
  · cases h
  · rename_i o hc
    split at h
    · rename_i hb
      cases h
      simp only [Bool.and_eq_true, decide_eq_true_eq] at hb
      exact ⟨hc, hb.1.1, hb.1.2, hb.2⟩
    · cases h

section
variable {prog : Program} {w : World} {h₀ : Heap} {A : Around} {s s' : Shared} {Z Z' : ZP} {ρ ρ' : List Addr} {σ σ' : Store} {env : Env} {φ φ' : Frm} {n : Nat}
theorem lots_frm (nds : List Nat) (ties : List PyData) (kept : Bool) : frmOf lT.2 ([S "some", S "ties", S "kept"].zip [.d (.list (natD nds)), .d (.list ties), .d (.bool kept)]) = lφ nds ties kept [] [] := by kernel_rfl
theorem exU_lookup (q : Option (PV × Option PV)) (p : Str × PV) (x : Str) (pv : PV) (nds : List Nat) (ties : List PyData) (kept : Bool) (h : (lφ nds ties kept [p] []).loc.lookup x = some pv) : (lφ nds ties kept (p :: exU q) []).loc.lookup x = some pv := by
  show List.lookup x ((S "some", .d (.list (natD nds))) :: p :: exU q) = _
  replace h : List.lookup x [(S "some", .d (.list (natD nds))), p] = some pv := h
  obtain ⟨y, u⟩ := p
  by_cases e : x = S "some"
  · subst e
    simpa using h
  · have e1 : (x == S "some") = false := by simpa using e
    rw [List.lookup_cons, e1] at h ⊢
    by_cases e2 : x = y
    · subst e2
      simpa using h
    · have e3 : (x == y) = false := by simpa using e2
      simp only [List.lookup_cons, e3] at h
      simp at h

/-- the contract of _law_lots -/
theorem lots_snd (H : HdOk w h₀) (hA : AOk (n + 6) A) {nds : List Nat} (hn : nds ∈ subs) (ties : List PyData) (kept : Bool) {out : List (List Nat)} (hl : lotsF nds (Ek ties kept) = some out) (B : Base prog w h₀ Z ρ σ s) {vals : List Value} (hv : All2 (VR Z ρ) [.d (.list (natD nds)), .d (.list ties), .d (.bool kept)] vals) :
    SndV prog w h₀ A Z ρ s (call (.ref 674) vals) (.d (.list (lotsD out))) σ := by
  obtain ⟨q1, q2, q3, q4⟩ := subs_ok nds hn
  obtain ⟨c1, c2, c3, c4⟩ := lotsF_some hl
  obtain ⟨q, σg, hg, G⟩ := l_graph hn ties kept
  have B0 := B.empty
  have hv0 : All2 (VR Z []) [PV.d (.list (natD nds)), .d (.list ties), .d (.bool kept)] vals := all2_D rfl hv
  have hvl := hv.length
  obtain ⟨σe, P2⟩ := l_comp H n prog hn ties kept (fun p hp => ⟨q3 _ (edges_mem hp).1, q3 _ (edges_mem hp).2⟩) (Nat.lt_of_le_of_lt (edges_len _ q2) (by decide)) G c1
  obtain ⟨φe, hr⟩ := l_rest q2 ties kept out σe c2 c3 c4
  refine frame B (σ' := σe) ?_
  match vals, hvl with
  | [a, b, c], _ =>
    refine call_fn (n := n + 5) (ok_lots H) hA (names := [S "some", S "ties", S "kept"]) (by decide +kernel) rfl B0 hv0 (bd_lots _ a b c) (kd_lots _) fun env s₁ he B₁ L₁ _ => ?_
    have hes : env.scope = lT.2 := he.trans (fs_lots _)
    rw [fs_lots] at L₁
    replace L₁ : Loc Z [] env (lφ nds ties kept [] []) s₁ := by rw [← lots_frm]; exact L₁
    have hA1 : AOk (n + 5) (A.deeper env) := hA.deeper env
    have SL := sound (tokL (prog := prog) H (n + 3)) 80
    have P1 : SndF prog w h₀ (A.deeper env) env Z [] s₁ (execs [lS 0, lS 1, lS 2] env) .nxt (lφ nds ties kept [lG] []) σg :=
      (snd_exs SL hA1 hes hg B₁ L₁).weak (fun x pv h => exU_lookup q lG x pv nds ties kept h) (fun x pv h => h) rfl
    have hAll : SndF prog w h₀ (A.deeper env) env Z [] s₁ (execs lT.1 env) (.ret (.d (.list (lotsD out)))) φe σe := by
      rw [l_body]
      exact SndF.app P1 fun s₂ Z₂ ρ₂ B₂ L₂ => SndF.seq (P2 _ env Z₂ ρ₂ s₂ hA1 hes B₂ L₂) fun s₃ Z₃ ρ₃ B₃ L₃ => snd_exs SL hA1 hes hr B₃ L₃
    exact body_of hAll rfl
end
end Mine
end
section
open PySem PySem.W PyProof.Rows
set_option maxRecDepth 100000
set_option linter.all false
namespace Mine
/-! _law_way, the first list -/
theorem fW_flat (n : Nat) (ties : List PyData) : flatP (fun _ => true) (fun v => match v with | .int u => rowsD (way1 n ties u.toNat) | _ => []) (natD (List.range' 0 n)) = rowsD (way0 n ties) :=
  flatP_flat _ (way1 n ties) (fun v => rfl) _
def unW (n : Nat) (ties : List PyData) : PyData → List PyData
  | .int u => rowsD (way1 n ties u.toNat)
  | _ => []
theorem fW_flat' (n : Nat) (ties : List PyData) : flatP (fun _ => true) (unW n ties) (natD (List.range' 0 n)) = rowsD (way0 n ties) := flatP_flat _ (way1 n ties) (fun v => rfl) _
theorem rowsD_len (r : List (List Nat)) : (rowsD r).length = r.length := by simp [rowsD]
theorem way1_len {n : Nat} (ties : List PyData) (u : Nat) : (way1 n ties u).length ≤ n := by
  unfold way1
  rw [List.length_map]
  refine Nat.le_trans (List.length_filter_le _ _) ?_
  rw [List.length_range']; exact Nat.le_refl _
theorem way0_len {n : Nat} (hn : n ≤ 5) (ties : List PyData) : (way0 n ties).length ≤ 25 := by
  have := flatMap_len (way1 n ties) 5 (List.range' 0 n) (fun u _ => Nat.le_trans (way1_len ties u) hn)
  unfold way0
  rw [List.length_range'] at this
  omega
theorem w_first (N : Nat) (n : Nat) (ties : List PyData) (loc : List (Str × PV)) (σ : Store) (hn : n ≤ 5) : evC (R TJ (N + 6)) wT.2 ⟨loc, wCel (Int.ofNat n) ties, []⟩ wL σ = some (rowsD (way0 n ties), σ) := by
  have hlen := way0_len hn ties
  obtain ⟨φ', _, h⟩ := cItems_flat (r := R TJ (N + 6)) (sc := wS) (x := S "u") (ifs := gF (lcG wL 0)) (inner := cInner (R TJ (N + 6)) wS (lcE wL) (S "v") (gI (lcG wL 1)) (gF (lcG wL 1))) (σ := σ)
    (fun φ => φ = wP [] (Int.ofNat n) ties ∨ ∃ q ext, (ext = [] ∨ ∃ q', ext = [(S "v", q')]) ∧ φ = wP ((S "u", q) :: ext) (Int.ofNat n) ties) (fun _ => true) (unW n ties) (natD (List.range' 0 n))
    (by
      intro w hw φ acc hI hb
      unfold natD at hw
      obtain ⟨u, hu, rfl⟩ := List.mem_map.mp hw
      have hst : ∃ ext, (ext = [] ∨ ∃ q', ext = [(S "v", q')]) ∧ stN wS φ (S "u") (.d (.int (Int.ofNat u))) = some (wP (wUV (.int (Int.ofNat u)) ext) (Int.ofNat n) ties) := by
        rcases hI with rfl | ⟨q, ext, he, rfl⟩
        · exact ⟨[], .inl rfl, w_u0 _ ties _⟩
        · exact ⟨ext, he, w_u1 _ ties ext q _⟩
      obtain ⟨ext, he, hst⟩ := hst
      refine ⟨_, hst, by rw [w_2]; exact evIfs_nil, ?_⟩
      rw [if_pos rfl]
      rw [if_pos rfl] at hb
      obtain ⟨ext', he', h2⟩ := w_inner N n ties u ext he acc σ (by omega) hb
      exact ⟨_, .inr ⟨_, ext', he', rfl⟩, h2⟩)
    (wP [] (Int.ofNat n) ties) [] (.inl rfl) (by rw [fW_flat', rowsD_len, List.length_nil]; omega)
  rw [fW_flat', List.nil_append] at h
  have hi : pIter (.rng 0 (Int.ofNat n) 1) = some (natD (List.range' 0 n)) := pIter_rng 0 n (by omega) (by omega)
  refine evC2 (φ' := φ') w_1 (w_i0 (N + 3) (Int.ofNat n) ties σ loc) hi ?_
  rw [w_fr]
  exact h

/-! the second -/
def w2L : Expr := sVal (sAt (sBody (sAt wT.1 1)) 0)
def w2S : Scope := cScope wT.2 w2L
def w2Ro : List Str := freeN (lcS w2L).names
def w2P (n : Int) (ties : List PyData) (loc ext : List (Str × PV)) : Frm := ⟨loc, wCel n ties ++ ext, w2Ro⟩
def w2C : Expr := (gF (lcG w2L 1)).getD 0 xN
def w2C0 : Expr := (bArgs w2C).getD 0 xN
def w2C1 : Expr := (bArgs w2C).getD 1 xN
def w2C2 : Expr := (bArgs w2C).getD 2 xN
def w3L : Expr := eArg w2C2 0
def w3S : Scope := cScope w2S w3L
def w3C : Expr := (gF (lcG w3L 0)).getD 0 xN
def w3P (ties : List PyData) (w : Int) (loc : List (Str × PV)) : Frm := ⟨loc, [(S "ties", .d (.list ties)), (S "w", .d (.int w))], freeN (lcS w3L).names⟩
theorem v_1 : lcOk2 wT.2 (S "way") (S "w") w2L = true ∧ gF (lcG w2L 0) = [] ∧ gF (lcG w2L 1) = [w2C] ∧ isBo .And w2C = true ∧ bArgs w2C = [w2C0, w2C1, w2C2] ∧ isCmp .NotIn w2C0 = true ∧ isCallN (S "_law_joined") w2C1 = true ∧ isCmp .Eq w2C2 = true ∧ isLC w3L = true ∧ lcOk1 w2S (S "x") w3L = true ∧
    gF (lcG w3L 0) = [w3C] ∧ isCallN (S "_law_joined") w3C = true ∧ isSlc (gI (lcG w3L 0)) = true ∧ isBin .Add (lcE w2L) = true ∧ isList1 (eArg (lcE w2L) 1) = true := by
  refine ⟨?_, ?_, ?_, ?_, ?_, ?_, ?_, ?_, ?_, ?_, ?_, ?_, ?_, ?_, ?_⟩ <;> kernel_rfl
theorem v_2 : eArgs w2C1 = [(eArgs w2C1).getD 0 xN, (eArgs w2C1).getD 1 xN, (eArgs w2C1).getD 2 xN] ∧ noStar ((eArgs w2C1).getD 0 xN) = true ∧ noStar ((eArgs w2C1).getD 1 xN) = true ∧ noStar ((eArgs w2C1).getD 2 xN) = true ∧ isSub ((eArgs w2C1).getD 1 xN) = true := by
  refine ⟨?_, ?_, ?_, ?_, ?_⟩ <;> kernel_rfl
section
variable (N : Nat) (n : Int) (ties : List PyData) (way : List Nat) (w x : Int) (loc ext : List (Str × PV)) (q : PV) (d : PyData) (σ : Store)
def wWay (way : List Nat) : List (Str × PV) := [(S "way", .d (.list (natD way)))]
theorem v_3 : stN w2S (w2P n ties [] ext) (S "way") (.d d) = some (w2P n ties [(S "way", .d d)] ext) := by kernel_rfl
theorem v_4 : stN w2S (w2P n ties [(S "way", q)] ext) (S "way") (.d d) = some (w2P n ties [(S "way", .d d)] ext) := by kernel_rfl
theorem v_5 : stN w2S (w2P n ties loc []) (S "w") (.d d) = some (w2P n ties loc [(S "w", .d d)]) := by kernel_rfl
theorem v_6 : stN w2S (w2P n ties loc [(S "w", q)]) (S "w") (.d d) = some (w2P n ties loc [(S "w", .d d)]) := by kernel_rfl
theorem v_7 : (R TJ (N + 3)).ev w2S (w2P n ties (wWay way) ext) (gI (lcG w2L 1)) σ = some (.rng 0 n 1, σ) := by kernel_rfl
theorem v_8 (ways : List PyData) (l : List (Str × PV)) : (R TJ (N + 1)).ev wT.2 ⟨(S "ways", .d (.list ways)) :: l, wCel n ties, []⟩ (gI (lcG w2L 0)) σ = some (.d (.list ways), σ) := by kernel_rfl
theorem v_9 : cFrm w2L ⟨loc, wCel n ties, []⟩ = w2P n ties [] [] := by kernel_rfl
theorem v_10 : (R TJ (N + 1)).ev w2S (w2P n ties (wWay way) [(S "w", .d d)]) (eArg w2C0 0) σ = some (.d d, σ) := by kernel_rfl
theorem v_11 : (R TJ (N + 1)).ev w2S (w2P n ties (wWay way) ext) (eArg w2C0 1) σ = some (.d (.list (natD way)), σ) := by kernel_rfl
theorem v_12 : (R TJ (N + 1)).ev w2S (w2P n ties (wWay way) ext) ((eArgs w2C1).getD 0 xN) σ = some (.d (.list ties), σ) := by kernel_rfl
theorem v_13 : (R TJ (N + 1)).ev w2S (w2P n ties (wWay way) ext) (eArg ((eArgs w2C1).getD 1 xN) 0) σ = some (.d (.list (natD way)), σ) := by kernel_rfl
theorem v_14 : (R TJ (N + 2)).ev w2S (w2P n ties (wWay way) ext) (eArg ((eArgs w2C1).getD 1 xN) 1) σ = some (.d (.int (-1)), σ) := by kernel_rfl
theorem v_15 : (R TJ (N + 1)).ev w2S (w2P n ties (wWay way) [(S "w", .d d)]) ((eArgs w2C1).getD 2 xN) σ = some (.d d, σ) := by kernel_rfl
theorem v_16 : evCallN TJ w2S (S "_law_joined") [.d (.list ties), .d (.int x), .d (.int w)] σ = some (.d (.bool (jn ties x w)), σ) := by kernel_rfl
theorem v_17 : (R TJ (N + 2)).ev w2S (w2P n ties (wWay way) ext) (eArg w2C2 1) σ = some (.d (.list []), σ) := by kernel_rfl
theorem v_18 : (R TJ (N + 1)).ev w2S (w2P n ties (wWay way) ext) (eArg (gI (lcG w3L 0)) 0) σ = some (.d (.list (natD way)), σ) := by kernel_rfl
theorem v_19 : (R TJ (N + 2)).ev w2S (w2P n ties (wWay way) ext) (slU (gI (lcG w3L 0))) σ = some (.d (.int (-1)), σ) := by kernel_rfl
theorem v_20 : cFrm w3L (w2P n ties loc [(S "w", .d (.int w))]) = w3P ties w [] := by kernel_rfl
theorem v_21 : stN w3S (w3P ties w []) (S "x") (.d d) = some (w3P ties w [(S "x", .d d)]) := by kernel_rfl
theorem v_22 : stN w3S (w3P ties w [(S "x", q)]) (S "x") (.d d) = some (w3P ties w [(S "x", .d d)]) := by kernel_rfl
theorem v_23 : evs (R TJ (N + 1)) w3S (w3P ties w [(S "x", .d (.int x))]) (eArgs w3C) σ = some ([.d (.list ties), .d (.int x), .d (.int w)], σ) := by kernel_rfl
theorem v_24 : evCallN TJ w3S (S "_law_joined") [.d (.list ties), .d (.int x), .d (.int w)] σ = some (.d (.bool (jn ties x w)), σ) := by kernel_rfl
theorem v_25 (φ : Frm) : (R TJ (N + 1)).ev w3S φ (lcE w3L) σ = some (.d (.int 1), σ) := by kernel_rfl
theorem v_26 : (R TJ (N + 1)).ev w2S (w2P n ties (wWay way) ext) (eArg (lcE w2L) 0) σ = some (.d (.list (natD way)), σ) := by kernel_rfl
theorem v_27 : (R TJ (N + 1)).ev w2S (w2P n ties (wWay way) [(S "w", .d d)]) (eArg (eArg (lcE w2L) 1) 0) σ = some (.d d, σ) := by kernel_rfl
end
def wOk (ties : List PyData) (way : List Nat) (w : Nat) : Bool := !way.contains w && (jn ties (Int.ofNat (way.getLastD 0)) (Int.ofNat w) && !way.dropLast.any fun x => jn ties (Int.ofNat x) (Int.ofNat w))
def wSuc (n : Nat) (ties : List PyData) (way : List Nat) : List (List Nat) := ((List.range' 0 n).filter fun w => wOk ties way w).map fun w => way ++ [w]
def wNext (n : Nat) (ties : List PyData) (ways : List (List Nat)) : List (List Nat) := ways.flatMap (wSuc n ties)

theorem v_list (N : Nat) (n : Int) (ties : List PyData) (way : List Nat) (w : Int) (σ : Store) (hl : way.length < 100000) :
    ∃ l, evC (R TJ (N + 3)) w2S (w2P n ties (wWay way) [(S "w", .d (.int w))]) w3L σ = some (l, σ) ∧ l.isEmpty = !way.dropLast.any fun x => jn ties (Int.ofNat x) w := by
  obtain ⟨x1, x2, x3, x4, x5, x6, x7, x8, x9, x10, x11, x12, x13, x14, x15⟩ := v_1
  let p : PyData → Bool := fun y => match y with | .int x => jn ties x w | _ => false
  have hany : (natD way.dropLast).any p = way.dropLast.any fun x => jn ties (Int.ofNat x) w := by
    unfold natD
    rw [List.any_map]; rfl
  have hlen := flatP_len1 p (.int 1) (natD way.dropLast)
  rw [natD_len, List.length_dropLast] at hlen
  obtain ⟨φ', _, h⟩ := cItems_flat (r := R TJ (N + 3)) (sc := w3S) (x := S "x") (ifs := gF (lcG w3L 0)) (inner := cEmit (R TJ (N + 3)) w3S (lcE w3L)) (σ := σ)
    (fun φ => φ = w3P ties w [] ∨ ∃ q, φ = w3P ties w [(S "x", q)]) p (fun _ => [.int 1]) (natD way.dropLast)
    (by
      intro y hy φ acc hI hb
      unfold natD at hy
      obtain ⟨k, -, rfl⟩ := List.mem_map.mp hy
      refine ⟨w3P ties w [(S "x", .d (.int (Int.ofNat k)))], ?_, ?_, ?_⟩
      · rcases hI with rfl | ⟨q, rfl⟩
        · exact v_21 ties w _
        · exact v_22 ties w q _
      · rw [x11]
        exact evIfs_one (tr_of_call x12 (ev_callN x12 (v_23 N ties w _ σ) (v_24 ties w _ σ)) rfl)
      · split
        · exact ⟨_, .inr ⟨_, rfl⟩, cEmit_eq (v_25 (N + 2) σ _) (by omega)⟩
        · exact .inr ⟨_, rfl⟩)
    (w3P ties w []) [] (.inl rfl) (by rw [List.length_nil]; omega)
  refine ⟨_, evC1 (φ' := φ') x10 (ev_slc x13 (v_18 (N + 1) n ties way _ σ) (v_19 N n ties way _ σ) (by rw [sliceTo_m1 _ (by rw [natD_len]; omega), natD_take])) rfl ?_, (flatP_empty p (.int 1) _).trans (by rw [hany])⟩
  rw [v_20]
  exact h

theorem getLast_some {way : List Nat} (h : way ≠ []) : (natD way).getLast? = some (.int (Int.ofNat (way.getLastD 0))) := by
  unfold natD
  rw [List.getLast?_map]
  cases hq : way.getLast? with
  | none => exact absurd (List.getLast?_eq_none_iff.mp hq) h
  | some k =>
    have : way.getLastD 0 = k := by rw [List.getLastD_eq_getLast?, hq]; rfl
    rw [this]; rfl
theorem v_cond (N : Nat) (n : Int) (ties : List PyData) (way : List Nat) (w : Nat) (σ : Store) (hl : way.length < 100000) (hne : way ≠ []) :
    evIfs (R TJ (N + 7)) w2S (w2P n ties (wWay way) [(S "w", .d (.int (Int.ofNat w)))]) (gF (lcG w2L 1)) σ = some (wOk ties way w, σ) := by
  obtain ⟨x1, x2, x3, x4, x5, x6, x7, x8, x9, x10, x11, x12, x13, x14, x15⟩ := v_1
  obtain ⟨y1, y2, y3, y4, y5⟩ := v_2
  rw [x3]
  refine evIfs_one (tr_and x4 ?_)
  rw [x5, show wOk ties way w = (!way.contains w && (jn ties (Int.ofNat (way.getLastD 0)) (Int.ofNat w) && ((!way.dropLast.any fun x => jn ties (Int.ofNat x) (Int.ofNat w)) && true))) by rw [Bool.and_true]; rfl]
  refine evAll_cons (tr_cmp x6 (v_10 (N + 4) n ties way _ σ) (v_11 (N + 4) n ties way _ σ) ?_) fun _ => evAll_cons (tr_of_call x7 (ev_callN x7 (vs := [.d (.list ties), .d (.int (Int.ofNat (way.getLastD 0))), .d (.int (Int.ofNat w))]) (σ1 := σ) ?_ (v_16 ties _ _ σ)) rfl) fun _ => evAll_cons ?_ fun _ => evAll_nil
  · show pCmp .NotIn (.int (Int.ofNat w)) (.list (natD way)) = _
    rw [pCmp_ni, any_natD]
  · rw [y1]
    refine evs_cons y2 (v_12 (N + 3) n ties way _ σ) (evs_cons y3 (ev_sub y5 (v_13 (N + 2) n ties way _ σ) (v_14 (N + 1) n ties way _ σ) ?_) (evs_cons y4 (v_15 (N + 3) n ties way _ σ) evs_nil))
    show (itemAt (natD way) (-1)).map PV.d = _
    rw [itemAt_last (by rw [natD_len]; omega) (getLast_some hne)]; rfl
  · obtain ⟨l, h, he⟩ := v_list (N + 1) n ties way (Int.ofNat w) σ hl
    rw [← he]
    exact tr_cmp x8 (ev_lc x9 h) (v_17 (N + 3) n ties way _ σ) (by exact pCmp_eq_nil l)

theorem v_flat1 (n : Nat) (ties : List PyData) (way : List Nat) : flatP (fun v => match v with | .int w => wOk ties way w.toNat | _ => false) (fX way) (natD (List.range' 0 n)) = rowsD (wSuc n ties way) :=
  flatP_nat _ _ (fun w => wOk ties way w) (fun w => way ++ [w]) (fun v => rfl) (fun v => by simp [fX, natD]) _
def pV (ties : List PyData) (way : List Nat) : PyData → Bool
  | .int w => wOk ties way w.toNat
  | _ => false
theorem v_flat1' (n : Nat) (ties : List PyData) (way : List Nat) : flatP (pV ties way) (fX way) (natD (List.range' 0 n)) = rowsD (wSuc n ties way) :=
  flatP_nat _ _ (fun w => wOk ties way w) (fun w => way ++ [w]) (fun v => rfl) (fun v => by simp [fX, natD]) _
theorem v_inner (N : Nat) (n : Nat) (ties : List PyData) (way : List Nat) (ext : List (Str × PV)) (hext : ext = [] ∨ ∃ q, ext = [(S "w", q)]) (acc : List PyData) (σ : Store) (hl : way.length < 100000) (hne : way ≠ []) (hn : n < 1000000) (hb : acc.length + (rowsD (wSuc n ties way)).length < 1000000) :
    ∃ ext', (ext' = [] ∨ ∃ q, ext' = [(S "w", q)]) ∧ cInner (R TJ (N + 7)) w2S (lcE w2L) (S "w") (gI (lcG w2L 1)) (gF (lcG w2L 1)) (w2P (Int.ofNat n) ties (wWay way) ext) acc σ =
      some (w2P (Int.ofNat n) ties (wWay way) ext', acc ++ rowsD (wSuc n ties way), σ) := by
  obtain ⟨x1, x2, x3, x4, x5, x6, x7, x8, x9, x10, x11, x12, x13, x14, x15⟩ := v_1
  have hi : pIter (.rng 0 (Int.ofNat n) 1) = some (natD (List.range' 0 n)) := pIter_rng 0 n (by omega) hn
  rw [cInner_eq (v_7 (N + 4) (Int.ofNat n) ties way ext σ) hi, ← v_flat1']
  obtain ⟨φ', hI, h⟩ := cItems_flat (r := R TJ (N + 7)) (sc := w2S) (x := S "w") (ifs := gF (lcG w2L 1)) (inner := cEmit (R TJ (N + 7)) w2S (lcE w2L)) (σ := σ)
    (fun φ => ∃ ext', (ext' = [] ∨ ∃ q, ext' = [(S "w", q)]) ∧ φ = w2P (Int.ofNat n) ties (wWay way) ext') (pV ties way) (fX way) (natD (List.range' 0 n))
    (by
      intro y hy φ acc hI hb
      unfold natD at hy
      obtain ⟨k, -, rfl⟩ := List.mem_map.mp hy
      refine ⟨w2P (Int.ofNat n) ties (wWay way) [(S "w", .d (.int (Int.ofNat k)))], ?_, v_cond N (Int.ofNat n) ties way k σ hl hne, ?_⟩
      · obtain ⟨ext', (rfl | ⟨q, rfl⟩), rfl⟩ := hI
        · exact v_5 _ ties _ _
        · exact v_6 _ ties _ _ _
      · split
        · refine ⟨_, ⟨_, .inr ⟨_, rfl⟩, rfl⟩, cEmit_eq (x := .list (natD way ++ [.int (Int.ofNat k)])) ?_ (by simp [fX] at hb; omega)⟩
          exact ev_cat x14 (v_26 (N + 5) _ ties way _ σ) (ev_list1 x15 (v_27 (N + 4) _ ties way _ σ)) (by rw [natD_len]; simp; omega)
        · exact ⟨_, .inr ⟨_, rfl⟩, rfl⟩)
    _ acc ⟨ext, hext, rfl⟩ (by rw [v_flat1']; exact hb)
  obtain ⟨ext', he, rfl⟩ := hI
  exact ⟨ext', he, h⟩
theorem v_flat2 (n : Nat) (ties : List PyData) : ∀ ways : List (List Nat), flatP (fun _ => true) (fun w => rowsD (wSuc n ties (decN w))) (rowsD ways) = rowsD (wNext n ties ways)
  | [] => rfl
  | way :: ways => by
    have ih := v_flat2 n ties ways
    unfold flatP rowsD wNext at ih ⊢
    rw [List.map_cons, List.flatMap_cons, ih, List.flatMap_cons, List.map_append]
    simp [decN_natD, rowsD]
theorem v_turn (N : Nat) (n : Nat) (ties : List PyData) (ways : List (List Nat)) (l : List (Str × PV)) (σ : Store) (hn : n < 1000000) (h1 : ∀ way ∈ ways, way.length < 100000 ∧ way ≠ []) (h2 : (wNext n ties ways).length < 1000000) :
    evC (R TJ (N + 7)) wT.2 ⟨(S "ways", .d (.list (rowsD ways))) :: l, wCel (Int.ofNat n) ties, []⟩ w2L σ = some (rowsD (wNext n ties ways), σ) := by
  obtain ⟨x1, x2, x3, x4, x5, x6, x7, x8, x9, x10, x11, x12, x13, x14, x15⟩ := v_1
  obtain ⟨φ', hI, h⟩ := cItems_flat (r := R TJ (N + 7)) (sc := w2S) (x := S "way") (ifs := gF (lcG w2L 0)) (inner := cInner (R TJ (N + 7)) w2S (lcE w2L) (S "w") (gI (lcG w2L 1)) (gF (lcG w2L 1))) (σ := σ)
    (fun φ => ∃ ext', (ext' = [] ∨ ∃ q, ext' = [(S "w", q)]) ∧ ∃ loc, (loc = [] ∨ ∃ q, loc = [(S "way", q)]) ∧ φ = w2P (Int.ofNat n) ties loc ext') (fun _ => true) (fun w => rowsD (wSuc n ties (decN w))) (rowsD ways)
    (by
      intro w hw φ acc hI hb
      unfold rowsD at hw
      obtain ⟨way, hway, rfl⟩ := List.mem_map.mp hw
      obtain ⟨ext', he, loc, hloc, rfl⟩ := hI
      simp only [if_true, decN_natD] at hb
      obtain ⟨ext2, he2, hin⟩ := v_inner N n ties way ext' he acc σ (h1 way hway).1 (h1 way hway).2 hn hb
      refine ⟨w2P (Int.ofNat n) ties (wWay way) ext', ?_, by rw [x2]; exact evIfs_nil, ?_⟩
      · rcases hloc with rfl | ⟨q, rfl⟩
        · exact v_3 _ ties _ _
        · exact v_4 _ ties _ _ _
      · rw [if_pos rfl]
        refine ⟨_, ⟨ext2, he2, wWay way, .inr ⟨_, rfl⟩, rfl⟩, ?_⟩
        rw [hin, decN_natD])
    (w2P (Int.ofNat n) ties [] []) [] ⟨[], .inl rfl, [], .inl rfl, rfl⟩ (by rw [v_flat2, rowsD_len, List.length_nil]; omega)
  rw [v_flat2, List.nil_append] at h
  refine evC2 (φ' := φ') x1 (v_8 (N + 6) (Int.ofNat n) ties σ _ l) rfl ?_
  rw [v_9]
  exact h

/-! the whole -/
def wayF (n : Nat) (ties : List PyData) : Bool := !(wNext n ties (wNext n ties (way0 n ties))).isEmpty
def wW (n : Int) (ties : List PyData) (ways : List (List Nat)) (l : List (Str × PV)) : Frm := ⟨(S "ways", .d (.list (rowsD ways))) :: l, wCel n ties, []⟩
theorem y_1 : wT.1 = [sAt wT.1 0, sAt wT.1 1, sAt wT.1 2] ∧ isAs (S "ways") (sAt wT.1 0) = true ∧ isLC wL = true ∧ mutN.contains (S "ways") = false ∧ isFor (S "turn") (sAt wT.1 1) = true ∧ sBody (sAt wT.1 1) = [sAt (sBody (sAt wT.1 1)) 0] ∧ isAs (S "ways") (sAt (sBody (sAt wT.1 1)) 0) = true ∧ isLC w2L = true ∧ isRet (sAt wT.1 2) = true ∧ isCmp .NotEq (sVal (sAt wT.1 2)) = true := by
  refine ⟨?_, ?_, ?_, ?_, ?_, ?_, ?_, ?_, ?_, ?_⟩ <;> kernel_rfl
section
variable (N : Nat) (n : Int) (ties : List PyData) (ways : List (List Nat)) (l : List (Str × PV)) (q : PV) (d : PyData) (σ : Store)
theorem y_2 : stN wT.2 ⟨[], wCel n ties, []⟩ (S "ways") (.d (.list (rowsD ways))) = some (wW n ties ways []) := by kernel_rfl
theorem y_3 (ways' : List (List Nat)) : stN wT.2 (wW n ties ways l) (S "ways") (.d (.list (rowsD ways'))) = some (wW n ties ways' l) := by kernel_rfl
theorem y_4 : (R TJ (N + 3)).ev wT.2 (wW n ties ways l) (sVal (sAt wT.1 1)) σ = some (.rng 0 2 1, σ) := by kernel_rfl
theorem y_5 : forItems (.rng 0 2 1) σ = some ([.int 0, .int 1], σ) := by kernel_rfl
theorem y_6 : stN wT.2 (wW n ties ways []) (S "turn") (.d d) = some (wW n ties ways [(S "turn", .d d)]) := by kernel_rfl
theorem y_7 : stN wT.2 (wW n ties ways [(S "turn", q)]) (S "turn") (.d d) = some (wW n ties ways [(S "turn", .d d)]) := by kernel_rfl
theorem y_8 : (R TJ (N + 1)).ev wT.2 (wW n ties ways l) (eArg (sVal (sAt wT.1 2)) 0) σ = some (.d (.list (rowsD ways)), σ) := by kernel_rfl
theorem y_9 : (R TJ (N + 2)).ev wT.2 (wW n ties ways l) (eArg (sVal (sAt wT.1 2)) 1) σ = some (.d (.list []), σ) := by kernel_rfl
end
theorem wSuc_len {n : Nat} (ties : List PyData) (way : List Nat) : (wSuc n ties way).length ≤ n := by
  unfold wSuc
  rw [List.length_map]
  refine Nat.le_trans (List.length_filter_le _ _) ?_
  rw [List.length_range']; exact Nat.le_refl _
theorem wNext_len {n : Nat} (hn : n ≤ 5) (ties : List PyData) (ways : List (List Nat)) : (wNext n ties ways).length ≤ ways.length * 5 := flatMap_len (wSuc n ties) 5 ways (fun w _ => Nat.le_trans (wSuc_len ties w) hn)
def rowsOf (k : Nat) (ways : List (List Nat)) : Prop := ∀ way ∈ ways, way.length = k
theorem way0_rows (n : Nat) (ties : List PyData) : rowsOf 2 (way0 n ties) := fun way h => by
  unfold way0 at h
  obtain ⟨u, _, h⟩ := List.mem_flatMap.mp h
  unfold way1 at h
  obtain ⟨v, _, rfl⟩ := List.mem_map.mp h
  rfl
theorem wNext_rows {n : Nat} {ties : List PyData} {ways : List (List Nat)} {k : Nat} (h : rowsOf k ways) : rowsOf (k + 1) (wNext n ties ways) := fun way hw => by
  unfold wNext at hw
  obtain ⟨w, hw1, hw2⟩ := List.mem_flatMap.mp hw
  unfold wSuc at hw2
  obtain ⟨v, _, rfl⟩ := List.mem_map.mp hw2
  rw [List.length_append, h w hw1]; rfl
theorem rows_ok {k : Nat} {ways : List (List Nat)} (h : rowsOf k ways) (hk : 1 ≤ k ∧ k < 1000) : ∀ way ∈ ways, way.length < 100000 ∧ way ≠ [] := fun way hw => by
  have := h way hw
  exact ⟨by omega, fun e => by rw [e] at this; simp at this; omega⟩
theorem pCmp_ne_rows (a : List PyData) : sCmp .NotEq (.d (.list a)) (.d (.list [])) σ = some (!a.isEmpty) := pCmp_ne_nil a
def wayR (vs : List PV) : Option (PV × Store) := runF TJ 40 false wT [S "n", S "ties"] vs []
theorem way_exs (n : Nat) (hn : n ≤ 5) (ties : List PyData) (σ : Store) : ∃ φ', exs (R TJ 40) wT.2 wT.1 ⟨[], wCel (Int.ofNat n) ties, []⟩ σ = some (.ret (.d (.bool (wayF n ties))), φ', σ) := by
  obtain ⟨x1, x2, x3, x4, x5, x6, x7, x8, x9, x10⟩ := y_1
  have l0 := way0_len hn ties
  have l1 := wNext_len hn ties (way0 n ties)
  have l2 := wNext_len hn ties (wNext n ties (way0 n ties))
  have S0 : (R TJ 40).ex wT.2 (sAt wT.1 0) ⟨[], wCel (Int.ofNat n) ties, []⟩ σ = some (.nxt, wW (Int.ofNat n) ties (way0 n ties) [], σ) :=
    ex_as_lc x2 x3 x4 (w_first 33 n ties [] σ hn) (y_2 _ ties _)
  have turn : ∀ (ways : List (List Nat)) (d : PyData), (∀ way ∈ ways, way.length < 100000 ∧ way ≠ []) → (wNext n ties ways).length < 1000000 → exs (R TJ 39) wT.2 (sBody (sAt wT.1 1)) (wW (Int.ofNat n) ties ways [(S "turn", .d d)]) σ = some (.nxt, wW (Int.ofNat n) ties (wNext n ties ways) [(S "turn", .d d)], σ) := fun ways d h1 h2 => by
    rw [x6]
    exact exs_cons (ex_as_lc x7 x8 x4 (v_turn 31 n ties ways _ σ (by omega) h1 h2) (y_3 _ ties ways _ _)) exs_nil
  have S1 : (R TJ 40).ex wT.2 (sAt wT.1 1) (wW (Int.ofNat n) ties (way0 n ties) []) σ = some (.nxt, wW (Int.ofNat n) ties (wNext n ties (wNext n ties (way0 n ties))) [(S "turn", .d (.int 1))], σ) :=
    ex_for x5 (y_4 36 _ ties _ _ σ) (y_5 σ) (eFor_cons (y_6 _ ties _ _) (turn _ _ (rows_ok (way0_rows n ties) (by omega)) (by omega)) (eFor_cons (y_7 _ ties _ _ _) (turn _ _ (rows_ok (wNext_rows (way0_rows n ties)) (by omega)) (by omega)) eFor_nil))
  have S2 : (R TJ 40).ex wT.2 (sAt wT.1 2) (wW (Int.ofNat n) ties (wNext n ties (wNext n ties (way0 n ties))) [(S "turn", .d (.int 1))]) σ = some (.ret (.d (.bool (wayF n ties))), wW (Int.ofNat n) ties (wNext n ties (wNext n ties (way0 n ties))) [(S "turn", .d (.int 1))], σ) := by
    have e : wayF n ties = !(rowsD (wNext n ties (wNext n ties (way0 n ties)))).isEmpty := by
      unfold wayF rowsD
      cases wNext n ties (wNext n ties (way0 n ties)) <;> rfl
    rw [e]
    exact ex_ret x9 (ev_cmp x10 (y_8 37 _ ties _ _ σ) (y_9 36 _ ties _ _ σ) (pCmp_ne_rows _))
  rw [x1]
  exact ⟨_, exs_cons S0 (exs_cons S1 (exs_ret S2))⟩
theorem way_frm (n : Int) (ties : List PyData) : frmOf wT.2 ([S "n", S "ties"].zip [.d (.int n), .d (.list ties)]) = ⟨[], wCel n ties, []⟩ := by kernel_rfl
theorem way_run (n : Nat) (hn : n ≤ 5) (ties : List PyData) : wayR [.d (.int (Int.ofNat n)), .d (.list ties)] = some (.d (.bool (wayF n ties)), []) := by
  obtain ⟨φ', h⟩ := way_exs n hn ties []
  unfold wayR runF
  rw [if_pos (by rfl), way_frm, h]
  rfl
end Mine
end
section
open PySem PySem.W PyProof.Rows
set_option maxRecDepth 100000
set_option linter.all false
namespace Mine
section
variable {T : Txt} {r : Rec} {N : Nat} {sc : Scope} {φ φ' : Frm} {e : Expr} {st : Stmt} {σ σ1 σ2 σ3 : Store}
theorem ex_as_lc_new {x : Str} {xs : List PyData} (hs : isAs x st = true) (hl : isLC (sVal st) = true) (hm : mutN.contains x = true) (h : evC (R T N) sc φ (sVal st) σ = some (xs, σ1)) (hst : stN sc φ x (.ref σ1.length) = some φ') :
    (R T (N + 1)).ex sc st φ σ = some (.nxt, φ', σ1 ++ [.list xs]) := by
  unfold isAs at hs
  split at hs
  · rename_i y p value p'
    have hf := Str.beq_eq hs
    subst hf
    replace hl : isLC value = true := hl
    cases value <;> simp only [isLC, Bool.false_eq_true] at hl
    simp only [sVal, evC] at h
    rw [R_ex]
    simp only [stepEx, h, hm, hst, if_true, Option.map_some]
  · cases hs
end
/-! _law_numbers -/
def zD (xs : List Int) : List PyData := xs.map .int
theorem zD_len (xs : List Int) : (zD xs).length = xs.length := by simp [zD]
def nT : List Stmt × Scope := txtOf "_law_numbers"
def nS (n : Nat) : Stmt := sAt nT.1 n
def nW (n : Nat) : Stmt := sAt (sBody (nS 3)) n
def nB : Stmt := sAt (sBody (nS 2)) 0
def nL : Expr := sVal (nS 0)
def nφ (script : List Int) (ext : List (Str × PV)) : Frm := ⟨[(S "script", .d (.list (zD script))), (S "many", .d (.int 3))] ++ ext, [], []⟩
def nX (last : Int) (xs : List (Str × PV)) : List (Str × PV) := [(S "found", .ref 0), (S "last", .d (.int last))] ++ xs
def nCs : Scope := cScope nT.2 nL
theorem n_1 : nT.1 = [nS 0, nS 1, nS 2, nS 3, nS 4] ∧ isAs (S "found") (nS 0) = true ∧ isLC nL = true ∧ mutN.contains (S "found") = true ∧ lcOk1 nT.2 (S "x") nL = true ∧ gF (lcG nL 0) = [] ∧ isSlc (gI (lcG nL 0)) = true ∧ isFor (S "x") (nS 2) = true ∧ sBody (nS 2) = [nB] ∧ isWhile (nS 3) = true ∧ sBody (nS 3) = [nW 0, nW 1] := by
  refine ⟨?_, ?_, ?_, ?_, ?_, ?_, ?_, ?_, ?_, ?_, ?_⟩ <;> kernel_rfl
def nE : Expr := sVal nB
def nE2 : Expr := sVal (nW 0)
def nE3 : Expr := sVal (nW 1)
theorem n_2 : isAs (S "last") nB = true ∧ plainVal nE = true ∧ (mutN.contains (S "last") && isNewForm nE) = false ∧ isBin .Mod nE = true ∧ isBin .Add (eArg nE 0) = true ∧ isBin .Mult (eArg (eArg nE 0) 0) = true := by refine ⟨?_, ?_, ?_, ?_, ?_, ?_⟩ <;> kernel_rfl
theorem n_3 : isAs (S "last") (nW 0) = true ∧ plainVal nE2 = true ∧ (mutN.contains (S "last") && isNewForm nE2) = false ∧ isBin .Mod nE2 = true ∧ isBin .Add (eArg nE2 0) = true ∧ isBin .Mult (eArg (eArg nE2 0) 0) = true := by refine ⟨?_, ?_, ?_, ?_, ?_, ?_⟩ <;> kernel_rfl
theorem n_4 : isExC (nW 1) = true ∧ isCallM (S "append") nE3 = true ∧ eArgs nE3 = [(eArgs nE3).getD 0 xN] ∧ noStar ((eArgs nE3).getD 0 xN) = true ∧ isBin .FloorDiv ((eArgs nE3).getD 0 xN) = true ∧ isCmp .Lt (sVal (nS 3)) = true ∧ isCallN (S "len") (eArg (sVal (nS 3)) 0) = true := by
  refine ⟨?_, ?_, ?_, ?_, ?_, ?_, ?_⟩ <;> kernel_rfl
section
variable (N : Nat) (script : List Int) (last x : Int) (ext xs : List (Str × PV)) (σ : Store) (d : PyData) (q : PV)
theorem n_5 : (R T0 (N + 1)).ev nT.2 (nφ script ext) (eArg (gI (lcG nL 0)) 0) σ = some (.d (.list (zD script)), σ) := by kernel_rfl
theorem n_6 : (R T0 (N + 1)).ev nT.2 (nφ script ext) (slU (gI (lcG nL 0))) σ = some (.d (.int 3), σ) := by kernel_rfl
theorem n_7 : cFrm nL (nφ script ext) = ⟨[], [], []⟩ := by kernel_rfl
theorem n_8 : stN nCs ⟨[], [], []⟩ (S "x") (.d d) = some ⟨[(S "x", .d d)], [], []⟩ := by kernel_rfl
theorem n_9 : stN nCs ⟨[(S "x", q)], [], []⟩ (S "x") (.d d) = some ⟨[(S "x", .d d)], [], []⟩ := by kernel_rfl
theorem n_10 : (R T0 (N + 1)).ev nCs ⟨[(S "x", .d d)], [], []⟩ (lcE nL) σ = some (.d d, σ) := by kernel_rfl
theorem n_11 : stN nT.2 (nφ script []) (S "found") (.ref 0) = some (nφ script [(S "found", .ref 0)]) := by kernel_rfl
theorem n_14 : isAs (S "last") (nS 1) = true ∧ plainVal (sVal (nS 1)) = true ∧ (mutN.contains (S "last") && isNewForm (sVal (nS 1))) = false ∧ isBin .Add (sVal (nS 1)) = true ∧ isCallN (S "len") (eArg (sVal (nS 1)) 1) = true := by refine ⟨?_, ?_, ?_, ?_, ?_⟩ <;> kernel_rfl
theorem n_15 : (R T0 (N + 1)).ev nT.2 (nφ script ext) (eArg (sVal (nS 1)) 0) σ = some (.d (.int 7), σ) := by kernel_rfl
theorem n_16 : evs (R T0 (N + 1)) nT.2 (nφ script ext) (eArgs (eArg (sVal (nS 1)) 1)) σ = some ([.d (.list (zD script))], σ) := by kernel_rfl
theorem n_17 (vs : List PV) : evCallN T0 nT.2 (S "len") vs σ = (pFun "len" vs σ).map fun v => (v, σ) := by kernel_rfl
theorem n_18 : stN nT.2 (nφ script [(S "found", .ref 0)]) (S "last") (.d (.int last)) = some (nφ script (nX last [])) := by kernel_rfl
theorem n_19 : stN nT.2 (nφ script (nX last xs)) (S "last") (.d (.int x)) = some (nφ script (nX x xs)) := by kernel_rfl
theorem n_20 : stN nT.2 (nφ script (nX last [])) (S "x") (.d d) = some (nφ script (nX last [(S "x", .d d)])) := by kernel_rfl
theorem n_21 : stN nT.2 (nφ script (nX last [(S "x", q)])) (S "x") (.d d) = some (nφ script (nX last [(S "x", .d d)])) := by kernel_rfl
theorem n_22 : (R T0 (N + 1)).ev nT.2 (nφ script (nX last xs)) (sVal (nS 2)) σ = some (.d (.list (zD script)), σ) := by kernel_rfl
theorem n_23 : (R T0 (N + 1)).ev nT.2 (nφ script (nX last xs)) (eArg (eArg (eArg nE 0) 0) 0) σ = some (.d (.int last), σ) := by kernel_rfl
theorem n_24 : (R T0 (N + 1)).ev nT.2 (nφ script (nX last xs)) (eArg (eArg (eArg nE 0) 0) 1) σ = some (.d (.int 31), σ) := by kernel_rfl
theorem n_25 : (R T0 (N + 1)).ev nT.2 (nφ script (nX last [(S "x", .d (.int x))])) (eArg (eArg nE 0) 1) σ = some (.d (.int x), σ) := by kernel_rfl
theorem n_26 : (R T0 (N + 1)).ev nT.2 (nφ script (nX last xs)) (eArg nE 1) σ = some (.d (.int 2147483647), σ) := by kernel_rfl
theorem n_27 : (R T0 (N + 1)).ev nT.2 (nφ script (nX last xs)) (eArg (eArg (eArg nE2 0) 0) 0) σ = some (.d (.int last), σ) := by kernel_rfl
theorem n_28 : (R T0 (N + 1)).ev nT.2 (nφ script (nX last xs)) (eArg (eArg (eArg nE2 0) 0) 1) σ = some (.d (.int 48271), σ) := by kernel_rfl
theorem n_29 : (R T0 (N + 1)).ev nT.2 (nφ script (nX last xs)) (eArg (eArg nE2 0) 1) σ = some (.d (.int 11), σ) := by kernel_rfl
theorem n_30 : (R T0 (N + 1)).ev nT.2 (nφ script (nX last xs)) (eArg nE2 1) σ = some (.d (.int 2147483647), σ) := by kernel_rfl
theorem n_31 : (R T0 (N + 1)).ev nT.2 (nφ script (nX last xs)) (cmObj nE3) σ = some (.ref 0, σ) := by kernel_rfl
theorem n_32 : (R T0 (N + 1)).ev nT.2 (nφ script (nX last xs)) (eArg ((eArgs nE3).getD 0 xN) 0) σ = some (.d (.int last), σ) := by kernel_rfl
theorem n_33 : (R T0 (N + 1)).ev nT.2 (nφ script (nX last xs)) (eArg ((eArgs nE3).getD 0 xN) 1) σ = some (.d (.int 13), σ) := by kernel_rfl
theorem n_34 : evs (R T0 (N + 1)) nT.2 (nφ script (nX last xs)) (eArgs (eArg (sVal (nS 3)) 0)) σ = some ([.ref 0], σ) := by kernel_rfl
theorem n_35 : (R T0 (N + 1)).ev nT.2 (nφ script (nX last xs)) (eArg (sVal (nS 3)) 1) σ = some (.d (.int 3), σ) := by kernel_rfl
theorem n_36 : (R T0 (N + 2)).ex nT.2 (nS 4) (nφ script (nX last xs)) σ = some (.ret (.ref 0), nφ script (nX last xs), σ) := by kernel_rfl
end
theorem pb_mult (a : Int) (b : Int) (h : b.natAbs < 2 ^ 32) : pBin .Mult (.int a) (.int b) = some (.int (a * b)) := by simp only [pBin, if_pos h]
theorem pb_mod (a : Int) (b : Int) (h : b ≠ 0) : pBin .Mod (.int a) (.int b) = some (.int (a.fmod b)) := by simp only [pBin, if_neg h]
theorem pb_fdiv (a : Int) (b : Int) (h : b ≠ 0) (h2 : b.natAbs < 1073741824) : pBin .FloorDiv (.int a) (.int b) = some (.int (a.fdiv b)) := by simp only [pBin, if_neg h, if_pos h2]
theorem pb_add (a b : Int) : pBin .Add (.int a) (.int b) = some (.int (a + b)) := rfl
theorem n_first (script : List Int) (hl : script.length < 1000) : (R T0 60).ex nT.2 (nS 0) (nφ script []) [] = some (.nxt, nφ script [(S "found", .ref 0)], [.list (zD (script.take 3))]) := by
  obtain ⟨x1, x2, x3, x4, x5, x6, x7, x8, x9, x10, x11⟩ := n_1
  have hsl : sliceTo (zD script) 3 = some (.list (zD (script.take 3))) := by
    unfold sliceTo
    rw [if_pos (by rw [zD_len]; omega), if_pos (by decide), if_pos (by decide)]
    unfold zD
    rw [List.map_take]; rfl
  obtain ⟨φ', _, h⟩ := cItems_flat (r := R T0 59) (sc := nCs) (x := S "x") (ifs := gF (lcG nL 0)) (inner := cEmit (R T0 59) nCs (lcE nL)) (σ := [])
    (fun φ => φ = ⟨[], [], []⟩ ∨ ∃ q, φ = ⟨[(S "x", q)], [], []⟩) (fun _ => true) (fun v => [v]) (zD (script.take 3))
    (by
      intro y hy φ acc hI hb
      refine ⟨⟨[(S "x", .d y)], [], []⟩, ?_, by rw [x6]; exact evIfs_nil, ?_⟩
      · rcases hI with rfl | ⟨q, rfl⟩
        · exact n_8 _
        · exact n_9 _ _
      · rw [if_pos rfl]
        exact ⟨_, .inr ⟨_, rfl⟩, cEmit_eq (n_10 58 [] y) (by simp at hb; omega)⟩)
    ⟨[], [], []⟩ [] (.inl rfl) (by rw [flat_self, zD_len, List.length_nil, List.length_take]; omega)
  rw [flat_self, List.nil_append] at h
  have hc : evC (R T0 59) nT.2 (nφ script []) nL [] = some (zD (script.take 3), []) := by
    refine evC1 (φ' := φ') x5 (ev_slc x7 (n_5 57 script [] []) (n_6 57 script [] []) hsl) rfl ?_
    rw [n_7]
    exact h
  exact ex_as_lc_new x2 x3 x4 hc (n_11 script)
theorem n_loop (N : Nat) (script : List Int) (σ : Store) : ∀ (rest : List Int) (last : Int) (q : Option PV), ∃ last' q', eFor (R T0 (N + 6)) nT.2 (S "x") (sBody (nS 2)) (zD rest) (nφ script (nX last (match q with | none => [] | some q => [(S "x", q)]))) σ =
    some (.nxt, nφ script (nX last' q'), σ)
  | [], last, q => ⟨last, _, by show eFor _ _ _ _ [] _ _ = _; rw [eFor_nil]⟩
  | x :: rest, last, q => by
    obtain ⟨x1, x2, x3, x4, x5, x6⟩ := n_2
    have hst : stN nT.2 (nφ script (nX last (match q with | none => [] | some q => [(S "x", q)]))) (S "x") (.d (.int x)) = some (nφ script (nX last [(S "x", .d (.int x))])) := by
      cases q with
      | none => exact n_20 script last _
      | some q => exact n_21 script last _ q
    have hv : (R T0 (N + 5)).ev nT.2 (nφ script (nX last [(S "x", .d (.int x))])) nE σ = some (.d (.int ((last * 31 + x).fmod 2147483647)), σ) :=
      ev_bin x4 (ev_bin x5 (ev_bin x6 (n_23 (N + 1) script last _ σ) (n_24 (N + 1) script last _ σ) (pb_mult _ _ (by decide))) (n_25 (N + 2) script last x σ) (pb_add _ _)) (n_26 (N + 3) script last _ σ) (pb_mod _ _ (by decide))
    have hbody : exs (R T0 (N + 6)) nT.2 (sBody (nS 2)) (nφ script (nX last [(S "x", .d (.int x))])) σ = some (.nxt, nφ script (nX ((last * 31 + x).fmod 2147483647) [(S "x", .d (.int x))]), σ) := by
      rw [n_1.2.2.2.2.2.2.2.2.1]
      exact exs_cons (ex_as x1 x2 x3 hv (n_19 script last _ _)) exs_nil
    obtain ⟨last', q', hr⟩ := n_loop N script σ rest ((last * 31 + x).fmod 2147483647) (some (.d (.int x)))
    refine ⟨last', q', ?_⟩
    show eFor _ _ _ _ (.int x :: zD rest) _ _ = _
    exact eFor_cons hst hbody hr
theorem n_while (N : Nat) (script : List Int) (ext : List (Str × PV)) : ∀ (f : Nat) (found : List Int) (last : Int), found.length + f = 3 → ∃ last' found', found'.length = 3 ∧ (R T0 (N + f + 9)).wh nT.2 (sVal (nS 3)) (sBody (nS 3)) (nφ script (nX last ext)) [.list (zD found)] =
    some (.nxt, nφ script (nX last' ext), [.list (zD found')])
  | f, found, last, hf => by
    obtain ⟨y1, y2, y3, y4, y5, y6, y7⟩ := n_4
    have ht : (R T0 (N + f + 8)).tr nT.2 (nφ script (nX last ext)) (sVal (nS 3)) [.list (zD found)] = some (decide ((found.length : Int) < 3), [.list (zD found)]) := by
      have h1 : (R T0 (N + f + 7)).ev nT.2 (nφ script (nX last ext)) (eArg (sVal (nS 3)) 0) [.list (zD found)] = some (.d (.int (found.length : Int)), [.list (zD found)]) :=
        ev_callN y7 (n_34 (N + f + 5) script last ext _) (by
          rw [n_17]
          have : pFun "len" [.ref 0] [PO.list (zD found)] = some (.d (.int (found.length : Int))) := by
            simp [pFun, zD_len]; omega
          rw [this]; rfl)
      exact tr_cmp y6 h1 (n_35 (N + f + 6) script last ext _) (by exact pCmp_lt _ _)
    cases f with
    | zero =>
      have : decide ((found.length : Int) < 3) = false := by rw [decide_eq_false]; omega
      rw [this] at ht
      exact ⟨last, found, by omega, wh_F ht⟩
    | succ f =>
      have : decide ((found.length : Int) < 3) = true := by rw [decide_eq_true]; omega
      rw [this] at ht
      obtain ⟨x1, x2, x3, x4, x5, x6⟩ := n_3
      have hv : (R T0 (N + (f + 1) + 7)).ev nT.2 (nφ script (nX last ext)) nE2 [.list (zD found)] = some (.d (.int ((last * 48271 + 11).fmod 2147483647)), [.list (zD found)]) :=
        ev_bin x4 (ev_bin x5 (ev_bin x6 (n_27 (N + (f + 1) + 3) script last _ _) (n_28 (N + (f + 1) + 3) script last _ _) (pb_mult _ _ (by decide))) (n_29 (N + (f + 1) + 4) script last _ _) (pb_add _ _)) (n_30 (N + (f + 1) + 5) script last _ _) (pb_mod _ _ (by decide))
      generalize (last * 48271 + 11).fmod 2147483647 = last2 at hv
      have W0 : (R T0 (N + (f + 1) + 8)).ex nT.2 (nW 0) (nφ script (nX last ext)) [.list (zD found)] = some (.nxt, nφ script (nX last2 ext), [.list (zD found)]) := ex_as x1 x2 x3 hv (n_19 script last _ _)
      have he : evs (R T0 (N + (f + 1) + 6)) nT.2 (nφ script (nX last2 ext)) (eArgs nE3) [.list (zD found)] = some ([.d (.int (last2.fdiv 13))], [.list (zD found)]) := by
        rw [y3]
        exact evs_cons y4 (ev_bin y5 (n_32 (N + (f + 1) + 4) script last2 _ _) (n_33 (N + (f + 1) + 4) script last2 _ _) (pb_fdiv _ _ (by decide) (by decide))) evs_nil
      have W1 : (R T0 (N + (f + 1) + 8)).ex nT.2 (nW 1) (nφ script (nX last2 ext)) [.list (zD found)] = some (.nxt, nφ script (nX last2 ext), [.list (zD (found ++ [last2.fdiv 13]))]) := by
        refine ex_expr y1 (ev_callM y2 (n_31 (N + (f + 1) + 5) script last2 ext _) (calM_list (T := T0) (xs := zD found) rfl (bi_append _)) he ?_)
        have := run_append (σ := [PO.list (zD found)]) (k := 0) (xs := zD found) (x := .int (last2.fdiv 13)) rfl (by rw [zD_len]; omega)
        have e : zD (found ++ [last2.fdiv 13]) = zD found ++ [.int (last2.fdiv 13)] := by simp [zD]
        rw [e]
        exact this
      have hbody : exs (R T0 (N + (f + 1) + 8)) nT.2 (sBody (nS 3)) (nφ script (nX last ext)) [.list (zD found)] = some (.nxt, nφ script (nX last2 ext), [.list (zD (found ++ [last2.fdiv 13]))]) := by
        rw [n_1.2.2.2.2.2.2.2.2.2.2]
        exact exs_cons W0 (exs_cons W1 exs_nil)
      obtain ⟨last', found', h3, hw⟩ := n_while N script ext f (found ++ [last2.fdiv 13]) last2 (by simp; omega)
      refine ⟨last', found', h3, wh_T ht hbody ?_⟩
      have e : N + (f + 1) + 8 = N + f + 9 := by omega
      rw [e]
      exact hw
def numR (vs : List PV) : Option (PV × Store) := runF T0 60 true nT [S "script", S "many"] vs []
theorem num_frm (script : List Int) : frmOf nT.2 ([S "script", S "many"].zip [.d (.list (zD script)), .d (.int 3)]) = nφ script [] := by kernel_rfl
theorem num_run (script : List Int) (hl : script.length < 1000) : ∃ a b c, numR [.d (.list (zD script)), .d (.int 3)] = some (.d (.list [.int a, .int b, .int c]), [.dead]) := by
  have S0 := n_first script hl
  obtain ⟨z1, z2, z3, z4, z5⟩ := n_14
  have hv : (R T0 59).ev nT.2 (nφ script [(S "found", .ref 0)]) (sVal (nS 1)) [.list (zD (script.take 3))] = some (.d (.int (7 + (script.length : Int))), [.list (zD (script.take 3))]) :=
    ev_bin z4 (n_15 57 script _ _) (ev_callN z5 (n_16 56 script _ _) (by rw [n_17, len_list (by rw [zD_len]; omega), zD_len]; rfl)) (pb_add _ _)
  have S1 := ex_as z1 z2 z3 hv (n_18 script _)
  obtain ⟨last, ext, hr⟩ := n_loop 53 script [.list (zD (script.take 3))] script (7 + (script.length : Int)) none
  have S2 : (R T0 60).ex nT.2 (nS 2) (nφ script (nX (7 + (script.length : Int)) [])) [.list (zD (script.take 3))] = some (.nxt, nφ script (nX last ext), [.list (zD (script.take 3))]) :=
    ex_for n_1.2.2.2.2.2.2.2.1 (n_22 58 script _ _ _) rfl hr
  have htk : (script.take 3).length ≤ 3 := by rw [List.length_take]; omega
  obtain ⟨last', found', h3, hw⟩ := n_while (47 + (script.take 3).length) script ext (3 - (script.take 3).length) (script.take 3) last (by omega)
  have S3 : (R T0 60).ex nT.2 (nS 3) (nφ script (nX last ext)) [.list (zD (script.take 3))] = some (.nxt, nφ script (nX last' ext), [.list (zD found')]) := by
    refine ex_while n_1.2.2.2.2.2.2.2.2.2.1 ?_
    have e : 47 + (script.take 3).length + (3 - (script.take 3).length) + 9 = 59 := by omega
    rw [e] at hw
    exact hw
  have hx : exs (R T0 60) nT.2 nT.1 (nφ script []) [] = some (.ret (.ref 0), nφ script (nX last' ext), [.list (zD found')]) := by
    rw [n_1.1]
    exact exs_cons S0 (exs_cons S1 (exs_cons S2 (exs_cons S3 (exs_ret (n_36 58 script _ _ _)))))
  match found', h3 with
  | [a, b, c], _ =>
    refine ⟨a, b, c, ?_⟩
    unfold numR runF
    rw [if_pos (by rfl), num_frm, hx]
    rfl
end Mine
end
section
open PySem PySem.W PyProof.Rows
open Sem (wp)
set_option maxRecDepth 100000
set_option linter.all false
namespace Mine
/-! _law_ties -/
def tIn (bit : Nat → Bool) (u : Nat) : List Nat → Nat → List (Nat × Nat) → List (Nat × Nat)
  | [], _, acc => acc
  | v :: vs, k, acc => tIn bit u vs (k + 1) (if bit k = true then acc ++ [(v, u)] else acc)
def tOut (bit : Nat → Bool) : List Nat → Nat → List (Nat × Nat) → List (Nat × Nat)
  | [], _, acc => acc
  | u :: us, k, acc => tOut bit us (k + u) (tIn bit u (List.range' 0 u) k acc)
def pairsD (ps : List (Nat × Nat)) : List PyData := ps.map fun p => .tuple [.int (Int.ofNat p.1), .int (Int.ofNat p.2)]
def bitF (b c : Int) (k : Nat) : Bool := decide ((b.fdiv (2 ^ k) + c.fdiv (3 ^ k)).fmod 2 = 1)
def tT : List Stmt × Scope := txtOf "_law_ties"
def tS (n : Nat) : Stmt := sAt tT.1 n
def tF : Stmt := sAt (sBody (tS 3)) 0
def tI : Stmt := sAt (sBody tF) 0
def tK : Stmt := sAt (sBody tF) 1
def tA : Stmt := sAt (sBody tI) 0
def fD (a b c : Int) : List PyData := [.int a, .int b, .int c]
def tφ (a b c n k : Int) (ext : List (Str × PV)) : Frm := ⟨[(S "found", .d (.list (fD a b c))), (S "n", .d (.int n)), (S "ties", .ref 0), (S "k", .d (.int k))] ++ ext, [], []⟩
def tφ0 (a b c : Int) (ext : List (Str × PV)) : Frm := ⟨(S "found", .d (.list (fD a b c))) :: ext, [], []⟩
theorem t_1 : tT.1 = [tS 0, tS 1, tS 2, tS 3] ++ [tS 4] ∧ isFor (S "u") (tS 3) = true ∧ sBody (tS 3) = [tF] ∧ isFor (S "v") tF = true ∧ sBody tF = [tI, tK] ∧ isIf tI = true ∧ sBody tI = [tA] ∧ sElse tI = [] ∧ isCmp .Eq (sVal tI) = true ∧ isExC tA = true ∧ isCallM (S "append") (sVal tA) = true := by
  refine ⟨?_, ?_, ?_, ?_, ?_, ?_, ?_, ?_, ?_, ?_, ?_⟩ <;> kernel_rfl
def tN : Expr := sVal (tS 0)
def tM : Expr := eArg (sVal tI) 0
theorem t_2 : isAs (S "n") (tS 0) = true ∧ plainVal tN = true ∧ (mutN.contains (S "n") && isNewForm tN) = false ∧ isBin .Add tN = true ∧ isBin .Mod (eArg tN 1) = true ∧ isBin .Add (eArg (eArg tN 1) 0) = true ∧ isSub (eArg (eArg (eArg tN 1) 0) 0) = true := by refine ⟨?_, ?_, ?_, ?_, ?_, ?_, ?_⟩ <;> kernel_rfl
theorem t_3 : isBin .Mod tM = true ∧ isBin .Add (eArg tM 0) = true ∧ isBin .FloorDiv (eArg (eArg tM 0) 0) = true ∧ isBin .FloorDiv (eArg (eArg tM 0) 1) = true ∧ isSub (eArg (eArg (eArg tM 0) 0) 0) = true ∧ isBin .Pow (eArg (eArg (eArg tM 0) 0) 1) = true ∧ isSub (eArg (eArg (eArg tM 0) 1) 0) = true ∧ isBin .Pow (eArg (eArg (eArg tM 0) 1) 1) = true := by
  refine ⟨?_, ?_, ?_, ?_, ?_, ?_, ?_, ?_⟩ <;> kernel_rfl
section
variable (N : Nat) (a b c n k u v : Int) (ext : List (Str × PV)) (σ : Store) (q q' : PV) (d : PyData)
theorem t_4 : (R T0 (N + 1)).ev tT.2 (tφ0 a b c ext) (eArg tN 0) σ = some (.d (.int 2), σ) := by kernel_rfl
theorem t_5 : (R T0 (N + 1)).ev tT.2 (tφ0 a b c ext) (eArg (eArg (eArg (eArg tN 1) 0) 0) 0) σ = some (.d (.list (fD a b c)), σ) := by kernel_rfl
theorem t_6 : (R T0 (N + 1)).ev tT.2 (tφ0 a b c ext) (eArg (eArg (eArg (eArg tN 1) 0) 0) 1) σ = some (.d (.int 0), σ) := by kernel_rfl
theorem t_7 : (R T0 (N + 1)).ev tT.2 (tφ0 a b c ext) (eArg (eArg (eArg tN 1) 0) 1) σ = some (.d (.int 2), σ) := by kernel_rfl
theorem t_8 : (R T0 (N + 1)).ev tT.2 (tφ0 a b c ext) (eArg (eArg tN 1) 1) σ = some (.d (.int 4), σ) := by kernel_rfl
theorem t_9 : stN tT.2 (tφ0 a b c []) (S "n") (.d (.int n)) = some (tφ0 a b c [(S "n", .d (.int n))]) := by kernel_rfl
theorem t_10 : (R T0 (N + 4)).ex tT.2 (tS 1) (tφ0 a b c [(S "n", .d (.int n))]) [] = some (.nxt, tφ0 a b c [(S "n", .d (.int n)), (S "ties", .ref 0)], [.list []]) := by kernel_rfl
theorem t_11 : (R T0 (N + 4)).ex tT.2 (tS 2) (tφ0 a b c [(S "n", .d (.int n)), (S "ties", .ref 0)]) σ = some (.nxt, tφ a b c n 0 [], σ) := by kernel_rfl
theorem t_12 : (R T0 (N + 3)).ev tT.2 (tφ a b c n k ext) (sVal (tS 3)) σ = some (.rng 0 n 1, σ) := by kernel_rfl
theorem t_13 : (R T0 (N + 3)).ev tT.2 (tφ a b c n k ((S "u", .d (.int u)) :: ext)) (sVal tF) σ = some (.rng 0 u 1, σ) := by kernel_rfl
theorem t_14 : stN tT.2 (tφ a b c n k []) (S "u") (.d d) = some (tφ a b c n k [(S "u", .d d)]) := by kernel_rfl
theorem t_15 : stN tT.2 (tφ a b c n k ((S "u", q) :: ext)) (S "u") (.d d) = some (tφ a b c n k ((S "u", .d d) :: ext)) := by kernel_rfl
theorem t_16 : stN tT.2 (tφ a b c n k [(S "u", q)]) (S "v") (.d d) = some (tφ a b c n k [(S "u", q), (S "v", .d d)]) := by kernel_rfl
theorem t_17 : stN tT.2 (tφ a b c n k [(S "u", q), (S "v", q')]) (S "v") (.d d) = some (tφ a b c n k [(S "u", q), (S "v", .d d)]) := by kernel_rfl
theorem t_18 : (R T0 (N + 1)).ev tT.2 (tφ a b c n k ext) (eArg (eArg (eArg (eArg tM 0) 0) 0) 0) σ = some (.d (.list (fD a b c)), σ) := by kernel_rfl
theorem t_19 : (R T0 (N + 1)).ev tT.2 (tφ a b c n k ext) (eArg (eArg (eArg (eArg tM 0) 0) 0) 1) σ = some (.d (.int 1), σ) := by kernel_rfl
theorem t_20 : (R T0 (N + 1)).ev tT.2 (tφ a b c n k ext) (eArg (eArg (eArg (eArg tM 0) 0) 1) 0) σ = some (.d (.int 2), σ) := by kernel_rfl
theorem t_21 : (R T0 (N + 1)).ev tT.2 (tφ a b c n k ext) (eArg (eArg (eArg (eArg tM 0) 0) 1) 1) σ = some (.d (.int k), σ) := by kernel_rfl
theorem t_22 : (R T0 (N + 1)).ev tT.2 (tφ a b c n k ext) (eArg (eArg (eArg (eArg tM 0) 1) 0) 0) σ = some (.d (.list (fD a b c)), σ) := by kernel_rfl
theorem t_23 : (R T0 (N + 1)).ev tT.2 (tφ a b c n k ext) (eArg (eArg (eArg (eArg tM 0) 1) 0) 1) σ = some (.d (.int 2), σ) := by kernel_rfl
theorem t_24 : (R T0 (N + 1)).ev tT.2 (tφ a b c n k ext) (eArg (eArg (eArg (eArg tM 0) 1) 1) 0) σ = some (.d (.int 3), σ) := by kernel_rfl
theorem t_25 : (R T0 (N + 1)).ev tT.2 (tφ a b c n k ext) (eArg (eArg (eArg (eArg tM 0) 1) 1) 1) σ = some (.d (.int k), σ) := by kernel_rfl
theorem t_26 : (R T0 (N + 1)).ev tT.2 (tφ a b c n k ext) (eArg tM 1) σ = some (.d (.int 2), σ) := by kernel_rfl
theorem t_27 : (R T0 (N + 1)).ev tT.2 (tφ a b c n k ext) (eArg (sVal tI) 1) σ = some (.d (.int 1), σ) := by kernel_rfl
theorem t_28 : (R T0 (N + 1)).ev tT.2 (tφ a b c n k ext) (cmObj (sVal tA)) σ = some (.ref 0, σ) := by kernel_rfl
theorem t_29 : evs (R T0 (N + 3)) tT.2 (tφ a b c n k [(S "u", .d (.int u)), (S "v", .d (.int v))]) (eArgs (sVal tA)) σ = some ([.d (.tuple [.int v, .int u])], σ) := by kernel_rfl
theorem t_30 : (R T0 (N + 3)).ex tT.2 tK (tφ a b c n k ext) σ = some (.nxt, tφ a b c n (k + 1) ext, σ) := by kernel_rfl
def tφ9 (a b c n k : Int) (ties : List PyData) (ext : List (Str × PV)) : Frm := ⟨[(S "found", .d (.list (fD a b c))), (S "n", .d (.int n)), (S "ties", .d (.list ties)), (S "k", .d (.int k))] ++ ext, [], []⟩
theorem t_31 (ties : List PyData) : (R T0 (N + 4)).ex tT.2 (tS 4) (tφ9 a b c n k ties ext) σ = some (.ret (.d (.tuple [.int n, .list ties])), tφ9 a b c n k ties ext, σ) := by kernel_rfl
theorem t_32 (ties : List PyData) : ({ tφ a b c n k ext with loc := putL (tφ a b c n k ext).loc (S "ties") (.d (.list ties)) } : Frm) = tφ9 a b c n k ties ext := by kernel_rfl
end
theorem pb_pow2 (k : Nat) (h : k < 16) : pBin .Pow (.int 2) (.int (Int.ofNat k)) = some (.int (2 ^ k)) := by
  have h1 : (0 : Int) ≤ Int.ofNat k ∧ Int.ofNat k < 16 := ⟨Int.natCast_nonneg k, by show (k : Int) < 16; omega⟩
  simp only [pBin, if_pos h1]
  rfl
theorem pb_pow3 (k : Nat) (h : k < 16) : pBin .Pow (.int 3) (.int (Int.ofNat k)) = some (.int (3 ^ k)) := by
  have h1 : (0 : Int) ≤ Int.ofNat k ∧ Int.ofNat k < 16 := ⟨Int.natCast_nonneg k, by show (k : Int) < 16; omega⟩
  simp only [pBin, if_pos h1]
  rfl
theorem pow_ok (b : Int) (nb : Nat) (hb : b = Int.ofNat nb) (hnb : 1 ≤ nb ∧ nb ≤ 3) (k : Nat) (h : k < 16) : b ^ k ≠ 0 ∧ (b ^ k).natAbs < 1073741824 := by
  subst hb
  have e : (Int.ofNat nb) ^ k = Int.ofNat (nb ^ k) := by simp
  rw [e]
  have h1 : nb ^ k ≤ 3 ^ 15 := Nat.le_trans (Nat.pow_le_pow_left hnb.2 k) (Nat.pow_le_pow_right (by omega) (by omega))
  have h2 : 0 < nb ^ k := Nat.pow_pos (by omega)
  refine ⟨fun q => ?_, ?_⟩
  · have : nb ^ k = 0 := Int.ofNat.inj q
    omega
  · show nb ^ k < 1073741824
    omega
theorem itemAt_c {xs : List PyData} {i : Nat} {x : PyData} (hl : xs.length < 1000000) (h : xs[i]? = some x) : itemAt xs (Int.ofNat i) = some x := by
  unfold itemAt
  rw [if_pos hl, if_pos (show (0 : Int) ≤ Int.ofNat i from Int.natCast_nonneg i)]
  exact h

theorem t_cond (N : Nat) (a b c n : Int) (k : Nat) (hk : k < 16) (ext : List (Str × PV)) (σ : Store) : (R T0 (N + 8)).tr tT.2 (tφ a b c n (Int.ofNat k) ext) (sVal tI) σ = some (bitF b c k, σ) := by
  obtain ⟨x1, x2, x3, x4, x5, x6, x7, x8⟩ := t_3
  obtain ⟨p1, p2⟩ := pow_ok 2 2 rfl (by omega) k hk
  obtain ⟨q1, q2⟩ := pow_ok 3 3 rfl (by omega) k hk
  have e1 : (R T0 (N + 4)).ev tT.2 (tφ a b c n (Int.ofNat k) ext) (eArg (eArg (eArg tM 0) 0) 0) σ = some (.d (.int b), σ) :=
    ev_sub x5 (t_18 (N + 2) a b c n _ ext σ) (t_19 (N + 2) a b c n _ ext σ) (show (itemAt (fD a b c) 1).map PV.d = _ by rw [show (1 : Int) = Int.ofNat 1 from rfl, itemAt_c (by simp [fD]) rfl]; rfl)
  have e2 : (R T0 (N + 4)).ev tT.2 (tφ a b c n (Int.ofNat k) ext) (eArg (eArg (eArg tM 0) 1) 0) σ = some (.d (.int c), σ) :=
    ev_sub x7 (t_22 (N + 2) a b c n _ ext σ) (t_23 (N + 2) a b c n _ ext σ) (show (itemAt (fD a b c) 2).map PV.d = _ by rw [show (2 : Int) = Int.ofNat 2 from rfl, itemAt_c (by simp [fD]) rfl]; rfl)
  have d1 : (R T0 (N + 5)).ev tT.2 (tφ a b c n (Int.ofNat k) ext) (eArg (eArg tM 0) 0) σ = some (.d (.int (b.fdiv (2 ^ k))), σ) :=
    ev_bin x3 e1 (ev_bin x6 (t_20 (N + 2) a b c n _ ext σ) (t_21 (N + 2) a b c n _ ext σ) (pb_pow2 k hk)) (pb_fdiv _ _ p1 p2)
  have d2 : (R T0 (N + 5)).ev tT.2 (tφ a b c n (Int.ofNat k) ext) (eArg (eArg tM 0) 1) σ = some (.d (.int (c.fdiv (3 ^ k))), σ) :=
    ev_bin x4 e2 (ev_bin x8 (t_24 (N + 2) a b c n _ ext σ) (t_25 (N + 2) a b c n _ ext σ) (pb_pow3 k hk)) (pb_fdiv _ _ q1 q2)
  have d3 : (R T0 (N + 7)).ev tT.2 (tφ a b c n (Int.ofNat k) ext) tM σ = some (.d (.int ((b.fdiv (2 ^ k) + c.fdiv (3 ^ k)).fmod 2)), σ) :=
    ev_bin x1 (ev_bin x2 d1 d2 (pb_add _ _)) (t_26 (N + 5) a b c n _ ext σ) (pb_mod _ _ (by decide))
  exact tr_cmp t_1.2.2.2.2.2.2.2.2.1 d3 (t_27 (N + 6) a b c n _ ext σ) (by exact pCmp_eq_int _ _)

theorem t_in (N : Nat) (a b c n : Int) (u : Nat) : ∀ (vs : List Nat) (k : Nat) (q : Option PV) (acc : List (Nat × Nat)), k + vs.length < 16 → acc.length + vs.length < 1000 →
    ∃ q', eFor (R T0 (N + 9)) tT.2 (S "v") (sBody tF) (natD vs) (tφ a b c n (Int.ofNat k) ((S "u", .d (.int (Int.ofNat u))) :: exV q)) [.list (pairsD acc)] =
      some (.nxt, tφ a b c n (Int.ofNat (k + vs.length)) ((S "u", .d (.int (Int.ofNat u))) :: exV q'), [.list (pairsD (tIn (bitF b c) u vs k acc))])
  | [], k, q, acc, _, _ => ⟨q, by show eFor _ _ _ _ [] _ _ = _; rw [eFor_nil]; rfl⟩
  | v :: vs, k, q, acc, hk, ha => by
    rw [List.length_cons] at hk ha
    obtain ⟨y1, y2, y3, y4, y5, y6, y7, y8, y9, y10, y11⟩ := t_1
    have hst : stN tT.2 (tφ a b c n (Int.ofNat k) ((S "u", .d (.int (Int.ofNat u))) :: exV q)) (S "v") (.d (.int (Int.ofNat v))) = some (tφ a b c n (Int.ofNat k) [(S "u", .d (.int (Int.ofNat u))), (S "v", .d (.int (Int.ofNat v)))]) := by
      cases q with
      | none => exact t_16 a b c n _ _ _
      | some q => exact t_17 a b c n _ _ q _
    have hc := t_cond N a b c n k (by omega) [(S "u", .d (.int (Int.ofNat u))), (S "v", .d (.int (Int.ofNat v)))] [.list (pairsD acc)]
    have hK : (R T0 (N + 9)).ex tT.2 tK (tφ a b c n (Int.ofNat k) [(S "u", .d (.int (Int.ofNat u))), (S "v", .d (.int (Int.ofNat v)))]) [.list (pairsD (if bitF b c k = true then acc ++ [(v, u)] else acc))] =
        some (.nxt, tφ a b c n (Int.ofNat (k + 1)) [(S "u", .d (.int (Int.ofNat u))), (S "v", .d (.int (Int.ofNat v)))], [.list (pairsD (if bitF b c k = true then acc ++ [(v, u)] else acc))]) := t_30 (N + 6) a b c n _ _ _
    have hI : (R T0 (N + 9)).ex tT.2 tI (tφ a b c n (Int.ofNat k) [(S "u", .d (.int (Int.ofNat u))), (S "v", .d (.int (Int.ofNat v)))]) [.list (pairsD acc)] =
        some (.nxt, tφ a b c n (Int.ofNat k) [(S "u", .d (.int (Int.ofNat u))), (S "v", .d (.int (Int.ofNat v)))], [.list (pairsD (if bitF b c k = true then acc ++ [(v, u)] else acc))]) := by
      cases hb : bitF b c k with
      | false =>
        rw [hb] at hc
        exact ex_ifF y6 hc (by rw [y8]; exact exs_nil)
      | true =>
        rw [hb] at hc
        refine ex_ifT y6 hc ?_
        rw [y7]
        refine exs_cons (ex_expr y10 (ev_callM y11 (t_28 (N + 5) a b c n _ _ _) (calM_list (T := T0) (xs := pairsD acc) rfl (bi_append _)) (t_29 (N + 3) a b c n _ _ _ _) ?_)) exs_nil
        have := run_append (σ := [PO.list (pairsD acc)]) (k := 0) (xs := pairsD acc) (x := .tuple [.int (Int.ofNat v), .int (Int.ofNat u)]) rfl (by simp [pairsD]; omega)
        have e : pairsD (acc ++ [(v, u)]) = pairsD acc ++ [.tuple [.int (Int.ofNat v), .int (Int.ofNat u)]] := by simp [pairsD]
        rw [if_pos rfl, e]
        exact this
    have hbody : exs (R T0 (N + 9)) tT.2 (sBody tF) (tφ a b c n (Int.ofNat k) [(S "u", .d (.int (Int.ofNat u))), (S "v", .d (.int (Int.ofNat v)))]) [.list (pairsD acc)] =
        some (.nxt, tφ a b c n (Int.ofNat (k + 1)) [(S "u", .d (.int (Int.ofNat u))), (S "v", .d (.int (Int.ofNat v)))], [.list (pairsD (if bitF b c k = true then acc ++ [(v, u)] else acc))]) := by
      rw [y5]; exact exs_cons hI (exs_cons hK exs_nil)
    have hlen : (if bitF b c k = true then acc ++ [(v, u)] else acc).length ≤ acc.length + 1 := by split <;> simp
    obtain ⟨q', hr⟩ := t_in N a b c n u vs (k + 1) (some (.d (.int (Int.ofNat v)))) (if bitF b c k = true then acc ++ [(v, u)] else acc) (by omega) (by omega)
    refine ⟨q', ?_⟩
    show eFor _ _ _ _ (.int (Int.ofNat v) :: natD vs) _ _ = _
    rw [show k + (v :: vs).length = k + 1 + vs.length by rw [List.length_cons]; omega]
    exact eFor_cons hst hbody hr
theorem tIn_len (bit : Nat → Bool) (u : Nat) : ∀ (vs : List Nat) (k : Nat) (acc : List (Nat × Nat)), (tIn bit u vs k acc).length ≤ acc.length + vs.length
  | [], k, acc => Nat.le_refl _
  | v :: vs, k, acc => by
    have := tIn_len bit u vs (k + 1) (if bit k = true then acc ++ [(v, u)] else acc)
    have hlen : (if bit k = true then acc ++ [(v, u)] else acc).length ≤ acc.length + 1 := by split <;> simp
    unfold tIn
    rw [List.length_cons]; omega
theorem t_out (N : Nat) (a b c n : Int) : ∀ (us : List Nat) (k : Nat) (q : Option (PV × Option PV)) (acc : List (Nat × Nat)), k + us.sum < 16 → acc.length + us.sum < 900 →
    ∃ k' q', eFor (R T0 (N + 12)) tT.2 (S "u") (sBody (tS 3)) (natD us) (tφ a b c n (Int.ofNat k) (exU q)) [.list (pairsD acc)] =
      some (.nxt, tφ a b c n k' (exU q'), [.list (pairsD (tOut (bitF b c) us k acc))])
  | [], k, q, acc, _, _ => ⟨_, q, by show eFor _ _ _ _ [] _ _ = _; rw [eFor_nil]; rfl⟩
  | u :: us, k, q, acc, hk, ha => by
    rw [List.sum_cons] at hk ha
    obtain ⟨y1, y2, y3, y4, y5, y6, y7, y8, y9, y10, y11⟩ := t_1
    have hst : ∃ q2, stN tT.2 (tφ a b c n (Int.ofNat k) (exU q)) (S "u") (.d (.int (Int.ofNat u))) = some (tφ a b c n (Int.ofNat k) ((S "u", .d (.int (Int.ofNat u))) :: exV q2)) := by
      cases q with
      | none => exact ⟨none, t_14 a b c n _ _⟩
      | some q => exact ⟨q.2, t_15 a b c n _ _ _ _⟩
    obtain ⟨q2, hst⟩ := hst
    obtain ⟨q3, hin⟩ := t_in (N + 2) a b c n u (List.range' 0 u) k q2 acc (by rw [List.length_range']; omega) (by rw [List.length_range']; omega)
    rw [List.length_range'] at hin
    have hF : (R T0 (N + 12)).ex tT.2 tF (tφ a b c n (Int.ofNat k) ((S "u", .d (.int (Int.ofNat u))) :: exV q2)) [.list (pairsD acc)] =
        some (.nxt, tφ a b c n (Int.ofNat (k + u)) ((S "u", .d (.int (Int.ofNat u))) :: exV q3), [.list (pairsD (tIn (bitF b c) u (List.range' 0 u) k acc))]) := by
      refine ex_for y4 (t_13 (N + 8) a b c n _ _ _ _) (items := natD (List.range' 0 u)) ?_ hin
      show (pIter (.rng 0 (Int.ofNat u) 1)).map _ = _
      have := pIter_rng 0 u (by omega) (by omega)
      rw [show (0 : Int) = Int.ofNat 0 from rfl, this]; rfl
    have hbody : exs (R T0 (N + 12)) tT.2 (sBody (tS 3)) (tφ a b c n (Int.ofNat k) ((S "u", .d (.int (Int.ofNat u))) :: exV q2)) [.list (pairsD acc)] =
        some (.nxt, tφ a b c n (Int.ofNat (k + u)) (exU (some (.d (.int (Int.ofNat u)), q3))), [.list (pairsD (tIn (bitF b c) u (List.range' 0 u) k acc))]) := by
      rw [y3]; exact exs_cons hF exs_nil
    have hl := tIn_len (bitF b c) u (List.range' 0 u) k acc
    rw [List.length_range'] at hl
    obtain ⟨k', q', hr⟩ := t_out N a b c n us (k + u) (some (.d (.int (Int.ofNat u)), q3)) (tIn (bitF b c) u (List.range' 0 u) k acc) (by omega) (by omega)
    refine ⟨k', q', ?_⟩
    show eFor _ _ _ _ (.int (Int.ofNat u) :: natD us) _ _ = _
    exact eFor_cons hst hbody hr
def nOf (a : Int) : Nat := (2 + (a + 2).fmod 4).toNat
theorem nOf_ok (a : Int) : 2 ≤ nOf a ∧ nOf a ≤ 5 ∧ 2 + (a + 2).fmod 4 = Int.ofNat (nOf a) := by
  have h1 : 0 ≤ (a + 2).fmod 4 := Int.fmod_nonneg_of_pos _ (by decide)
  have h2 : (a + 2).fmod 4 < 4 := Int.fmod_lt_of_pos _ (by decide)
  unfold nOf
  refine ⟨by omega, by omega, ?_⟩
  show _ = ((2 + (a + 2).fmod 4).toNat : Int)
  omega
def tiesOf (n : Nat) (bit : Nat → Bool) : List (Nat × Nat) := tOut bit (List.range' 0 n) 0 []
theorem sum_range5 : ∀ n, n ≤ 5 → (List.range' 0 n).sum < 16 := by decide
theorem ties_exs (a b c : Int) : ∃ k' q', exs (R T0 60) tT.2 [tS 0, tS 1, tS 2, tS 3] (tφ0 a b c []) [] = some (.nxt, tφ a b c (Int.ofNat (nOf a)) k' (exU q'), [.list (pairsD (tiesOf (nOf a) (bitF b c)))]) := by
  obtain ⟨x1, x2, x3, x4, x5, x6, x7⟩ := t_2
  obtain ⟨m1, m2, m3⟩ := nOf_ok a
  have S0 : (R T0 60).ex tT.2 (tS 0) (tφ0 a b c []) [] = some (.nxt, tφ0 a b c [(S "n", .d (.int (Int.ofNat (nOf a))))], []) := by
    rw [← m3]
    refine ex_as x1 x2 x3 (ev_bin x4 (t_4 57 a b c [] []) (ev_bin x5 (ev_bin x6 (ev_sub x7 (t_5 54 a b c [] []) (t_6 54 a b c [] []) ?_) (t_7 55 a b c [] []) (pb_add a 2)) (t_8 56 a b c [] []) (pb_mod _ _ (by decide))) (pb_add _ _)) (t_9 a b c _)
    show (itemAt (fD a b c) 0).map PV.d = _
    rw [show (0 : Int) = Int.ofNat 0 from rfl, itemAt_c (by simp [fD]) rfl]; rfl
  have hs := sum_range5 (nOf a) m2
  obtain ⟨k', q', hr⟩ := t_out 47 a b c (Int.ofNat (nOf a)) (List.range' 0 (nOf a)) 0 none [] (by omega) (by rw [List.length_nil]; omega)
  have S3 : (R T0 60).ex tT.2 (tS 3) (tφ a b c (Int.ofNat (nOf a)) 0 []) [.list []] = some (.nxt, tφ a b c (Int.ofNat (nOf a)) k' (exU q'), [.list (pairsD (tiesOf (nOf a) (bitF b c)))]) := by
    refine ex_for t_1.2.1 (t_12 56 a b c _ _ _ _) (items := natD (List.range' 0 (nOf a))) ?_ hr
    show (pIter (.rng 0 (Int.ofNat (nOf a)) 1)).map _ = _
    have := pIter_rng 0 (nOf a) (by omega) (by omega)
    rw [show (0 : Int) = Int.ofNat 0 from rfl, this]; rfl
  exact ⟨k', q', exs_cons S0 (exs_cons (t_10 56 a b c _) (exs_cons (t_11 56 a b c _ _) (exs_cons S3 exs_nil)))⟩
theorem ties_frm (a b c : Int) : frmOf tT.2 ([S "found"].zip [.d (.list (fD a b c))]) = tφ0 a b c [] := by kernel_rfl
section
variable {prog : Program} {w : World} {h₀ : Heap} {A : Around} {s s' : Shared} {Z Z' : ZP} {ρ ρ' : List Addr} {σ σ' : Store} {env : Env} {φ φ' : Frm} {n : Nat}
theorem ties_snd (H : HdOk w h₀) (hA : AOk (n + 1) A) (a b c : Int) (B : Base prog w h₀ Z ρ σ s) {vals : List Value} (hv : All2 (VR Z ρ) [.d (.list (fD a b c))] vals) :
    SndV prog w h₀ A Z ρ s (call (.ref 652) vals) (.d (.tuple [.int (Int.ofNat (nOf a)), .list (pairsD (tiesOf (nOf a) (bitF b c)))])) σ := by
  obtain ⟨k', q', hx⟩ := ties_exs a b c
  have B0 := B.empty
  have hv0 : All2 (VR Z []) [PV.d (.list (fD a b c))] vals := all2_D rfl hv
  refine frame B (σ' := [.dead]) ?_
  have hvl := hv.length
  match vals, hvl with
  | [v], _ =>
    refine call_fn (n := n) (ok_ties H) hA (names := [S "found"]) (by decide +kernel) rfl B0 hv0 (bd_ties _ v) (kd_ties _) fun env s₁ he B₁ L₁ _ => ?_
    have hes : env.scope = tT.2 := he.trans (fs_ties _)
    rw [fs_ties] at L₁
    replace L₁ : Loc Z [] env (tφ0 a b c []) s₁ := by rw [← ties_frm]; exact L₁
    have hA1 := hA.deeper env
    have S0 := sound (tok0 (prog := prog) H n) 60
    have hAll : SndF prog w h₀ (A.deeper env) env Z [] s₁ (execs tT.1 env) (.ret (.d (.tuple [.int (Int.ofNat (nOf a)), .list (pairsD (tiesOf (nOf a) (bitF b c)))]))) (tφ9 a b c (Int.ofNat (nOf a)) k' (pairsD (tiesOf (nOf a) (bitF b c))) (exU q')) [.dead] := by
      rw [t_1.1]
      refine SndF.app (snd_exs S0 hA1 hes hx B₁ L₁) fun s₂ Z₂ ρ₂ B₂ L₂ => ?_
      obtain ⟨Z₃, g₃, B₃, L₃⟩ := Loc.melt (x := S "ties") (k := 0) B₂ L₂ (by kernel_rfl) rfl
      rw [t_32] at L₃
      intro E Q k
      exact snd_exs S0 hA1 hes (exs_ret (t_31 56 a b c _ _ _ _ _)) B₃ L₃ E Q fun v s₄ Z₄ ρ₄ g₄ B₄ L₄ hf => k v s₄ Z₄ ρ₄ (g₃.nil.trans B₃ L₃.alive g₄) B₄ L₄ hf
    exact body_of hAll rfl
end
end Mine
end
section
open PySem PySem.W PyProof.Rows
open Sem (wp)
set_option maxRecDepth 100000
set_option linter.all false
namespace Mine
def natOk : List PyData → Bool
  | [] => true
  | .int (.ofNat _) :: r => natOk r
  | _ :: _ => false
theorem natOk_eq : ∀ {xs : List PyData}, natOk xs = true → natD (xs.map decI) = xs
  | [], _ => rfl
  | x :: r, h => by
    unfold natOk at h
    split at h
    · rename_i e; cases e
    · rename_i k r' e
      cases e
      have := natOk_eq h
      show PyData.int (Int.ofNat (decI (.int (Int.ofNat k)))) :: natD (r.map decI) = _
      rw [this]; rfl
    · cases h
theorem natOk_natD : ∀ l : List Nat, natOk (natD l) = true
  | [] => rfl
  | x :: r => natOk_natD r
theorem decI_natD (l : List Nat) : (natD l).map decI = l := decN_natD l
def OLots (vs : List PV) (σ : Store) : Option (PV × Store) := match vs with
  | [.d (.list xs), .d (.list ties), .d (.bool kept)] => if natOk xs && subs.contains (xs.map decI) then
      match lotsF (xs.map decI) (Ek ties kept) with
      | some out => some (.d (.list (lotsD out)), σ)
      | none => none
      else none
  | _ => none
def OTies (vs : List PV) (σ : Store) : Option (PV × Store) := match vs with
  | [.d (.list [.int a, .int b, .int c])] => some (.d (.tuple [.int (Int.ofNat (nOf a)), .list (pairsD (tiesOf (nOf a) (bitF b c)))]), σ)
  | _ => none
def OW (a : Addr) (vs : List PV) (σ : Store) : Option (PV × Store) :=
  if a = 645 then dataO numR vs σ
  else if a = 652 then OTies vs σ
  else if a = 664 then dataO wayR vs σ
  else if a = 669 then dataO greatR vs σ
  else if a = 674 then OLots vs σ
  else none
def TW : Txt := { T0 with O := OW }
section
variable {prog : Program} {w : World} {h₀ : Heap} {A : Around} {E : Value → Shared → Prop} {s s' s₀ : Shared} {Z Z' : ZP} {ρ ρ' : List Addr} {σ σ' σ'' σ₀ σ₁ σ₂ : Store} {n : Nat}
theorem tokJ (H : HdOk w h₀) (n : Nat) : TOk prog w h₀ TJ (n + 1) := tok_of (O := OJ) H (fun a vs σ r h => by
    unfold OJ at h
    split at h
    · rename_i e; subst e; exact keep_func (ok_joined H)
    · cases h) (fun a vs σ pv σ' h A Z ρ s vals hA B hv => by
    unfold OJ at h
    split at h
    · rename_i e; subst e
      split at h
      · rename_i ties u v
        cases h
        refine dataO_snd (joined_D ties u v σ) B hv fun {pv σ'} hr B0 hv0 => ?_
        unfold joinedR at hr
        have hp : ((txtOf "_law_joined").1, (fdA w.params 659).scope) = txtOf "_law_joined" := by rw [fs_joined]
        rw [← hp] at hr
        exact runF_snd (tok0 (prog := prog) H n) (ok_joined H) hA (by decide +kernel) (fun vals hv => match vals, hv with
          | [a, b, c], _ => bd_joined _ a b c) (kd_joined _) hr B0 hv0
      · cases h
    · cases h)
theorem tokW (H : HdOk w h₀) (n : Nat) : TOk prog w h₀ TW (n + 6) := tok_of (O := OW) H (fun a vs σ r h => by
    unfold OW at h
    split at h
    · rename_i e; subst e; exact keep_func (ok_numbers H)
    split at h
    · rename_i e; subst e; exact keep_func (ok_ties H)
    split at h
    · rename_i e; subst e; exact keep_func (ok_way H)
    split at h
    · rename_i e; subst e; exact keep_func (ok_greatest H)
    split at h
    · rename_i e; subst e; exact keep_func (ok_lots H)
    · cases h) (fun a vs σ pv σ' h A Z ρ s vals hA B hv => by
    unfold OW at h
    split at h
    · rename_i e; subst e
      refine dataO_snd h B hv fun {pv σ'} hr B0 hv0 => ?_
      unfold numR at hr
      have hp : ((txtOf "_law_numbers").1, (fdA w.params 645).scope) = nT := by rw [fs_numbers]; rfl
      rw [← hp] at hr
      exact runF_snd (tok0 (prog := prog) H (n + 5)) (ok_numbers H) hA (by decide +kernel) (fun vals hv => match vals, hv with
        | [a, b], _ => bd_numbers _ a b) (kd_numbers _) hr B0 hv0
    split at h
    · rename_i e; subst e
      unfold OTies at h
      split at h
      · rename_i a b c
        cases h
        exact ties_snd (n := n) H (hA.le (by omega)) a b c B hv
      · cases h
    split at h
    · rename_i e; subst e
      refine dataO_snd h B hv fun {pv σ'} hr B0 hv0 => ?_
      unfold wayR at hr
      have hp : ((txtOf "_law_way").1, (fdA w.params 664).scope) = wT := by rw [fs_way]; rfl
      rw [← hp] at hr
      exact runF_snd (tokJ (prog := prog) H (n + 4)) (ok_way H) hA (by decide +kernel) (fun vals hv => match vals, hv with
        | [a, b], _ => bd_way _ a b) (kd_way _) hr B0 hv0
    split at h
    · rename_i e; subst e
      refine dataO_snd h B hv fun {pv σ'} hr B0 hv0 => ?_
      unfold greatR at hr
      have hp : ((txtOf "_law_greatest").1, (fdA w.params 669).scope) = txtOf "_law_greatest" := by rw [fs_greatest]
      rw [← hp] at hr
      exact runF_snd (tokJ (prog := prog) H (n + 4)) (ok_greatest H) hA (by decide +kernel) (fun vals hv => match vals, hv with
        | [a, b, c], _ => bd_greatest _ a b c) (kd_greatest _) hr B0 hv0
    split at h
    · rename_i e; subst e
      unfold OLots at h
      split at h
      · rename_i xs ties kept
        split at h
        · rename_i hc
          rw [Bool.and_eq_true] at hc
          split at h
          · rename_i out hl
            cases h
            have hn : xs.map decI ∈ subs := by simpa using hc.2
            rw [← natOk_eq hc.1] at hv
            exact lots_snd (n := n) H hA hn ties kept hl B hv
          · cases h
        · cases h
      · cases h
    · cases h)
end
end Mine
end
section
open PySem PySem.W PyProof.Rows
set_option maxRecDepth 100000
set_option linter.all false
namespace Mine
section
variable {T : Txt} {r : Rec} {N : Nat} {sc : Scope} {φ φ' : Frm} {e : Expr} {st : Stmt} {σ σ1 σ2 σ3 : Store} {v : PV}
def isTup : Expr → Bool
  | .Tuple es _ _ => decide (es.length < 1000)
  | _ => false
theorem ev_tuple {vs : List PV} {xs : List PyData} (hs : isTup e = true) (h : evs (R T N) sc φ (eArgs e) σ = some (vs, σ1)) (hd : datas? vs = some xs) : (R T (N + 1)).ev sc φ e σ = some (.d (.tuple xs), σ1) := by
  cases e <;> simp only [isTup, Bool.false_eq_true] at hs
  rename_i es k p
  replace h : evs (R T N) sc φ es σ = _ := h
  simp only [decide_eq_true_eq] at hs
  rw [R_ev]
  simp only [stepEv, if_pos hs, h, hd, Option.map_some]
/-- x, y, .. = e -/
def isTupAs (xs : List Str) : Stmt → Bool
  | .Assign [.Tuple ts _ _] v _ => (match namesOf ts with | some ys => ys == xs | none => false) && (plainVal v && noTup v)
  | _ => false
theorem ex_tup {xs : List Str} {ds : List PyData} (hs : isTupAs xs st = true) (h : (R T N).ev sc φ (sVal st) σ = some (.d (.tuple ds), σ1)) (hl : ds.length < 1000) (hst : stAll sc xs ds φ = some φ') : (R T (N + 1)).ex sc st φ σ = some (.nxt, φ', σ1) := by
  unfold isTupAs at hs
  split at hs
  · rename_i ts k p value p'
    rw [Bool.and_eq_true] at hs
    obtain ⟨h1, h2⟩ := hs
    split at h1
    · rename_i ys hy
      have hxy := eq_of_beq h1
      subst hxy
      replace h : (R T N).ev sc φ value σ = _ := h
      have hnt : noTup value = true := by rw [Bool.and_eq_true] at h2; exact h2.2
      rw [R_ex]
      cases value <;> first | (exfalso; simp only [noTup, Bool.false_eq_true] at hnt; done) | simp only [stepEx, hy, h2, h, hl, hst, if_true, Option.map_some]
    · cases h1
  · cases hs
theorem evNew_cat {k : Nat} {xs ys : List PyData} (hs : isBin .Add e = true) (h1 : r.ev sc φ (eArg e 0) σ = some (.ref k, σ1)) (h2 : r.ev sc φ (eArg e 1) σ1 = some (.d (.list ys), σ2)) (h3 : σ2[k]? = some (.list xs)) (hl : xs.length + ys.length < 1000000) :
    evNew r sc φ e σ = some (xs ++ ys, σ2) := by
  cases e <;> simp only [isBin, Bool.false_eq_true] at hs
  rename_i l o rr p
  simp only [decide_eq_true_eq] at hs
  subst hs
  simp only [eArg, if_true, if_false, Nat.one_ne_zero] at h1 h2
  simp only [evNew, h1, h2, h3, hl, if_true]
theorem setAt_list {k i : Nat} {xs : List PyData} {x : PyData} (h : σ[k]? = some (.list xs)) (hi : i < xs.length) (hl : xs.length < 1000000) : setAt (.ref k) (Int.ofNat i) (.d x) σ = some (σ.set k (.list (xs.set i x))) := by
  have h1 : (0 : Int) ≤ Int.ofNat i ∧ (Int.ofNat i).toNat < xs.length ∧ xs.length < 1000000 := ⟨Int.natCast_nonneg i, hi, hl⟩
  simp only [setAt, h]
  rw [if_pos h1]; rfl
theorem sItem_list {k : Nat} {xs : List PyData} {i : Int} {x : PyData} (h : σ[k]? = some (.list xs)) (hx : itemAt xs i = some x) : sItem (.ref k) (.d (.int i)) σ = some (.d x) := by
  simp only [sItem, h, hx, Option.map_some]
theorem len_ref {k : Nat} {xs : List PyData} (h : σ[k]? = some (.list xs)) (hl : xs.length < 1000000) : pFun "len" [.ref k] σ = some (.d (.int xs.length)) := by
  simp [pFun, h, hl]
end

/-! law in plain Lean -/
abbrev SetE := List Nat × Nat × List Nat
def setD (e : SetE) : PyData := .tuple [.list (natD e.1), .int (Int.ofNat e.2.1), .list (natD e.2.2)]
def setsD (l : List SetE) : List PyData := l.map setD
def splitS (sets : List SetE) (at_ : Nat) (nds : List Nat) (kind : Nat) (lots : List (List Nat)) : List SetE :=
  (sets.set at_ (nds, kind, (List.range' 0 lots.length).map (sets.length + ·))) ++ lots.map fun l => (l, 0, [])
def Jof (ties : List PyData) (u v : Nat) : Bool := jn ties (Int.ofNat u) (Int.ofNat v)
def lawLoop (J : Nat → Nat → Bool) : Nat → List SetE → Nat → Bool → Option (List SetE × Bool)
  | 0, _, _, _ => none
  | f + 1, sets, at_, st => match sets[at_]? with
    | none => some (sets, st)
    | some e => if 50 < sets.length then none else
      if 1 < e.1.length then
        if subs.contains e.1 then
          match lotsF e.1 (fun u v => J u v == true) with
          | none => none
          | some lots => if 1 < lots.length then (if 50 < lots.length then none else lawLoop J f (splitS sets at_ e.1 1 lots) (at_ + 1) st)
            else match lotsF e.1 (fun u v => J u v == false) with
              | none => none
              | some lots => if 1 < lots.length then (if 50 < lots.length then none else lawLoop J f (splitS sets at_ e.1 2 lots) (at_ + 1) st) else lawLoop J f sets (at_ + 1) true
        else none
      else if e.1.length < 50 then lawLoop J f sets (at_ + 1) st else none
abbrev MostE := Nat × Nat × Nat
def maxN : List Nat → Nat → Nat
  | [], m => m
  | x :: r, m => maxN r (if m ≤ x then x else m)
def sumN : List Nat → Nat
  | [] => 0
  | x :: r => x + sumN r
def looks (acc : List MostE) : List Nat → Option (List (Nat × Nat))
  | [] => some []
  | k :: r => match acc.lookup k with
    | none => none
    | some p => match looks acc r with
      | none => none
      | some ps => some (p :: ps)
def mostLoop (sets : List SetE) : Nat → List MostE → Option (List MostE)
  | 0, acc => some acc
  | k + 1, acc => match sets[k]? with
    | none => none
    | some e => if e.2.1 = 0 then mostLoop sets k (acc ++ [(k, 1, 1)]) else
      if 50 < e.2.2.length then none else
      match looks acc e.2.2 with
      | none => none
      | some [] => none
      | some (p :: ps) => if (p :: ps).all (fun q => decide (q.1 < 1000) && decide (q.2 < 1000)) then
          mostLoop sets k (acc ++ [(k, if e.2.1 = 1 then (maxN (ps.map (·.1)) p.1, sumN ((p :: ps).map (·.2))) else (sumN ((p :: ps).map (·.1)), maxN (ps.map (·.2)) p.2))]) else none
def lawF (n : Nat) (ties : List PyData) : Bool := match lawLoop (Jof ties) 12 [(List.range' 0 n, 0, [])] 0 false with
  | none => false
  | some (sets, st) => (st == wayF n ties) && (st || (decide (sets.length < 50) && match mostLoop sets sets.length [] with
    | none => false
    | some acc => match acc.lookup 0 with
      | none => false
      | some p => decide (p.1 = grF n ties true) && decide (p.2 = grF n ties false)))

/-! the text of law -/
def aT : List Stmt × Scope := txtOf "law"
def aS (n : Nat) : Stmt := sAt aT.1 n
def aB (n : Nat) : Stmt := sAt (sBody (aS 5)) n
def aI (n : Nat) : Stmt := sAt (sBody (aB 1)) n
def aL (n : Nat) : Stmt := sAt (sBody (aI 0)) n
def aC (n : Nat) : Stmt := sAt (sBody (aI 1)) n
def aφ (d f : PyData) (n : Int) (ties : List PyData) (st : Bool) (at_ : Int) (ks : Nat) (ext cx : List (Str × PV)) : Frm :=
  ⟨[(S "script", .d d), (S "found", .d f), (S "n", .d (.int n)), (S "ties", .d (.list ties)), (S "stopped", .d (.bool st)), (S "at", .d (.int at_))] ++ ext, (S "sets", .ref ks) :: cx, []⟩
theorem a_1 : aT.1 = [aS 0, aS 1, aS 2, aS 3, aS 4, aS 5, aS 6, aS 7, aS 8, aS 9, aS 10] ∧ sBody (aS 5) = [aB 0, aB 1, aB 2] ∧ sBody (aB 1) = [aI 0, aI 1] ∧ sElse (aB 1) = [] ∧ sBody (aI 0) = [aL 0, aL 1, aL 2] ∧ sBody (aI 1) = [aC 0, aC 1] ∧ sElse (aL 1) = [] ∧ sElse (aL 2) = [] := by
  refine ⟨?_, ?_, ?_, ?_, ?_, ?_, ?_, ?_⟩ <;> kernel_rfl
theorem a_2 : isWhile (aS 5) = true ∧ isCmp .Lt (sVal (aS 5)) = true ∧ isCallN (S "len") (eArg (sVal (aS 5)) 1) = true ∧ isAs (S "some") (aB 0) = true ∧ plainVal (sVal (aB 0)) = true ∧ (mutN.contains (S "some") && isNewForm (sVal (aB 0))) = false ∧ isSub (sVal (aB 0)) = true ∧ isSub (eArg (sVal (aB 0)) 0) = true ∧
    isIf (aB 1) = true ∧ isCmp .Gt (sVal (aB 1)) = true ∧ isCallN (S "len") (eArg (sVal (aB 1)) 0) = true := by refine ⟨?_, ?_, ?_, ?_, ?_, ?_, ?_, ?_, ?_, ?_, ?_⟩ <;> kernel_rfl
theorem a_3 : isFor (S "kept") (aI 0) = true ∧ isAs (S "lots") (aL 0) = true ∧ plainVal (sVal (aL 0)) = true ∧ (mutN.contains (S "lots") && isNewForm (sVal (aL 0))) = false ∧ isCallN (S "_law_lots") (sVal (aL 0)) = true ∧ isIf (aL 1) = true ∧ isIf (aL 2) = true ∧ isCmp .Gt (sVal (aL 2)) = true ∧ isCallN (S "len") (eArg (sVal (aL 2)) 0) = true ∧
    isIf (aI 1) = true ∧ isCmp .Gt (sVal (aI 1)) = true ∧ isCallN (S "len") (eArg (sVal (aI 1)) 0) = true := by refine ⟨?_, ?_, ?_, ?_, ?_, ?_, ?_, ?_, ?_, ?_, ?_, ?_⟩ <;> kernel_rfl
def aVT : Expr := sVal (aC 0)
def aVE (n : Nat) : Expr := (eArgs aVT).getD n xN
def aVL : Expr := aVE 2
def aCc : Expr := sVal (aC 1)
def aCL : Expr := eArg aCc 1
def aVS : Scope := cScope aT.2 aVL
def aCS : Scope := cScope aT.2 aCL
theorem a_4 : isSubAs (aC 0) = true ∧ isTup aVT = true ∧ eArgs aVT = [aVE 0, aVE 1, aVE 2] ∧ noStar (aVE 0) = true ∧ noStar (aVE 1) = true ∧ noStar (aVE 2) = true ∧ isIfE (aVE 1) = true ∧ isLC aVL = true ∧ lcOk1 aT.2 (S "k") aVL = true ∧ gF (lcG aVL 0) = [] ∧ isCallN (S "range") (gI (lcG aVL 0)) = true ∧
    eArgs (gI (lcG aVL 0)) = [(eArgs (gI (lcG aVL 0))).getD 0 xN] ∧ noStar ((eArgs (gI (lcG aVL 0))).getD 0 xN) = true ∧ isCallN (S "len") ((eArgs (gI (lcG aVL 0))).getD 0 xN) = true ∧ isBin .Add (lcE aVL) = true ∧ isCallN (S "len") (eArg (lcE aVL) 0) = true := by
  refine ⟨?_, ?_, ?_, ?_, ?_, ?_, ?_, ?_, ?_, ?_, ?_, ?_, ?_, ?_, ?_, ?_⟩ <;> kernel_rfl
theorem a_5 : isAs (S "sets") (aC 1) = true ∧ plainVal aCc = true ∧ (mutN.contains (S "sets") && isNewForm aCc) = true ∧ isBin .Add aCc = true ∧ isLC aCL = true ∧ lcOk1 aT.2 (S "lot") aCL = true ∧ gF (lcG aCL 0) = [] := by
  refine ⟨?_, ?_, ?_, ?_, ?_, ?_, ?_⟩ <;> kernel_rfl
section
variable (N : Nat) (d f : PyData) (n : Int) (ties : List PyData) (st : Bool) (at_ : Int) (ks kn : Nat) (ext cx : List (Str × PV)) (σ : Store) (q q' : PV) (w : PyData) (kept : Bool) (lots : List PyData) (i : Int)
theorem a_6 : (R TW (N + 1)).ev aT.2 (aφ d f n ties st at_ ks ext cx) (eArg (sVal (aS 5)) 0) σ = some (.d (.int at_), σ) := by kernel_rfl
theorem a_7 : evs (R TW (N + 1)) aT.2 (aφ d f n ties st at_ ks ext cx) (eArgs (eArg (sVal (aS 5)) 1)) σ = some ([.ref ks], σ) := by kernel_rfl
theorem a_8 (vs : List PV) : evCallN TW aT.2 (S "len") vs σ = (pFun "len" vs σ).map fun v => (v, σ) := by kernel_rfl
theorem a_9 : (R TW (N + 1)).ev aT.2 (aφ d f n ties st at_ ks ext cx) (eArg (eArg (sVal (aB 0)) 0) 0) σ = some (.ref ks, σ) := by kernel_rfl
theorem a_10 : (R TW (N + 1)).ev aT.2 (aφ d f n ties st at_ ks ext cx) (eArg (eArg (sVal (aB 0)) 0) 1) σ = some (.d (.int at_), σ) := by kernel_rfl
theorem a_11 : (R TW (N + 1)).ev aT.2 (aφ d f n ties st at_ ks ext cx) (eArg (sVal (aB 0)) 1) σ = some (.d (.int 0), σ) := by kernel_rfl
theorem a_12 : stN aT.2 (aφ d f n ties st at_ ks [] cx) (S "some") (.d w) = some (aφ d f n ties st at_ ks [(S "some", .d w)] cx) := by kernel_rfl
theorem a_13 : stN aT.2 (aφ d f n ties st at_ ks ((S "some", q) :: ext) cx) (S "some") (.d w) = some (aφ d f n ties st at_ ks ((S "some", .d w) :: ext) cx) := by kernel_rfl
theorem a_14 : evs (R TW (N + 1)) aT.2 (aφ d f n ties st at_ ks ((S "some", .d w) :: ext) cx) (eArgs (eArg (sVal (aB 1)) 0)) σ = some ([.d w], σ) := by kernel_rfl
theorem a_15 : (R TW (N + 1)).ev aT.2 (aφ d f n ties st at_ ks ext cx) (eArg (sVal (aB 1)) 1) σ = some (.d (.int 1), σ) := by kernel_rfl
theorem a_16 : (R TW (N + 3)).ev aT.2 (aφ d f n ties st at_ ks ext cx) (sVal (aI 0)) σ = some (.d (.list [.bool true, .bool false]), σ) := by kernel_rfl
theorem a_17 : stN aT.2 (aφ d f n ties st at_ ks [(S "some", q)] cx) (S "kept") (.d (.bool kept)) = some (aφ d f n ties st at_ ks [(S "some", q), (S "kept", .d (.bool kept))] cx) := by kernel_rfl
theorem a_18 : stN aT.2 (aφ d f n ties st at_ ks ((S "some", q) :: (S "kept", q') :: ext) cx) (S "kept") (.d (.bool kept)) = some (aφ d f n ties st at_ ks ((S "some", q) :: (S "kept", .d (.bool kept)) :: ext) cx) := by kernel_rfl
theorem a_19 : evs (R TW (N + 1)) aT.2 (aφ d f n ties st at_ ks ((S "some", .d w) :: (S "kept", .d (.bool kept)) :: ext) cx) (eArgs (sVal (aL 0))) σ = some ([.d w, .d (.list ties), .d (.bool kept)], σ) := by kernel_rfl
theorem a_20 (vs : List PV) : evCallN TW aT.2 (S "_law_lots") vs σ = OLots vs σ := by kernel_rfl
def aX (w : PyData) (kept : Bool) (lots : List PyData) : List (Str × PV) := [(S "some", .d w), (S "kept", .d (.bool kept)), (S "lots", .d (.list lots))]
theorem a_21 : stN aT.2 (aφ d f n ties st at_ ks [(S "some", .d w), (S "kept", .d (.bool kept))] cx) (S "lots") (.d (.list lots)) = some (aφ d f n ties st at_ ks (aX w kept lots) cx) := by kernel_rfl
theorem a_22 : stN aT.2 (aφ d f n ties st at_ ks [(S "some", .d w), (S "kept", .d (.bool kept)), (S "lots", q)] cx) (S "lots") (.d (.list lots)) = some (aφ d f n ties st at_ ks (aX w kept lots) cx) := by kernel_rfl
theorem a_23 : (R TW (N + 3)).tr aT.2 (aφ d f n ties st at_ ks (aX w kept lots) cx) (sVal (aL 1)) σ = some (false, σ) := by kernel_rfl
theorem a_24 : evs (R TW (N + 1)) aT.2 (aφ d f n ties st at_ ks (aX w kept lots) cx) (eArgs (eArg (sVal (aL 2)) 0)) σ = some ([.d (.list lots)], σ) := by kernel_rfl
theorem a_25 : (R TW (N + 1)).ev aT.2 (aφ d f n ties st at_ ks ext cx) (eArg (sVal (aL 2)) 1) σ = some (.d (.int 1), σ) := by kernel_rfl
theorem a_26 : exs (R TW (N + 1)) aT.2 (sBody (aL 2)) (aφ d f n ties st at_ ks ext cx) σ = some (.brk, aφ d f n ties st at_ ks ext cx, σ) := by kernel_rfl
theorem a_27 : evs (R TW (N + 1)) aT.2 (aφ d f n ties st at_ ks (aX w kept lots) cx) (eArgs (eArg (sVal (aI 1)) 0)) σ = some ([.d (.list lots)], σ) := by kernel_rfl
theorem a_28 : (R TW (N + 1)).ev aT.2 (aφ d f n ties st at_ ks ext cx) (eArg (sVal (aI 1)) 1) σ = some (.d (.int 1), σ) := by kernel_rfl
theorem a_29 : exs (R TW (N + 3)) aT.2 (sElse (aI 1)) (aφ d f n ties st at_ ks ext cx) σ = some (.nxt, aφ d f n ties true at_ ks ext cx, σ) := by kernel_rfl
theorem a_30 : (R TW (N + 3)).ex aT.2 (aB 2) (aφ d f n ties st at_ ks ext cx) σ = some (.nxt, aφ d f n ties st (at_ + 1) ks ext cx, σ) := by kernel_rfl
theorem a_31 : (R TW (N + 1)).ev aT.2 (aφ d f n ties st at_ ks (aX w kept lots) cx) (aVE 0) σ = some (.d w, σ) := by kernel_rfl
theorem a_32 : (R TW (N + 3)).tr aT.2 (aφ d f n ties st at_ ks (aX w kept lots) cx) (eArg (aVE 1) 0) σ = some (kept, σ) := by kernel_rfl
theorem a_33 : (R TW (N + 1)).ev aT.2 (aφ d f n ties st at_ ks ext cx) (eArg (aVE 1) 1) σ = some (.d (.int 1), σ) := by kernel_rfl
theorem a_34 : (R TW (N + 1)).ev aT.2 (aφ d f n ties st at_ ks ext cx) (eArg (aVE 1) 2) σ = some (.d (.int 2), σ) := by kernel_rfl
theorem a_35 : evs (R TW (N + 1)) aT.2 (aφ d f n ties st at_ ks (aX w kept lots) cx) (eArgs ((eArgs (gI (lcG aVL 0))).getD 0 xN)) σ = some ([.d (.list lots)], σ) := by kernel_rfl
theorem a_36 : evCallN TW aT.2 (S "range") [.d (.int i)] σ = some (.rng 0 i 1, σ) := by kernel_rfl
theorem a_37 : cFrm aVL (aφ d f n ties st at_ ks ext []) = ⟨[], [(S "sets", .ref ks)], freeN (lcS aVL).names⟩ := by kernel_rfl
def aVP (ks : Nat) (l : List (Str × PV)) : Frm := ⟨l, [(S "sets", .ref ks)], freeN (lcS aVL).names⟩
theorem a_38 : stN aVS (aVP ks []) (S "k") (.d w) = some (aVP ks [(S "k", .d w)]) := by kernel_rfl
theorem a_39 : stN aVS (aVP ks [(S "k", q)]) (S "k") (.d w) = some (aVP ks [(S "k", .d w)]) := by kernel_rfl
theorem a_40 : evs (R TW (N + 1)) aVS (aVP ks ext) (eArgs (eArg (lcE aVL) 0)) σ = some ([.ref ks], σ) := by kernel_rfl
theorem a_41 (vs : List PV) : evCallN TW aVS (S "len") vs σ = (pFun "len" vs σ).map fun v => (v, σ) := by kernel_rfl
theorem a_42 : (R TW (N + 1)).ev aVS (aVP ks [(S "k", .d w)]) (eArg (lcE aVL) 1) σ = some (.d w, σ) := by kernel_rfl
theorem a_43 : (R TW (N + 1)).ev aT.2 (aφ d f n ties st at_ ks ext cx) (sO (aC 0)) σ = some (.ref ks, σ) := by kernel_rfl
theorem a_44 : (R TW (N + 1)).ev aT.2 (aφ d f n ties st at_ ks ext cx) (sI (aC 0)) σ = some (.d (.int at_), σ) := by kernel_rfl
theorem a_45 : (R TW (N + 1)).ev aT.2 (aφ d f n ties st at_ ks ext cx) (eArg aCc 0) σ = some (.ref ks, σ) := by kernel_rfl
theorem a_46 : (R TW (N + 1)).ev aT.2 (aφ d f n ties st at_ ks (aX w kept lots) cx) (gI (lcG aCL 0)) σ = some (.d (.list lots), σ) := by kernel_rfl
theorem a_47 : cFrm aCL (aφ d f n ties st at_ ks ext []) = ⟨[], [], []⟩ := by kernel_rfl
theorem a_48 : stN aCS ⟨[], [], []⟩ (S "lot") (.d w) = some ⟨[(S "lot", .d w)], [], []⟩ := by kernel_rfl
theorem a_49 : stN aCS ⟨[(S "lot", q)], [], []⟩ (S "lot") (.d w) = some ⟨[(S "lot", .d w)], [], []⟩ := by kernel_rfl
theorem a_50 : (R TW (N + 4)).ev aCS ⟨[(S "lot", .d w)], [], []⟩ (lcE aCL) σ = some (.d (.tuple [w, .int 0, .list []]), σ) := by kernel_rfl
theorem a_51 : stN aT.2 (aφ d f n ties st at_ ks ext cx) (S "sets") (.ref kn) = some (aφ d f n ties st at_ kn ext cx) := by kernel_rfl
end
end Mine
end
section
open PySem PySem.W PyProof.Rows
set_option maxRecDepth 100000
set_option linter.all false
namespace Mine
theorem lotsD_len (l : List (List Nat)) : (lotsD l).length = l.length := by simp [lotsD]
theorem setsD_len (l : List SetE) : (setsD l).length = l.length := by simp [setsD]
theorem OLots_at {nds : List Nat} {ties : List PyData} {kept : Bool} {out : List (List Nat)} (hs : subs.contains nds = true) (hl : lotsF nds (Ek ties kept) = some out) (σ : Store) : OLots [.d (.list (natD nds)), .d (.list ties), .d (.bool kept)] σ = some (.d (.list (lotsD out)), σ) := by
  unfold OLots
  dsimp only
  rw [natOk_natD, decI_natD, hs, hl]
  rfl
theorem pCmp_gt (a b : Int) : pCmp .Gt (.int a) (.int b) = some (decide (b < a)) := rfl
theorem gt1 (k : Nat) : decide ((1 : Int) < Int.ofNat k) = decide (1 < k) := decide_eq_decide.mpr (by show (1 : Int) < (k : Int) ↔ _; omega)
theorem flatP_map (f : PyData → List PyData) (g : Nat → Nat) (hf : ∀ v, f (.int (Int.ofNat v)) = [.int (Int.ofNat (g v))]) : ∀ l : List Nat, flatP (fun _ => true) f (natD l) = natD (l.map g)
  | [] => rfl
  | v :: l => by
    have ih := flatP_map f g hf l
    unfold flatP natD at ih ⊢
    rw [List.map_cons, List.flatMap_cons, ih, hf]; rfl

section
variable (N : Nat) (d f : PyData) (n : Int) (ties : List PyData) (st : Bool) (at_ : Int) (ks : Nat) (σ : Store)
/-- one turn of for kept -/
theorem a_kept {nds : List Nat} {kept : Bool} {lots : List (List Nat)} (hs : subs.contains nds = true) (hl : lotsF nds (Ek ties kept) = some lots) (hn : lots.length ≤ 50) (e3 : List (Str × PV)) (he : e3 = [] ∨ ∃ q, e3 = [(S "lots", q)]) :
    exs (R TW (N + 6)) aT.2 (sBody (aI 0)) (aφ d f n ties st at_ ks ((S "some", .d (.list (natD nds))) :: (S "kept", .d (.bool kept)) :: e3) []) σ = some (if 1 < lots.length then .brk else .nxt, aφ d f n ties st at_ ks (aX (.list (natD nds)) kept (lotsD lots)) [], σ) := by
  obtain ⟨x1, x2, x3, x4, x5, x6, x7, x8, x9, x10, x11, x12⟩ := a_3
  have hv : (R TW (N + 5)).ev aT.2 (aφ d f n ties st at_ ks ((S "some", .d (.list (natD nds))) :: (S "kept", .d (.bool kept)) :: e3) []) (sVal (aL 0)) σ = some (.d (.list (lotsD lots)), σ) :=
    ev_callN x5 (a_19 (N + 3) d f n ties st at_ ks e3 [] σ _ kept) (by rw [a_20]; exact OLots_at hs hl σ)
  have L0 : (R TW (N + 6)).ex aT.2 (aL 0) (aφ d f n ties st at_ ks ((S "some", .d (.list (natD nds))) :: (S "kept", .d (.bool kept)) :: e3) []) σ = some (.nxt, aφ d f n ties st at_ ks (aX (.list (natD nds)) kept (lotsD lots)) [], σ) := by
    refine ex_as x2 x3 x4 hv ?_
    rcases he with rfl | ⟨q, rfl⟩
    · exact a_21 d f n ties st at_ ks [] _ kept _
    · exact a_22 d f n ties st at_ ks [] q _ kept _
  have L1 : (R TW (N + 6)).ex aT.2 (aL 1) (aφ d f n ties st at_ ks (aX (.list (natD nds)) kept (lotsD lots)) []) σ = some (.nxt, aφ d f n ties st at_ ks (aX (.list (natD nds)) kept (lotsD lots)) [], σ) :=
    ex_ifF x6 (a_23 (N + 2) d f n ties st at_ ks [] σ _ kept _) (by rw [a_1.2.2.2.2.2.2.1]; exact exs_nil)
  have ht : (R TW (N + 5)).tr aT.2 (aφ d f n ties st at_ ks (aX (.list (natD nds)) kept (lotsD lots)) []) (sVal (aL 2)) σ = some (decide (1 < lots.length), σ) := by
    rw [← gt1]
    refine tr_cmp x8 (v1 := .d (.int (Int.ofNat lots.length))) (ev_callN x9 (a_24 (N + 2) d f n ties st at_ ks [] σ _ kept _) (by rw [a_8, len_list (by rw [lotsD_len]; omega), lotsD_len]; rfl)) (a_25 (N + 3) d f n ties st at_ ks _ [] σ) (by exact pCmp_gt _ _)
  rw [a_1.2.2.2.2.1]
  by_cases hc : 1 < lots.length
  · rw [if_pos hc]
    rw [decide_eq_true hc] at ht
    exact exs_cons L0 (exs_cons L1 (exs_out (by intro h; cases h) (ex_ifT x7 ht (a_26 (N + 4) d f n ties st at_ ks _ [] σ))))
  · rw [if_neg hc]
    rw [decide_eq_false hc] at ht
    exact exs_cons L0 (exs_cons L1 (exs_cons (ex_ifF x7 ht (by rw [a_1.2.2.2.2.2.2.2]; exact exs_nil)) exs_nil))

/-- what for kept finds -/
def pick (nds : List Nat) (ties : List PyData) (kept : Bool) (lots : List (List Nat)) : Prop :=
  (kept = true ∧ lotsF nds (Ek ties true) = some lots ∧ 1 < lots.length) ∨ (kept = false ∧ (∃ l1, lotsF nds (Ek ties true) = some l1 ∧ ¬ 1 < l1.length) ∧ lotsF nds (Ek ties false) = some lots)
theorem a_for {nds : List Nat} {kept : Bool} {lots : List (List Nat)} (hs : subs.contains nds = true) (hp : pick nds ties kept lots) (hn : lots.length ≤ 50) (e2 : List (Str × PV)) (he : e2 = [] ∨ ∃ q q', e2 = [(S "kept", q), (S "lots", q')]) :
    (R TW (N + 7)).ex aT.2 (aI 0) (aφ d f n ties st at_ ks ((S "some", .d (.list (natD nds))) :: e2) []) σ = some (.nxt, aφ d f n ties st at_ ks (aX (.list (natD nds)) kept (lotsD lots)) [], σ) := by
  have hst : ∀ k : Bool, ∃ e3, (e3 = [] ∨ ∃ q, e3 = [(S "lots", q)]) ∧ stN aT.2 (aφ d f n ties st at_ ks ((S "some", .d (.list (natD nds))) :: e2) []) (S "kept") (.d (.bool k)) = some (aφ d f n ties st at_ ks ((S "some", .d (.list (natD nds))) :: (S "kept", .d (.bool k)) :: e3) []) := fun k => by
    rcases he with rfl | ⟨q, q', rfl⟩
    · exact ⟨[], .inl rfl, a_17 d f n ties st at_ ks [] _ k⟩
    · exact ⟨_, .inr ⟨q', rfl⟩, a_18 d f n ties st at_ ks _ [] _ q k⟩
  refine ex_for a_3.1 (a_16 (N + 3) d f n ties st at_ ks _ [] σ) rfl ?_
  obtain ⟨e3, he3, hs1⟩ := hst true
  rcases hp with ⟨rfl, h1, h2⟩ | ⟨rfl, ⟨l1, h1, h1'⟩, h2⟩
  · have hb := a_kept N d f n ties st at_ ks σ hs h1 hn e3 he3
    rw [if_pos h2] at hb
    exact eFor_brk hs1 hb
  · have hb := a_kept N d f n ties st at_ ks σ hs h1 (by omega) e3 he3
    rw [if_neg h1'] at hb
    have hs2 := a_18 d f n ties st at_ ks [(S "lots", .d (.list (lotsD l1)))] [] (.d (.list (natD nds))) (.d (.bool true)) false
    have hb2 := a_kept N d f n ties st at_ ks σ hs h2 hn [(S "lots", .d (.list (lotsD l1)))] (.inr ⟨_, rfl⟩)
    refine eFor_cons hs1 hb ?_
    by_cases hc : 1 < lots.length
    · rw [if_pos hc] at hb2
      exact eFor_brk hs2 hb2
    · rw [if_neg hc] at hb2
      exact eFor_cons hs2 hb2 eFor_nil

theorem a_parts {sets : List SetE} (hk : σ[ks]? = some (.list (setsD sets))) (hl : sets.length ≤ 50) (w : PyData) (kept : Bool) (lots : List (List Nat)) (hn : lots.length ≤ 50) :
    (R TW (N + 6)).ev aT.2 (aφ d f n ties st at_ ks (aX w kept (lotsD lots)) []) (aVE 2) σ = some (.d (.list (natD ((List.range' 0 lots.length).map (sets.length + ·)))), σ) := by
  obtain ⟨x1, x2, x3, x4, x5, x6, x7, x8, x9, x10, x11, x12, x13, x14, x15, x16⟩ := a_4
  have hr : (R TW (N + 5)).ev aT.2 (aφ d f n ties st at_ ks (aX w kept (lotsD lots)) []) (gI (lcG aVL 0)) σ = some (.rng 0 (Int.ofNat lots.length) 1, σ) := by
    refine ev_callN x11 (vs := [.d (.int (Int.ofNat lots.length))]) (σ1 := σ) ?_ (a_36 σ _)
    rw [x12]
    exact evs_cons x13 (ev_callN x14 (a_35 (N + 2) d f n ties st at_ ks [] σ w kept _) (by rw [a_8, len_list (by rw [lotsD_len]; omega), lotsD_len]; rfl)) evs_nil
  let g : PyData → List PyData := fun v => match v with | .int k => [.int ((sets.length : Int) + k)] | _ => []
  have hg := flatP_map g (sets.length + ·) (fun v => by show [PyData.int ((sets.length : Int) + Int.ofNat v)] = _; rfl) (List.range' 0 lots.length)
  obtain ⟨φ', _, h⟩ := cItems_flat (r := R TW (N + 5)) (sc := aVS) (x := S "k") (ifs := gF (lcG aVL 0)) (inner := cEmit (R TW (N + 5)) aVS (lcE aVL)) (σ := σ)
    (fun φ => φ = aVP ks [] ∨ ∃ q, φ = aVP ks [(S "k", q)]) (fun _ => true) g (natD (List.range' 0 lots.length))
    (by
      intro y hy φ acc hI hb
      unfold natD at hy
      obtain ⟨k, -, rfl⟩ := List.mem_map.mp hy
      refine ⟨aVP ks [(S "k", .d (.int (Int.ofNat k)))], ?_, by rw [x10]; exact evIfs_nil, ?_⟩
      · rcases hI with rfl | ⟨q, rfl⟩
        · exact a_38 ks _
        · exact a_39 ks q _
      · rw [if_pos rfl]
        refine ⟨_, .inr ⟨_, rfl⟩, cEmit_eq (x := .int ((sets.length : Int) + Int.ofNat k)) ?_ (by simp [g] at hb; omega)⟩
        exact ev_bin x15 (ev_callN x16 (a_40 (N + 2) ks _ σ) (by rw [a_41, len_ref hk (by rw [setsD_len]; omega), setsD_len]; rfl)) (a_42 (N + 3) ks σ _) (pb_add _ _))
    (aVP ks []) [] (.inl rfl) (by rw [hg, natD_len]; simp; omega)
  rw [hg, List.nil_append] at h
  refine ev_lc x8 (evC1 (φ' := φ') x9 hr (items := natD (List.range' 0 lots.length)) (by rw [show (0 : Int) = Int.ofNat 0 from rfl]; exact pIter_rng 0 _ (by omega) (by omega)) ?_)
  show cItems _ _ _ _ _ _ (cFrm aVL _) _ _ = _
  rw [a_37]
  exact h

theorem a_new (ext : List (Str × PV)) (w : PyData) (kept : Bool) (lots : List (List Nat)) (hn : lots.length ≤ 50) :
    (R TW (N + 7)).ev aT.2 (aφ d f n ties st at_ ks (aX w kept (lotsD lots)) []) (eArg aCc 1) σ = some (.d (.list (setsD (lots.map fun l => (l, 0, [])))), σ) := by
  obtain ⟨x1, x2, x3, x4, x5, x6, x7⟩ := a_5
  let g : PyData → List PyData := fun v => [.tuple [v, .int 0, .list []]]
  have hg : ∀ l : List (List Nat), flatP (fun _ => true) g (lotsD l) = setsD (l.map fun l => (l, 0, [])) := by
    intro l
    induction l with
    | nil => rfl
    | cons x r ih =>
      unfold flatP lotsD setsD at ih ⊢
      rw [List.map_cons, List.flatMap_cons, ih]; rfl
  obtain ⟨φ', _, h⟩ := cItems_flat (r := R TW (N + 6)) (sc := aCS) (x := S "lot") (ifs := gF (lcG aCL 0)) (inner := cEmit (R TW (N + 6)) aCS (lcE aCL)) (σ := σ)
    (fun φ => φ = ⟨[], [], []⟩ ∨ ∃ q, φ = ⟨[(S "lot", q)], [], []⟩) (fun _ => true) g (lotsD lots)
    (by
      intro y hy φ acc hI hb
      refine ⟨⟨[(S "lot", .d y)], [], []⟩, ?_, by rw [x7]; exact evIfs_nil, ?_⟩
      · rcases hI with rfl | ⟨q, rfl⟩
        · exact a_48 y
        · exact a_49 q y
      · rw [if_pos rfl]
        exact ⟨_, .inr ⟨_, rfl⟩, cEmit_eq (a_50 (N + 2) σ y) (by simp [g] at hb; omega)⟩)
    ⟨[], [], []⟩ [] (.inl rfl) (by rw [hg, setsD_len]; simp; omega)
  rw [hg, List.nil_append] at h
  refine ev_lc x5 (evC1 (φ' := φ') x6 (a_46 (N + 5) d f n ties st at_ ks [] σ w kept _) rfl ?_)
  show cItems _ _ _ _ _ _ (cFrm aCL _) _ _ = _
  rw [a_47]
  exact h

theorem a_split {sets : List SetE} (hk : σ[ks]? = some (.list (setsD sets))) (hl : sets.length ≤ 50) (at' : Nat) (ha : at' < sets.length) (nds : List Nat) (kept : Bool) (lots : List (List Nat)) (hn : lots.length ≤ 50) :
    ∃ σ', exs (R TW (N + 9)) aT.2 (sBody (aI 1)) (aφ d f n ties st (Int.ofNat at') ks (aX (.list (natD nds)) kept (lotsD lots)) []) σ = some (.nxt, aφ d f n ties st (Int.ofNat at') σ.length (aX (.list (natD nds)) kept (lotsD lots)) [], σ') ∧
      σ'[σ.length]? = some (.list (setsD (splitS sets at' nds (if kept = true then 1 else 2) lots))) := by
  obtain ⟨x1, x2, x3, x4, x5, x6, x7, x8, x9, x10, x11, x12, x13, x14, x15, x16⟩ := a_4
  obtain ⟨y1, y2, y3, y4, y5, y6, y7⟩ := a_5
  have hkind : (R TW (N + 7)).ev aT.2 (aφ d f n ties st (Int.ofNat at') ks (aX (.list (natD nds)) kept (lotsD lots)) []) (aVE 1) σ = some (.d (.int (Int.ofNat (if kept = true then 1 else 2))), σ) := by
    have ht := a_32 (N + 3) d f n ties st (Int.ofNat at') ks [] σ (.list (natD nds)) kept (lotsD lots)
    cases kept with
    | true => exact ev_ifT x7 ht (a_33 (N + 5) d f n ties st _ ks _ [] σ)
    | false => exact ev_ifF x7 ht (a_34 (N + 5) d f n ties st _ ks _ [] σ)
  have htup : (R TW (N + 8)).ev aT.2 (aφ d f n ties st (Int.ofNat at') ks (aX (.list (natD nds)) kept (lotsD lots)) []) aVT σ = some (.d (setD (nds, (if kept = true then 1 else 2), (List.range' 0 lots.length).map (sets.length + ·))), σ) := by
    refine ev_tuple x2 (vs := [.d (.list (natD nds)), .d (.int (Int.ofNat (if kept = true then 1 else 2))), .d (.list (natD ((List.range' 0 lots.length).map (sets.length + ·))))]) ?_ rfl
    rw [x3]
    exact evs_cons x4 (a_31 (N + 6) d f n ties st _ ks [] σ _ kept _) (evs_cons x5 hkind (evs_cons x6 (a_parts (N + 1) d f n ties st _ ks σ hk hl _ kept lots hn) evs_nil))
  have lks : ks < σ.length := (List.getElem?_eq_some_iff.mp hk).1
  have hC0 : (R TW (N + 9)).ex aT.2 (aC 0) (aφ d f n ties st (Int.ofNat at') ks (aX (.list (natD nds)) kept (lotsD lots)) []) σ = some (.nxt, aφ d f n ties st (Int.ofNat at') ks (aX (.list (natD nds)) kept (lotsD lots)) [],
      σ.set ks (.list ((setsD sets).set at' (setD (nds, (if kept = true then 1 else 2), (List.range' 0 lots.length).map (sets.length + ·)))))) :=
    ex_sub x1 htup (a_43 (N + 7) d f n ties st _ ks _ [] σ) (a_44 (N + 7) d f n ties st _ ks _ [] σ) (setAt_list hk (by rw [setsD_len]; exact ha) (by rw [setsD_len]; omega))
  have hset : (setsD sets).set at' (setD (nds, (if kept = true then 1 else 2), (List.range' 0 lots.length).map (sets.length + ·))) = setsD (sets.set at' (nds, (if kept = true then 1 else 2), (List.range' 0 lots.length).map (sets.length + ·))) := by
    unfold setsD; rw [List.map_set]
  rw [hset] at hC0
  generalize hσ₁ : σ.set ks (PO.list (setsD (sets.set at' (nds, (if kept = true then 1 else 2), (List.range' 0 lots.length).map (sets.length + ·))))) = σ₁ at hC0
  have hk₁ : σ₁[ks]? = some (.list (setsD (sets.set at' (nds, (if kept = true then 1 else 2), (List.range' 0 lots.length).map (sets.length + ·))))) := by rw [← hσ₁, List.getElem?_set_self lks]
  have hl₁ : σ₁.length = σ.length := by rw [← hσ₁]; simp
  have hC1 : (R TW (N + 9)).ex aT.2 (aC 1) (aφ d f n ties st (Int.ofNat at') ks (aX (.list (natD nds)) kept (lotsD lots)) []) σ₁ = some (.nxt, aφ d f n ties st (Int.ofNat at') σ₁.length (aX (.list (natD nds)) kept (lotsD lots)) [],
      σ₁ ++ [.list (setsD (sets.set at' (nds, (if kept = true then 1 else 2), (List.range' 0 lots.length).map (sets.length + ·))) ++ setsD (lots.map fun l => (l, 0, [])))]) :=
    ex_as_new y1 y2 y3 (evNew_cat y4 (a_45 (N + 7) d f n ties st _ ks _ [] σ₁) (a_new (N + 1) d f n ties st _ ks σ₁ [] _ kept lots hn) hk₁ (by rw [setsD_len, setsD_len, List.length_set, List.length_map]; omega)) (a_51 d f n ties st _ ks _ _ [])
  rw [hl₁] at hC1
  refine ⟨_, by rw [a_1.2.2.2.2.2.1]; exact exs_cons hC0 (exs_cons hC1 exs_nil), ?_⟩
  rw [List.getElem?_append_right (by omega)]
  rw [hl₁, Nat.sub_self]
  show some (PO.list _) = _
  unfold splitS setsD
  rw [List.map_append]
end
end Mine
end
section
open PySem PySem.W PyProof.Rows
set_option maxRecDepth 100000
set_option linter.all false
namespace Mine
def shA (e : List (Str × PV)) : Prop := e = [] ∨ ∃ q e2, e = (S "some", q) :: e2 ∧ (e2 = [] ∨ ∃ q q', e2 = [(S "kept", q), (S "lots", q')])
theorem setD_item (e : SetE) : itemAt [.list (natD e.1), .int (Int.ofNat e.2.1), .list (natD e.2.2)] 0 = some (.list (natD e.1)) := by kernel_rfl
theorem setsD_at {sets : List SetE} {k : Nat} {e : SetE} (h : sets[k]? = some e) (hl : sets.length ≤ 50) : itemAt (setsD sets) (Int.ofNat k) = some (setD e) := by
  refine itemAt_c (by rw [setsD_len]; omega) ?_
  unfold setsD
  rw [List.getElem?_map, h]; rfl
theorem a_while (N : Nat) (d f : PyData) (n : Int) (ties : List PyData) : ∀ (g : Nat) (sets : List SetE) (at_ : Nat) (st : Bool) (ks : Nat) (ext : List (Str × PV)) (σ : Store) {sets' : List SetE} {st' : Bool}, shA ext → sets.length < 1000000 → σ[ks]? = some (.list (setsD sets)) →
    lawLoop (Jof ties) g sets at_ st = some (sets', st') →
    ∃ at' ks' ext' σ', (R TW (N + g + 13)).wh aT.2 (sVal (aS 5)) (sBody (aS 5)) (aφ d f n ties st (Int.ofNat at_) ks ext []) σ = some (.nxt, aφ d f n ties st' at' ks' ext' [], σ') ∧ shA ext' ∧ σ'[ks']? = some (.list (setsD sets'))
  | 0, sets, at_, st, ks, ext, σ, sets', st', _, _, _, h => by unfold lawLoop at h; cases h
  | g + 1, sets, at_, st, ks, ext, σ, sets', st', he, hl, hk, h => by
    obtain ⟨x1, x2, x3, x4, x5, x6, x7, x8, x9, x10, x11⟩ := a_2
    have ht : (R TW (N + g + 13)).tr aT.2 (aφ d f n ties st (Int.ofNat at_) ks ext []) (sVal (aS 5)) σ = some (decide (at_ < sets.length), σ) := by
      have h1 : (R TW (N + g + 12)).ev aT.2 (aφ d f n ties st (Int.ofNat at_) ks ext []) (eArg (sVal (aS 5)) 1) σ = some (.d (.int (Int.ofNat sets.length)), σ) :=
        ev_callN x3 (a_7 (N + g + 10) d f n ties st _ ks ext [] σ) (by rw [a_8, len_ref hk (by rw [setsD_len]; exact hl), setsD_len]; rfl)
      refine tr_cmp x2 (a_6 (N + g + 11) d f n ties st _ ks ext [] σ) h1 ?_
      exact (pCmp_lt (Int.ofNat at_) (Int.ofNat sets.length)).trans (congrArg some (decide_eq_decide.mpr Int.ofNat_lt))
    unfold lawLoop at h
    cases hat : sets[at_]? with
    | none =>
      rw [hat] at h
      cases h
      have : ¬ at_ < sets.length := fun q => by rw [List.getElem?_eq_getElem q] at hat; cases hat
      rw [decide_eq_false this] at ht
      exact ⟨_, ks, ext, σ, wh_F ht, he, hk⟩
    | some e =>
      rw [hat] at h
      dsimp only at h
      have hlt : at_ < sets.length := (List.getElem?_eq_some_iff.mp hat).1
      rw [decide_eq_true hlt] at ht
      split at h
      · cases h
      rename_i h50
      have hl50 : sets.length ≤ 50 := by omega
      have hst : ∃ e2, (e2 = [] ∨ ∃ q q', e2 = [(S "kept", q), (S "lots", q')]) ∧ stN aT.2 (aφ d f n ties st (Int.ofNat at_) ks ext []) (S "some") (.d (.list (natD e.1))) = some (aφ d f n ties st (Int.ofNat at_) ks ((S "some", .d (.list (natD e.1))) :: e2) []) := by
        rcases he with rfl | ⟨q, e2, rfl, he2⟩
        · exact ⟨[], .inl rfl, a_12 d f n ties st _ ks [] _⟩
        · exact ⟨e2, he2, a_13 d f n ties st _ ks e2 [] q _⟩
      obtain ⟨e2, he2, hst⟩ := hst
      have hv : (R TW (N + g + 12)).ev aT.2 (aφ d f n ties st (Int.ofNat at_) ks ext []) (sVal (aB 0)) σ = some (.d (.list (natD e.1)), σ) := by
        refine ev_sub x7 (ev_sub x8 (a_9 (N + g + 9) d f n ties st _ ks ext [] σ) (a_10 (N + g + 9) d f n ties st _ ks ext [] σ) (sItem_list hk (setsD_at hat hl50))) (a_11 (N + g + 10) d f n ties st _ ks ext [] σ) ?_
        show (itemAt [.list (natD e.1), .int (Int.ofNat e.2.1), .list (natD e.2.2)] 0).map PV.d = _
        rw [setD_item]; rfl
      have B0 : (R TW (N + g + 13)).ex aT.2 (aB 0) (aφ d f n ties st (Int.ofNat at_) ks ext []) σ = some (.nxt, aφ d f n ties st (Int.ofNat at_) ks ((S "some", .d (.list (natD e.1))) :: e2) [], σ) := ex_as x4 x5 x6 hv hst
      have tr1 : e.1.length < 1000000 → (R TW (N + g + 12)).tr aT.2 (aφ d f n ties st (Int.ofNat at_) ks ((S "some", .d (.list (natD e.1))) :: e2) []) (sVal (aB 1)) σ = some (decide (1 < e.1.length), σ) := fun hle => by
        rw [← gt1]
        exact tr_cmp x10 (v1 := .d (.int (Int.ofNat e.1.length))) (ev_callN x11 (a_14 (N + g + 9) d f n ties st _ ks e2 [] σ _) (by rw [a_8, len_list (by rw [natD_len]; exact hle), natD_len]; rfl)) (a_15 (N + g + 10) d f n ties st _ ks _ [] σ) (by exact pCmp_gt _ _)
      have fin : ∀ (st2 : Bool) (ks2 : Nat) (ext2 : List (Str × PV)) (σ2 : Store) (sets2 : List SetE), (R TW (N + g + 13)).ex aT.2 (aB 1) (aφ d f n ties st (Int.ofNat at_) ks ((S "some", .d (.list (natD e.1))) :: e2) []) σ = some (.nxt, aφ d f n ties st2 (Int.ofNat at_) ks2 ext2 [], σ2) → shA ext2 → sets2.length < 1000000 →
          σ2[ks2]? = some (.list (setsD sets2)) → lawLoop (Jof ties) g sets2 (at_ + 1) st2 = some (sets', st') →
          ∃ at' ks' ext' σ', (R TW (N + (g + 1) + 13)).wh aT.2 (sVal (aS 5)) (sBody (aS 5)) (aφ d f n ties st (Int.ofNat at_) ks ext []) σ = some (.nxt, aφ d f n ties st' at' ks' ext' [], σ') ∧ shA ext' ∧ σ'[ks']? = some (.list (setsD sets')) := by
        intro st2 ks2 ext2 σ2 sets2 hB1 he2' hl2 hk2 hloop
        obtain ⟨at', ks', ext', σ', hw, q1, q2⟩ := a_while N d f n ties g sets2 (at_ + 1) st2 ks2 ext2 σ2 he2' hl2 hk2 hloop
        refine ⟨at', ks', ext', σ', ?_, q1, q2⟩
        have hbody : exs (R TW (N + g + 13)) aT.2 (sBody (aS 5)) (aφ d f n ties st (Int.ofNat at_) ks ext []) σ = some (.nxt, aφ d f n ties st2 (Int.ofNat (at_ + 1)) ks2 ext2 [], σ2) := by
          rw [a_1.2.1]
          exact exs_cons B0 (exs_cons hB1 (exs_cons (a_30 (N + g + 10) d f n ties st2 _ ks2 ext2 [] σ2) exs_nil))
        exact wh_T ht hbody hw
      split at h
      · rename_i h1
        split at h
        · rename_i hsub
          have hsub5 : e.1.length ≤ 5 := (subs_ok e.1 (by simpa using hsub)).2.1
          have ht1 := tr1 (by omega)
          rw [decide_eq_true h1] at ht1
          have two : ∀ (kept : Bool) (lots : List (List Nat)), pick e.1 ties kept lots → lots.length ≤ 50 → (R TW (N + g + 12)).ex aT.2 (aI 0) (aφ d f n ties st (Int.ofNat at_) ks ((S "some", .d (.list (natD e.1))) :: e2) []) σ = some (.nxt, aφ d f n ties st (Int.ofNat at_) ks (aX (.list (natD e.1)) kept (lotsD lots)) [], σ) := fun kept lots hp hn =>
            a_for (N + g + 5) d f n ties st (Int.ofNat at_) ks σ hsub hp hn e2 he2
          have tr2 : ∀ (kept : Bool) (lots : List (List Nat)), lots.length ≤ 50 → (R TW (N + g + 11)).tr aT.2 (aφ d f n ties st (Int.ofNat at_) ks (aX (.list (natD e.1)) kept (lotsD lots)) []) (sVal (aI 1)) σ = some (decide (1 < lots.length), σ) := fun kept lots hn => by
            rw [← gt1]
            exact tr_cmp a_3.2.2.2.2.2.2.2.2.2.2.1 (v1 := .d (.int (Int.ofNat lots.length))) (ev_callN a_3.2.2.2.2.2.2.2.2.2.2.2 (a_27 (N + g + 8) d f n ties st _ ks [] σ _ kept _) (by rw [a_8, len_list (by rw [lotsD_len]; omega), lotsD_len]; rfl)) (a_28 (N + g + 9) d f n ties st _ ks _ [] σ) (by exact pCmp_gt _ _)
          have shx : ∀ (kept : Bool) (lots : List PyData), shA (aX (.list (natD e.1)) kept lots) := fun kept lots => .inr ⟨_, _, rfl, .inr ⟨_, _, rfl⟩⟩
          have split' : ∀ (kept : Bool) (lots : List (List Nat)), pick e.1 ties kept lots → lots.length ≤ 50 → 1 < lots.length → lawLoop (Jof ties) g (splitS sets at_ e.1 (if kept = true then 1 else 2) lots) (at_ + 1) st = some (sets', st') →
              ∃ at' ks' ext' σ', (R TW (N + (g + 1) + 13)).wh aT.2 (sVal (aS 5)) (sBody (aS 5)) (aφ d f n ties st (Int.ofNat at_) ks ext []) σ = some (.nxt, aφ d f n ties st' at' ks' ext' [], σ') ∧ shA ext' ∧ σ'[ks']? = some (.list (setsD sets')) := by
            intro kept lots hp hn hgt hloop
            obtain ⟨σ2, hs2, hk2⟩ := a_split (N + g + 2) d f n ties st ks σ hk hl50 at_ hlt e.1 kept lots hn
            have t2 := tr2 kept lots hn
            rw [decide_eq_true hgt] at t2
            refine fin st σ.length (aX (.list (natD e.1)) kept (lotsD lots)) σ2 (splitS sets at_ e.1 (if kept = true then 1 else 2) lots) (ex_ifT x9 ht1 ?_) (shx kept (lotsD lots)) (by unfold splitS; simp; omega) hk2 hloop
            rw [a_1.2.2.1]
            exact exs_cons (two kept lots hp hn) (exs_cons (ex_ifT a_3.2.2.2.2.2.2.2.2.2.1 t2 hs2) exs_nil)
          split at h
          · cases h
          rename_i lots1 hl1
          split at h
          · rename_i hg1
            split at h
            · cases h
            exact split' true lots1 (.inl ⟨rfl, hl1, hg1⟩) (by omega) hg1 h
          · rename_i hg1
            split at h
            · cases h
            rename_i lots2 hl2
            split at h
            · rename_i hg2
              split at h
              · cases h
              exact split' false lots2 (.inr ⟨rfl, ⟨lots1, hl1, hg1⟩, hl2⟩) (by omega) hg2 h
            · rename_i hg2
              have t2 := tr2 false lots2 (by omega)
              rw [decide_eq_false hg2] at t2
              refine fin true ks (aX (.list (natD e.1)) false (lotsD lots2)) σ sets (ex_ifT x9 ht1 ?_) (shx false (lotsD lots2)) hl hk h
              rw [a_1.2.2.1]
              exact exs_cons (two false lots2 (.inr ⟨rfl, ⟨lots1, hl1, hg1⟩, hl2⟩) (by omega)) (exs_cons (ex_ifF a_3.2.2.2.2.2.2.2.2.2.1 t2 (a_29 (N + g + 8) d f n ties st _ ks _ [] σ)) exs_nil)
        · cases h
      · rename_i h1
        split at h
        · rename_i hlt50
          have ht1 := tr1 (by omega)
          rw [decide_eq_false h1] at ht1
          exact fin st ks _ σ sets (ex_ifF x9 ht1 (by rw [a_1.2.2.2.1]; exact exs_nil)) (.inr ⟨_, e2, rfl, he2⟩) hl hk h
        · cases h
end Mine
end
section
open PySem PySem.W PyProof.Rows
set_option maxRecDepth 100000
set_option linter.all false
namespace Mine
def mS (n : Nat) : Stmt := sAt (sBody (aS 9)) n
def mI : Stmt := sAt (sElse (mS 1)) 0
def mZ : Stmt := sAt (sBody (mS 1)) 0
def mA : Stmt := sAt (sBody mI) 0
def mB : Stmt := sAt (sElse mI) 0
def mAE (n : Nat) : Expr := (eArgs (sVal mA)).getD n xN
def mBE (n : Nat) : Expr := (eArgs (sVal mB)).getD n xN
def mLC (e : Expr) : Expr := (eArgs e).getD 0 xN
theorem m_1 : sBody (aS 9) = [mS 0, mS 1] ∧ isFor (S "at") (aS 9) = true ∧ isTupAs [S "some", S "kind", S "parts"] (mS 0) = true ∧ isSub (sVal (mS 0)) = true ∧ isIf (mS 1) = true ∧ isCmp .Eq (sVal (mS 1)) = true ∧ sBody (mS 1) = [mZ] ∧ sElse (mS 1) = [mI] ∧ isIf mI = true ∧ isCmp .Eq (sVal mI) = true ∧ sBody mI = [mA] ∧ sElse mI = [mB] := by
  refine ⟨?_, ?_, ?_, ?_, ?_, ?_, ?_, ?_, ?_, ?_, ?_, ?_⟩ <;> kernel_rfl
theorem m_2 : isSubAs mZ = true ∧ isSubAs mA = true ∧ isSubAs mB = true ∧ isTup (sVal mA) = true ∧ isTup (sVal mB) = true ∧ eArgs (sVal mA) = [mAE 0, mAE 1] ∧ eArgs (sVal mB) = [mBE 0, mBE 1] ∧ isCallN (S "max") (mAE 0) = true ∧ isCallN (S "sum") (mAE 1) = true ∧ isCallN (S "sum") (mBE 0) = true ∧ isCallN (S "max") (mBE 1) = true := by
  refine ⟨?_, ?_, ?_, ?_, ?_, ?_, ?_, ?_, ?_, ?_, ?_⟩ <;> kernel_rfl
theorem m_3 : noStar (mAE 0) = true ∧ noStar (mAE 1) = true ∧ noStar (mBE 0) = true ∧ noStar (mBE 1) = true := by refine ⟨?_, ?_, ?_, ?_⟩ <;> kernel_rfl
def mPre (p : Option (PV × PV)) : List (Str × PV) := match p with
  | none => []
  | some (q, q') => [(S "kept", q), (S "lots", q')]
def mX (p : Option (PV × PV)) (s k t : PV) : List (Str × PV) := (S "some", s) :: (mPre p ++ [(S "kind", k), (S "parts", t)])
def mC (km : Nat) : List (Str × PV) := [(S "most", .ref km)]
section
variable (N : Nat) (d f : PyData) (n : Int) (ties : List PyData) (st : Bool) (at_ at2 : Int) (ks km : Nat) (ext cx : List (Str × PV)) (σ : Store) (q q' s k t : PV) (w : PyData) (kd : Int) (pt sm : PyData) (p : Option (PV × PV))
theorem m_4 : (R TW (N + 1)).ev aT.2 (aφ d f n ties st at_ ks ext cx) (eArg (sVal (mS 0)) 0) σ = some (.ref ks, σ) := by kernel_rfl
theorem m_5 : (R TW (N + 1)).ev aT.2 (aφ d f n ties st at_ ks ext cx) (eArg (sVal (mS 0)) 1) σ = some (.d (.int at_), σ) := by kernel_rfl
theorem m_6 : stN aT.2 (aφ d f n ties st at_ ks ext cx) (S "at") (.d (.int at2)) = some (aφ d f n ties st at2 ks ext cx) := by kernel_rfl
theorem m_7 : stAll aT.2 [S "some", S "kind", S "parts"] [sm, .int kd, pt] (aφ d f n ties st at_ ks [] cx) = some (aφ d f n ties st at_ ks (mX none (.d sm) (.d (.int kd)) (.d pt)) cx) := by kernel_rfl
theorem m_8 : stAll aT.2 [S "some", S "kind", S "parts"] [sm, .int kd, pt] (aφ d f n ties st at_ ks ((S "some", s) :: mPre p) cx) = some (aφ d f n ties st at_ ks (mX p (.d sm) (.d (.int kd)) (.d pt)) cx) := by
  cases p with
  | none => kernel_rfl
  | some p => obtain ⟨a, b⟩ := p; kernel_rfl
theorem m_9 : stAll aT.2 [S "some", S "kind", S "parts"] [sm, .int kd, pt] (aφ d f n ties st at_ ks (mX p s k t) cx) = some (aφ d f n ties st at_ ks (mX p (.d sm) (.d (.int kd)) (.d pt)) cx) := by
  cases p with
  | none => kernel_rfl
  | some p => obtain ⟨a, b⟩ := p; kernel_rfl
theorem m_10 : (R TW (N + 1)).ev aT.2 (aφ d f n ties st at_ ks (mX p s (.d (.int kd)) t) cx) (eArg (sVal (mS 1)) 0) σ = some (.d (.int kd), σ) ∧ (R TW (N + 1)).ev aT.2 (aφ d f n ties st at_ ks (mX p s (.d (.int kd)) t) cx) (eArg (sVal mI) 0) σ = some (.d (.int kd), σ) := by
  cases p with
  | none => constructor <;> kernel_rfl
  | some p => obtain ⟨a, b⟩ := p; constructor <;> kernel_rfl
theorem m_11 : (R TW (N + 1)).ev aT.2 (aφ d f n ties st at_ ks ext cx) (eArg (sVal (mS 1)) 1) σ = some (.d (.int 0), σ) ∧ (R TW (N + 1)).ev aT.2 (aφ d f n ties st at_ ks ext cx) (eArg (sVal mI) 1) σ = some (.d (.int 1), σ) := by constructor <;> kernel_rfl
theorem m_12 : (R TW (N + 3)).ev aT.2 (aφ d f n ties st at_ ks ext cx) (sVal mZ) σ = some (.d (.tuple [.int 1, .int 1]), σ) := by kernel_rfl
theorem m_13 : ∀ x ∈ [mZ, mA, mB], (R TW (N + 1)).ev aT.2 (aφ d f n ties st at_ ks ext (mC km)) (sO x) σ = some (.ref km, σ) ∧ (R TW (N + 1)).ev aT.2 (aφ d f n ties st at_ ks ext (mC km)) (sI x) σ = some (.d (.int at_), σ) := by
  intro x h
  simp only [List.mem_cons, List.not_mem_nil, or_false] at h
  rcases h with rfl | rfl | rfl <;> constructor <;> kernel_rfl
def mLs : List Expr := [mLC (mAE 0), mLC (mAE 1), mLC (mBE 0), mLC (mBE 1)]
theorem m_14 : ∀ e ∈ mLs, isLC e = true ∧ lcOk1 aT.2 (S "k") e = true ∧ gF (lcG e 0) = [] ∧ isSub (lcE e) = true ∧ isSub (eArg (lcE e) 0) = true ∧ noStar e = true := by
  intro e h
  simp only [mLs, List.mem_cons, List.not_mem_nil, or_false] at h
  rcases h with rfl | rfl | rfl | rfl <;> refine ⟨?_, ?_, ?_, ?_, ?_, ?_⟩ <;> kernel_rfl
theorem m_15 : eArgs (mAE 0) = [mLC (mAE 0)] ∧ eArgs (mAE 1) = [mLC (mAE 1)] ∧ eArgs (mBE 0) = [mLC (mBE 0)] ∧ eArgs (mBE 1) = [mLC (mBE 1)] := by refine ⟨?_, ?_, ?_, ?_⟩ <;> kernel_rfl
def mP (e : Expr) (km : Nat) (l : List (Str × PV)) : Frm := ⟨l, [(S "most", .ref km)], freeN (lcS e).names⟩
theorem m_16 : ∀ e ∈ mLs, cFrm e (aφ d f n ties st at_ ks ext (mC km)) = mP e km [] ∧ stN (cScope aT.2 e) (mP e km []) (S "k") (.d w) = some (mP e km [(S "k", .d w)]) ∧ stN (cScope aT.2 e) (mP e km [(S "k", q)]) (S "k") (.d w) = some (mP e km [(S "k", .d w)]) ∧
    (R TW (N + 1)).ev (cScope aT.2 e) (mP e km [(S "k", .d w)]) (eArg (eArg (lcE e) 0) 0) σ = some (.ref km, σ) ∧ (R TW (N + 1)).ev (cScope aT.2 e) (mP e km [(S "k", .d w)]) (eArg (eArg (lcE e) 0) 1) σ = some (.d w, σ) := by
  intro e h
  simp only [mLs, List.mem_cons, List.not_mem_nil, or_false] at h
  rcases h with rfl | rfl | rfl | rfl <;> refine ⟨?_, ?_, ?_, ?_, ?_⟩ <;> kernel_rfl
theorem m_17 : ∀ e ∈ mLs, (R TW (N + 1)).ev aT.2 (aφ d f n ties st at_ ks (mX p s k (.d pt)) cx) (gI (lcG e 0)) σ = some (.d pt, σ) := by
  intro e h
  simp only [mLs, List.mem_cons, List.not_mem_nil, or_false] at h
  cases p with
  | none => rcases h with rfl | rfl | rfl | rfl <;> kernel_rfl
  | some p => obtain ⟨a, b⟩ := p; rcases h with rfl | rfl | rfl | rfl <;> kernel_rfl
theorem m_18 (φ : Frm) : (R TW (N + 1)).ev (cScope aT.2 (mLC (mAE 0))) φ (eArg (lcE (mLC (mAE 0))) 1) σ = some (.d (.int 0), σ) ∧ (R TW (N + 1)).ev (cScope aT.2 (mLC (mAE 1))) φ (eArg (lcE (mLC (mAE 1))) 1) σ = some (.d (.int 1), σ) ∧
    (R TW (N + 1)).ev (cScope aT.2 (mLC (mBE 0))) φ (eArg (lcE (mLC (mBE 0))) 1) σ = some (.d (.int 0), σ) ∧ (R TW (N + 1)).ev (cScope aT.2 (mLC (mBE 1))) φ (eArg (lcE (mLC (mBE 1))) 1) σ = some (.d (.int 1), σ) := by
  refine ⟨?_, ?_, ?_, ?_⟩ <;> kernel_rfl
theorem m_19 (vs : List PV) : evCallN TW aT.2 (S "max") vs σ = (pFun "max" vs σ).map fun v => (v, σ) := by kernel_rfl
theorem m_20 (vs : List PV) : evCallN TW aT.2 (S "sum") vs σ = (pFun "sum" vs σ).map fun v => (v, σ) := by kernel_rfl
/-- the statements after the while -/
theorem m_21 : isIf (aS 6) = true ∧ isCmp .NotEq (sVal (aS 6)) = true ∧ isCallN (S "_law_way") (eArg (sVal (aS 6)) 1) = true ∧ sElse (aS 6) = [] ∧ isIf (aS 7) = true ∧ sElse (aS 7) = [] ∧ isAs (S "most") (aS 8) = true ∧ plainVal (sVal (aS 8)) = true ∧ (mutN.contains (S "most") && isNewForm (sVal (aS 8))) = false := by
  refine ⟨?_, ?_, ?_, ?_, ?_, ?_, ?_, ?_, ?_⟩ <;> kernel_rfl
theorem m_22 : (R TW (N + 1)).ev aT.2 (aφ d f n ties st at_ ks ext cx) (eArg (sVal (aS 6)) 0) σ = some (.d (.bool st), σ) := by kernel_rfl
theorem m_23 : evs (R TW (N + 1)) aT.2 (aφ d f n ties st at_ ks ext cx) (eArgs (eArg (sVal (aS 6)) 1)) σ = some ([.d (.int n), .d (.list ties)], σ) := by kernel_rfl
theorem m_24 (vs : List PV) : evCallN TW aT.2 (S "_law_way") vs σ = dataO wayR vs σ := by kernel_rfl
theorem m_25 : (R TW (N + 2)).tr aT.2 (aφ d f n ties st at_ ks ext cx) (sVal (aS 7)) σ = some (st, σ) := by kernel_rfl
theorem m_26 : exs (R TW (N + 2)) aT.2 (sBody (aS 7)) (aφ d f n ties st at_ ks ext cx) σ = some (.ret (.d (.bool true)), aφ d f n ties st at_ ks ext cx, σ) := by kernel_rfl
theorem m_27 : (R TW (N + 2)).ev aT.2 (aφ d f n ties st at_ ks ext cx) (sVal (aS 8)) σ = some (.ref σ.length, σ ++ [.dict []]) := by kernel_rfl
theorem m_28 : stN aT.2 (aφ d f n ties st at_ ks ext []) (S "most") (.ref km) = some (aφ d f n ties st at_ ks ext (mC km)) := by kernel_rfl
def mR : Expr := sVal (aS 9)
theorem m_29 : isCallN (S "range") mR = true ∧ eArgs mR = [(eArgs mR).getD 0 xN, (eArgs mR).getD 1 xN, (eArgs mR).getD 2 xN] ∧ noStar ((eArgs mR).getD 0 xN) = true ∧ noStar ((eArgs mR).getD 1 xN) = true ∧ noStar ((eArgs mR).getD 2 xN) = true ∧ isBin .Sub ((eArgs mR).getD 0 xN) = true ∧ isCallN (S "len") (eArg ((eArgs mR).getD 0 xN) 0) = true := by
  refine ⟨?_, ?_, ?_, ?_, ?_, ?_, ?_⟩ <;> kernel_rfl
theorem m_30 : evs (R TW (N + 1)) aT.2 (aφ d f n ties st at_ ks ext cx) (eArgs (eArg ((eArgs mR).getD 0 xN) 0)) σ = some ([.ref ks], σ) := by kernel_rfl
theorem m_31 : (R TW (N + 1)).ev aT.2 (aφ d f n ties st at_ ks ext cx) (eArg ((eArgs mR).getD 0 xN) 1) σ = some (.d (.int 1), σ) := by kernel_rfl
theorem m_32 : (R TW (N + 2)).ev aT.2 (aφ d f n ties st at_ ks ext cx) ((eArgs mR).getD 1 xN) σ = some (.d (.int (-1)), σ) ∧ (R TW (N + 2)).ev aT.2 (aφ d f n ties st at_ ks ext cx) ((eArgs mR).getD 2 xN) σ = some (.d (.int (-1)), σ) := by constructor <;> kernel_rfl
theorem m_33 : evCallN TW aT.2 (S "range") [.d (.int at_), .d (.int (-1)), .d (.int (-1))] σ = some (.rng at_ (-1) (-1), σ) := by kernel_rfl
def mQ : Expr := sVal (aS 10)
def mG (n : Nat) : Expr := (eArgs (eArg mQ 1)).getD n xN
theorem m_34 : isRet (aS 10) = true ∧ isCmp .Eq mQ = true ∧ isSub (eArg mQ 0) = true ∧ isTup (eArg mQ 1) = true ∧ eArgs (eArg mQ 1) = [mG 0, mG 1] ∧ noStar (mG 0) = true ∧ noStar (mG 1) = true ∧ isCallN (S "_law_greatest") (mG 0) = true ∧ isCallN (S "_law_greatest") (mG 1) = true := by
  refine ⟨?_, ?_, ?_, ?_, ?_, ?_, ?_, ?_, ?_⟩ <;> kernel_rfl
theorem m_35 : (R TW (N + 1)).ev aT.2 (aφ d f n ties st at_ ks ext (mC km)) (eArg (eArg mQ 0) 0) σ = some (.ref km, σ) := by kernel_rfl
theorem m_36 : (R TW (N + 1)).ev aT.2 (aφ d f n ties st at_ ks ext cx) (eArg (eArg mQ 0) 1) σ = some (.d (.int 0), σ) := by kernel_rfl
theorem m_37 : evs (R TW (N + 1)) aT.2 (aφ d f n ties st at_ ks ext cx) (eArgs (mG 0)) σ = some ([.d (.int n), .d (.list ties), .d (.bool true)], σ) ∧ evs (R TW (N + 1)) aT.2 (aφ d f n ties st at_ ks ext cx) (eArgs (mG 1)) σ = some ([.d (.int n), .d (.list ties), .d (.bool false)], σ) := by constructor <;> kernel_rfl
theorem m_38 (vs : List PV) : evCallN TW aT.2 (S "_law_greatest") vs σ = dataO greatR vs σ := by kernel_rfl
end
theorem max_N : ∀ (l : List Nat) (m : Nat), (intsN l).foldl max (Int.ofNat m) = Int.ofNat (maxN l m)
  | [], m => rfl
  | x :: r, m => by
    show (intsN r).foldl max (max (Int.ofNat m) (Int.ofNat x)) = Int.ofNat (maxN r (if m ≤ x then x else m))
    have : max (Int.ofNat m) (Int.ofNat x) = Int.ofNat (if m ≤ x then x else m) := by
      show max (m : Int) (x : Int) = ((if m ≤ x then x else m : Nat) : Int)
      split <;> omega
    rw [this, max_N r]
theorem sum_N : ∀ l : List Nat, (intsN l).sum = Int.ofNat (sumN l)
  | [] => rfl
  | x :: r => by
    show (Int.ofNat x :: intsN r).sum = Int.ofNat (x + sumN r)
    rw [List.sum_cons, sum_N r]; rfl
theorem small_N {l : List Nat} (h : ∀ x ∈ l, x < 1000) : small (intsN l) = true := by
  unfold small intsN
  rw [List.all_eq_true]
  intro x hx
  obtain ⟨k, hk, rfl⟩ := List.mem_map.mp hx
  have := h k hk
  exact decide_eq_true (by show k < 1000000; omega)
theorem pmax_N {σ : Store} (x : Nat) (l : List Nat) (hl : l.length < 900) : pFun "max" [.d (.list (natD (x :: l)))] σ = some (.d (.int (Int.ofNat (maxN l x)))) := by
  have h1 : ints? (natD (x :: l)) = some (Int.ofNat x :: intsN l) := ints_natD (x :: l)
  have h2 : (natD (x :: l)).length < 1000 := by rw [natD_len, List.length_cons]; omega
  have e1 : ("max" : String) = "len" ↔ False := by simp
  have e2 : ("max" : String) = "sorted" ↔ False := by simp
  simp only [pFun, e1, e2, if_false, if_true, h1, h2, max_N]
theorem psum_N {σ : Store} (l : List Nat) (hl : l.length < 900) (h : ∀ x ∈ l, x < 1000) : pFun "sum" [.d (.list (natD l))] σ = some (.d (.int (Int.ofNat (sumN l)))) := by
  have h1 : ints? (natD l) = some (intsN l) := ints_natD l
  have h2 : (small (intsN l) && decide ((intsN l).length < 1000)) = true := by
    rw [small_N h]
    have : (intsN l).length = l.length := by simp [intsN]
    rw [this]
    exact decide_eq_true (by omega)
  have e1 : ("sum" : String) = "len" ↔ False := by simp
  have e2 : ("sum" : String) = "sorted" ↔ False := by simp
  have e3 : ("sum" : String) = "max" ↔ False := by simp
  simp only [pFun, e1, e2, e3, if_false, if_true, h1, h2, sum_N]
end Mine
end
section
open PySem PySem.W PyProof.Rows
set_option maxRecDepth 100000
set_option linter.all false
namespace Mine
def pairT (p : Nat × Nat) : PyData := .tuple [.int (Int.ofNat p.1), .int (Int.ofNat p.2)]
def accD (acc : List MostE) : List (Int × PV) := acc.map fun p => (Int.ofNat p.1, .d (pairT p.2))
theorem accD_lookup : ∀ (acc : List MostE) (k : Nat), (accD acc).lookup (Int.ofNat k) = (acc.lookup k).map fun p => .d (pairT p)
  | [], k => rfl
  | (j, p) :: r, k => by
    show List.lookup (Int.ofNat k) ((Int.ofNat j, PV.d (pairT p)) :: accD r) = _
    rw [List.lookup_cons, List.lookup_cons]
    by_cases h : k = j
    · subst h; simp
    · have h1 : (k == j) = false := by simpa using h
      have h2 : (Int.ofNat k == Int.ofNat j) = false := by rw [beq_eq_false_iff_ne]; exact fun q => h (Int.ofNat.inj q)
      rw [h1, h2]
      exact accD_lookup r k
theorem accD_len (acc : List MostE) : (accD acc).length = acc.length := by simp [accD]
theorem looks_cons {acc : List MostE} {k : Nat} {r : List Nat} {ps : List (Nat × Nat)} (h : looks acc (k :: r) = some ps) : ∃ p ps', acc.lookup k = some p ∧ looks acc r = some ps' ∧ ps = p :: ps' := by
  unfold looks at h
  split at h
  · cases h
  · rename_i p hp
    split at h
    · cases h
    · rename_i ps' hps
      cases h
      exact ⟨p, ps', hp, hps, rfl⟩
theorem looks_mem {acc : List MostE} : ∀ {parts : List Nat} {ps : List (Nat × Nat)} {k : Nat}, looks acc parts = some ps → k ∈ parts → ∃ p, acc.lookup k = some p
  | [], _, _, _, h => nomatch h
  | j :: r, ps, k, h, hm => by
    obtain ⟨p, ps', h1, h2, rfl⟩ := looks_cons h
    rcases List.mem_cons.mp hm with e | hm
    · exact ⟨p, e ▸ h1⟩
    · exact looks_mem h2 hm
theorem looks_len {acc : List MostE} : ∀ {parts : List Nat} {ps : List (Nat × Nat)}, looks acc parts = some ps → ps.length = parts.length
  | [], ps, h => by unfold looks at h; cases h; rfl
  | j :: r, ps, h => by
    obtain ⟨p, ps', h1, h2, rfl⟩ := looks_cons h
    rw [List.length_cons, List.length_cons, looks_len h2]
def selD (acc : List MostE) (sel : Nat × Nat → Nat) : PyData → List PyData
  | .int k => match acc.lookup k.toNat with
    | some p => [.int (Int.ofNat (sel p))]
    | none => []
  | _ => []
theorem selD_at {acc : List MostE} {sel : Nat × Nat → Nat} {k : Nat} {p : Nat × Nat} (h : acc.lookup k = some p) : selD acc sel (.int (Int.ofNat k)) = [.int (Int.ofNat (sel p))] := by
  unfold selD
  dsimp only
  have : (Int.ofNat k).toNat = k := rfl
  rw [this, h]
theorem flat_sel {acc : List MostE} (sel : Nat × Nat → Nat) : ∀ {parts : List Nat} {ps : List (Nat × Nat)}, looks acc parts = some ps → flatP (fun _ => true) (selD acc sel) (natD parts) = natD (ps.map sel)
  | [], ps, h => by unfold looks at h; cases h; rfl
  | j :: r, ps, h => by
    obtain ⟨p, ps', h1, h2, rfl⟩ := looks_cons h
    have ih := flat_sel sel h2
    unfold flatP natD at ih ⊢
    rw [List.map_cons, List.flatMap_cons, ih, selD_at h1]; rfl

section
variable (N : Nat) (d f : PyData) (n : Int) (ties : List PyData) (st : Bool) (at_ : Int) (ks km : Nat) (σ : Store) (p : Option (PV × PV)) (s k : PV)
theorem m_lc {acc : List MostE} (hk : σ[km]? = some (.dict (accD acc))) {parts : List Nat} {ps : List (Nat × Nat)} (hl : looks acc parts = some ps) (hp : parts.length ≤ 50) (e : Expr) (he : e ∈ mLs) (i : Int) (sel : Nat × Nat → Nat) (hsel : ∀ p, itemAt [.int (Int.ofNat p.1), .int (Int.ofNat p.2)] i = some (.int (Int.ofNat (sel p))))
    (hi : ∀ φ, (R TW (N + 3)).ev (cScope aT.2 e) φ (eArg (lcE e) 1) σ = some (.d (.int i), σ)) :
    (R TW (N + 5)).ev aT.2 (aφ d f n ties st at_ ks (mX p s k (.d (.list (natD parts)))) (mC km)) e σ = some (.d (.list (natD (ps.map sel))), σ) := by
  obtain ⟨x1, x2, x3, x4, x5, x6⟩ := m_14 e he
  have hflat := flat_sel sel hl
  have hlen := looks_len hl
  obtain ⟨φ', _, h⟩ := cItems_flat (r := R TW (N + 4)) (sc := cScope aT.2 e) (x := S "k") (ifs := gF (lcG e 0)) (inner := cEmit (R TW (N + 4)) (cScope aT.2 e) (lcE e)) (σ := σ)
    (fun φ => φ = mP e km [] ∨ ∃ q, φ = mP e km [(S "k", q)]) (fun _ => true) (selD acc sel) (natD parts)
    (by
      intro y hy φ ac hI hb
      unfold natD at hy
      obtain ⟨j, hj, rfl⟩ := List.mem_map.mp hy
      obtain ⟨pp, hpp⟩ := looks_mem hl hj
      have m16 := m_16 (N + 1) d f n ties st at_ ks km [] σ s (.int (Int.ofNat j)) e he
      refine ⟨mP e km [(S "k", .d (.int (Int.ofNat j)))], ?_, by rw [x3]; exact evIfs_nil, ?_⟩
      · rcases hI with rfl | ⟨q, rfl⟩
        · exact m16.2.1
        · exact (m_16 (N + 1) d f n ties st at_ ks km [] σ q (.int (Int.ofNat j)) e he).2.2.1
      · rw [if_pos rfl] at hb ⊢
        rw [selD_at hpp] at hb ⊢
        refine ⟨_, .inr ⟨_, rfl⟩, cEmit_eq ?_ (by simp at hb; omega)⟩
        refine ev_sub x4 (ev_sub x5 m16.2.2.2.1 m16.2.2.2.2 (sItem_dict hk (by rw [accD_lookup, hpp]; rfl))) (hi _) ?_
        show (itemAt [.int (Int.ofNat pp.1), .int (Int.ofNat pp.2)] i).map PV.d = _
        rw [hsel]; rfl)
    (mP e km []) [] (.inl rfl) (by rw [hflat, natD_len, List.length_map, List.length_nil]; omega)
  rw [hflat, List.nil_append] at h
  refine ev_lc x1 (evC1 (φ' := φ') x2 (m_17 (N + 3) d f n ties st at_ ks (mC km) σ s k (.list (natD parts)) p e he) rfl ?_)
  rw [(m_16 0 d f n ties st at_ ks km (mX p s k (.d (.list (natD parts)))) σ s (.int 0) e he).1]
  exact h
end
theorem sel0 (p : Nat × Nat) : itemAt [.int (Int.ofNat p.1), .int (Int.ofNat p.2)] 0 = some (.int (Int.ofNat p.1)) := by kernel_rfl
theorem sel1 (p : Nat × Nat) : itemAt [.int (Int.ofNat p.1), .int (Int.ofNat p.2)] 1 = some (.int (Int.ofNat p.2)) := by kernel_rfl

section
variable (N : Nat) (d f : PyData) (n : Int) (ties : List PyData) (st : Bool) (ks km : Nat) (σ : Store)
/-- what one turn stores -/
def valM (kind : Nat) (p : Nat × Nat) (ps : List (Nat × Nat)) : Nat × Nat := if kind = 1 then (maxN (ps.map (·.1)) p.1, sumN ((p :: ps).map (·.2))) else (sumN ((p :: ps).map (·.1)), maxN (ps.map (·.2)) p.2)
theorem m_val {acc : List MostE} (hk : σ[km]? = some (.dict (accD acc))) (at_ : Int) (kind : Nat) {parts : List Nat} {p : Nat × Nat} {ps : List (Nat × Nat)} (hl : looks acc parts = some (p :: ps)) (hp : parts.length ≤ 50) (hs : (p :: ps).all (fun q => decide (q.1 < 1000) && decide (q.2 < 1000)) = true) (pp : Option (PV × PV)) (s k : PV) :
    (kind = 1 → (R TW (N + 7)).ev aT.2 (aφ d f n ties st at_ ks (mX pp s k (.d (.list (natD parts)))) (mC km)) (sVal mA) σ = some (.d (pairT (valM kind p ps)), σ)) ∧
    (kind ≠ 1 → (R TW (N + 7)).ev aT.2 (aφ d f n ties st at_ ks (mX pp s k (.d (.list (natD parts)))) (mC km)) (sVal mB) σ = some (.d (pairT (valM kind p ps)), σ)) := by
  obtain ⟨x1, x2, x3, x4, x5, x6, x7, x8, x9, x10, x11⟩ := m_2
  obtain ⟨y1, y2, y3, y4⟩ := m_3
  obtain ⟨z1, z2, z3, z4⟩ := m_15
  have hlen := looks_len hl
  rw [List.length_cons] at hlen
  have hb1 : ∀ x ∈ (p :: ps).map (·.1), x < 1000 := fun x hx => by
    obtain ⟨q, hq, rfl⟩ := List.mem_map.mp hx
    have := List.all_eq_true.mp hs q hq
    simp only [Bool.and_eq_true, decide_eq_true_eq] at this
    exact this.1
  have hb2 : ∀ x ∈ (p :: ps).map (·.2), x < 1000 := fun x hx => by
    obtain ⟨q, hq, rfl⟩ := List.mem_map.mp hx
    have := List.all_eq_true.mp hs q hq
    simp only [Bool.and_eq_true, decide_eq_true_eq] at this
    exact this.2
  have hll : ((p :: ps).map (·.2)).length < 900 ∧ ((p :: ps).map (·.1)).length < 900 := by simp; omega
  have hl1 : (ps.map (·.1)).length < 900 ∧ (ps.map (·.2)).length < 900 := by simp; omega
  refine ⟨fun h1 => ?_, fun h1 => ?_⟩
  · have a0 := m_lc N d f n ties st at_ ks km σ pp s k hk hl hp (mLC (mAE 0)) (by simp [mLs]) 0 (·.1) sel0 (fun φ => (m_18 (N + 2) σ φ).1)
    have a1 := m_lc N d f n ties st at_ ks km σ pp s k hk hl hp (mLC (mAE 1)) (by simp [mLs]) 1 (·.2) sel1 (fun φ => (m_18 (N + 2) σ φ).2.1)
    have e0 : (R TW (N + 6)).ev aT.2 (aφ d f n ties st at_ ks (mX pp s k (.d (.list (natD parts)))) (mC km)) (mAE 0) σ = some (.d (.int (Int.ofNat (maxN (ps.map (·.1)) p.1))), σ) := by
      refine ev_callN x8 (vs := [.d (.list (natD ((p :: ps).map (·.1))))]) (σ1 := σ) ?_ (by rw [m_19]; rw [List.map_cons, pmax_N _ _ hl1.1]; rfl)
      rw [z1]
      exact evs_cons (m_14 _ (by simp [mLs])).2.2.2.2.2 a0 evs_nil
    have e1 : (R TW (N + 6)).ev aT.2 (aφ d f n ties st at_ ks (mX pp s k (.d (.list (natD parts)))) (mC km)) (mAE 1) σ = some (.d (.int (Int.ofNat (sumN ((p :: ps).map (·.2))))), σ) := by
      refine ev_callN x9 (vs := [.d (.list (natD ((p :: ps).map (·.2))))]) (σ1 := σ) ?_ (by rw [m_20, psum_N _ hll.1 hb2]; rfl)
      rw [z2]
      exact evs_cons (m_14 _ (by simp [mLs])).2.2.2.2.2 a1 evs_nil
    have : valM kind p ps = (maxN (ps.map (·.1)) p.1, sumN ((p :: ps).map (·.2))) := by unfold valM; rw [if_pos h1]
    rw [this]
    refine ev_tuple x4 (vs := [.d (.int (Int.ofNat (maxN (ps.map (·.1)) p.1))), .d (.int (Int.ofNat (sumN ((p :: ps).map (·.2)))))]) ?_ rfl
    rw [x6]
    exact evs_cons y1 e0 (evs_cons y2 e1 evs_nil)
  · have a0 := m_lc N d f n ties st at_ ks km σ pp s k hk hl hp (mLC (mBE 0)) (by simp [mLs]) 0 (·.1) sel0 (fun φ => (m_18 (N + 2) σ φ).2.2.1)
    have a1 := m_lc N d f n ties st at_ ks km σ pp s k hk hl hp (mLC (mBE 1)) (by simp [mLs]) 1 (·.2) sel1 (fun φ => (m_18 (N + 2) σ φ).2.2.2)
    have e0 : (R TW (N + 6)).ev aT.2 (aφ d f n ties st at_ ks (mX pp s k (.d (.list (natD parts)))) (mC km)) (mBE 0) σ = some (.d (.int (Int.ofNat (sumN ((p :: ps).map (·.1))))), σ) := by
      refine ev_callN x10 (vs := [.d (.list (natD ((p :: ps).map (·.1))))]) (σ1 := σ) ?_ (by rw [m_20, psum_N _ hll.2 hb1]; rfl)
      rw [z3]
      exact evs_cons (m_14 _ (by simp [mLs])).2.2.2.2.2 a0 evs_nil
    have e1 : (R TW (N + 6)).ev aT.2 (aφ d f n ties st at_ ks (mX pp s k (.d (.list (natD parts)))) (mC km)) (mBE 1) σ = some (.d (.int (Int.ofNat (maxN (ps.map (·.2)) p.2))), σ) := by
      refine ev_callN x11 (vs := [.d (.list (natD ((p :: ps).map (·.2))))]) (σ1 := σ) ?_ (by rw [m_19]; rw [List.map_cons, pmax_N _ _ hl1.2]; rfl)
      rw [z4]
      exact evs_cons (m_14 _ (by simp [mLs])).2.2.2.2.2 a1 evs_nil
    have : valM kind p ps = (sumN ((p :: ps).map (·.1)), maxN (ps.map (·.2)) p.2) := by unfold valM; rw [if_neg h1]
    rw [this]
    refine ev_tuple x5 (vs := [.d (.int (Int.ofNat (sumN ((p :: ps).map (·.1))))), .d (.int (Int.ofNat (maxN (ps.map (·.2)) p.2)))]) ?_ rfl
    rw [x7]
    exact evs_cons y3 e0 (evs_cons y4 e1 evs_nil)

def shM (ext : List (Str × PV)) : Prop := ext = [] ∨ (∃ s p, ext = (S "some", s) :: mPre p) ∨ ∃ p s k t, ext = mX p s k t
def downN : Nat → List Nat
  | 0 => []
  | k + 1 => k :: downN k
theorem acc_new {acc : List MostE} {k : Nat} (h : ∀ p ∈ acc, k < p.1) : (accD acc).lookup (Int.ofNat k) = none := by
  rw [accD_lookup]
  have : acc.lookup k = none := by
    rw [List.lookup_eq_none_iff]
    intro p hp
    have := h p hp
    simp; omega
  rw [this]; rfl
theorem accD_app (acc : List MostE) (k : Nat) (v : Nat × Nat) : accD (acc ++ [(k, v)]) = accD acc ++ [(Int.ofNat k, .d (pairT v))] := by simp [accD]
theorem m_for {sets : List SetE} (hsl : sets.length ≤ 50) (hkm : ks ≠ km) : ∀ (c : Nat) (acc : List MostE) (at_ : Int) (ext : List (Str × PV)) (σ : Store) {acc' : List MostE}, shM ext → σ[ks]? = some (.list (setsD sets)) → σ[km]? = some (.dict (accD acc)) → (∀ p ∈ acc, c ≤ p.1) → acc.length + c ≤ 100 →
    mostLoop sets c acc = some acc' →
    ∃ at' ext' σ', eFor (R TW (N + 11)) aT.2 (S "at") (sBody (aS 9)) (natD (downN c)) (aφ d f n ties st at_ ks ext (mC km)) σ = some (.nxt, aφ d f n ties st at' ks ext' (mC km), σ') ∧ σ'[km]? = some (.dict (accD acc'))
  | 0, acc, at_, ext, σ, acc', _, _, h2, _, _, h => by
    unfold mostLoop at h
    cases h
    exact ⟨at_, ext, σ, by show eFor _ _ _ _ [] _ _ = _; rw [eFor_nil], h2⟩
  | c + 1, acc, at_, ext, σ, acc', he, h1, h2, hkeys, hal, h => by
    unfold mostLoop at h
    cases hse : sets[c]? with
    | none => rw [hse] at h; cases h
    | some e =>
      rw [hse] at h
      dsimp only at h
      obtain ⟨x1, x2, x3, x4, x5, x6, x7, x8, x9, x10, x11, x12⟩ := m_1
      have lkm : km < σ.length := (List.getElem?_eq_some_iff.mp h2).1
      have hst : stN aT.2 (aφ d f n ties st at_ ks ext (mC km)) (S "at") (.d (.int (Int.ofNat c))) = some (aφ d f n ties st (Int.ofNat c) ks ext (mC km)) := m_6 d f n ties st at_ _ ks ext (mC km)
      have hv : (R TW (N + 10)).ev aT.2 (aφ d f n ties st (Int.ofNat c) ks ext (mC km)) (sVal (mS 0)) σ = some (.d (setD e), σ) :=
        ev_sub x4 (m_4 (N + 8) d f n ties st _ ks ext (mC km) σ) (m_5 (N + 8) d f n ties st _ ks ext (mC km) σ) (sItem_list h1 (setsD_at hse hsl))
      have hall : ∃ pp, stAll aT.2 [S "some", S "kind", S "parts"] [.list (natD e.1), .int (Int.ofNat e.2.1), .list (natD e.2.2)] (aφ d f n ties st (Int.ofNat c) ks ext (mC km)) = some (aφ d f n ties st (Int.ofNat c) ks (mX pp (.d (.list (natD e.1))) (.d (.int (Int.ofNat e.2.1))) (.d (.list (natD e.2.2)))) (mC km)) := by
        rcases he with rfl | ⟨s, p, rfl⟩ | ⟨p, s, k, t, rfl⟩
        · exact ⟨none, m_7 d f n ties st _ ks (mC km) _ _ _⟩
        · exact ⟨p, m_8 d f n ties st _ ks (mC km) s _ _ _ p⟩
        · exact ⟨p, m_9 d f n ties st _ ks (mC km) s k t _ _ _ p⟩
      obtain ⟨pp, hall⟩ := hall
      have M0 : (R TW (N + 11)).ex aT.2 (mS 0) (aφ d f n ties st (Int.ofNat c) ks ext (mC km)) σ = some (.nxt, aφ d f n ties st (Int.ofNat c) ks (mX pp (.d (.list (natD e.1))) (.d (.int (Int.ofNat e.2.1))) (.d (.list (natD e.2.2)))) (mC km), σ) := ex_tup x3 hv (by simp) hall
      obtain ⟨k1, k2⟩ := m_10 (N + 8) d f n ties st (Int.ofNat c) ks (mC km) σ (.d (.list (natD e.1))) (.d (.list (natD e.2.2))) (Int.ofNat e.2.1) pp
      obtain ⟨k3, k4⟩ := m_11 (N + 8) d f n ties st (Int.ofNat c) ks (mX pp (.d (.list (natD e.1))) (.d (.int (Int.ofNat e.2.1))) (.d (.list (natD e.2.2)))) (mC km) σ
      have e0 : ∀ j : Nat, decide (Int.ofNat e.2.1 = Int.ofNat j) = decide (e.2.1 = j) := fun j => decide_eq_decide.mpr ⟨fun q => Int.ofNat.inj q, fun q => congrArg Int.ofNat q⟩
      have t0 := tr_cmp (T := TW) (N := N + 9) x6 k1 k3 (by exact pCmp_eq_int _ _)
      rw [show decide (Int.ofNat e.2.1 = 0) = decide (e.2.1 = 0) from e0 0] at t0
      have hnone : (accD acc).lookup (Int.ofNat c) = none := acc_new fun p hp => by have := hkeys p hp; omega
      have hdl : (accD acc).length < 1000000 := by rw [accD_len]; omega
      have store : ∀ (x : Stmt) (v : Nat × Nat) (M : Nat), x ∈ [mZ, mA, mB] → isSubAs x = true → (R TW (M + 1)).ev aT.2 (aφ d f n ties st (Int.ofNat c) ks (mX pp (.d (.list (natD e.1))) (.d (.int (Int.ofNat e.2.1))) (.d (.list (natD e.2.2)))) (mC km)) (sVal x) σ = some (.d (pairT v), σ) →
          (R TW (M + 2)).ex aT.2 x (aφ d f n ties st (Int.ofNat c) ks (mX pp (.d (.list (natD e.1))) (.d (.int (Int.ofNat e.2.1))) (.d (.list (natD e.2.2)))) (mC km)) σ = some (.nxt, aφ d f n ties st (Int.ofNat c) ks (mX pp (.d (.list (natD e.1))) (.d (.int (Int.ofNat e.2.1))) (.d (.list (natD e.2.2)))) (mC km), σ.set km (.dict (accD (acc ++ [(c, v)])))) := fun x v M hx hsx hvx => by
        have m13 := m_13 M d f n ties st (Int.ofNat c) ks km (mX pp (.d (.list (natD e.1))) (.d (.int (Int.ofNat e.2.1))) (.d (.list (natD e.2.2)))) σ x hx
        refine ex_sub hsx hvx m13.1 m13.2 ?_
        rw [setAt_dict h2 hdl, putD_new hnone, accD_app]
      have next : ∀ (v : Nat × Nat), (R TW (N + 11)).ex aT.2 (mS 1) (aφ d f n ties st (Int.ofNat c) ks (mX pp (.d (.list (natD e.1))) (.d (.int (Int.ofNat e.2.1))) (.d (.list (natD e.2.2)))) (mC km)) σ = some (.nxt, aφ d f n ties st (Int.ofNat c) ks (mX pp (.d (.list (natD e.1))) (.d (.int (Int.ofNat e.2.1))) (.d (.list (natD e.2.2)))) (mC km), σ.set km (.dict (accD (acc ++ [(c, v)])))) →
          mostLoop sets c (acc ++ [(c, v)]) = some acc' →
          ∃ at' ext' σ', eFor (R TW (N + 11)) aT.2 (S "at") (sBody (aS 9)) (natD (downN (c + 1))) (aφ d f n ties st at_ ks ext (mC km)) σ = some (.nxt, aφ d f n ties st at' ks ext' (mC km), σ') ∧ σ'[km]? = some (.dict (accD acc')) := fun v hM1 hm => by
        obtain ⟨at', ext', σ', hr, hq⟩ := m_for hsl hkm c (acc ++ [(c, v)]) (Int.ofNat c) (mX pp (.d (.list (natD e.1))) (.d (.int (Int.ofNat e.2.1))) (.d (.list (natD e.2.2)))) (σ.set km (.dict (accD (acc ++ [(c, v)])))) (.inr (.inr ⟨_, _, _, _, rfl⟩)) (by rw [List.getElem?_set_ne (Ne.symm hkm)]; exact h1) (by rw [List.getElem?_set_self lkm])
          (fun p hp => by
            rcases List.mem_append.mp hp with q | q
            · have := hkeys p q; omega
            · rw [List.mem_singleton.mp q]; exact Nat.le_refl _) (by simp; omega) hm
        refine ⟨at', ext', σ', ?_, hq⟩
        show eFor _ _ _ _ (.int (Int.ofNat c) :: natD (downN c)) _ _ = _
        exact eFor_cons hst (by rw [x1]; exact exs_cons M0 (exs_cons hM1 exs_nil)) hr
      split at h
      · rename_i hk0
        rw [decide_eq_true hk0] at t0
        refine next (1, 1) (ex_ifT x5 t0 ?_) h
        rw [x7]
        exact exs_cons (store mZ (1, 1) (N + 8) (by simp) m_2.1 (m_12 (N + 6) d f n ties st _ ks _ (mC km) σ)) exs_nil
      · rename_i hk0
        rw [decide_eq_false hk0] at t0
        split at h
        · cases h
        rename_i h50
        split at h
        · cases h
        · cases h
        rename_i p ps hlk
        split at h
        · rename_i hsm
          have t1 := tr_cmp (T := TW) (N := N + 9) x10 k2 k4 (by exact pCmp_eq_int _ _)
          rw [show decide (Int.ofNat e.2.1 = 1) = decide (e.2.1 = 1) from e0 1] at t1
          obtain ⟨v1, v2⟩ := m_val (N + 1) d f n ties st ks km σ h2 (Int.ofNat c) e.2.1 hlk (by omega) hsm pp (.d (.list (natD e.1))) (.d (.int (Int.ofNat e.2.1)))
          refine next (valM e.2.1 p ps) (ex_ifF x5 t0 ?_) h
          rw [x8]
          refine exs_cons ?_ exs_nil
          have t1' : (R TW (N + 9)).tr aT.2 (aφ d f n ties st (Int.ofNat c) ks (mX pp (.d (.list (natD e.1))) (.d (.int (Int.ofNat e.2.1))) (.d (.list (natD e.2.2)))) (mC km)) (sVal mI) σ = some (decide (e.2.1 = 1), σ) := by
            have k2' := (m_10 (N + 7) d f n ties st (Int.ofNat c) ks (mC km) σ (.d (.list (natD e.1))) (.d (.list (natD e.2.2))) (Int.ofNat e.2.1) pp).2
            have k4' := (m_11 (N + 7) d f n ties st (Int.ofNat c) ks (mX pp (.d (.list (natD e.1))) (.d (.int (Int.ofNat e.2.1))) (.d (.list (natD e.2.2)))) (mC km) σ).2
            have := tr_cmp (T := TW) (N := N + 8) x10 k2' k4' (by exact pCmp_eq_int _ _)
            rw [show decide (Int.ofNat e.2.1 = 1) = decide (e.2.1 = 1) from e0 1] at this
            exact this
          by_cases hk1 : e.2.1 = 1
          · rw [decide_eq_true hk1] at t1'
            refine ex_ifT x9 t1' ?_
            rw [x11]
            exact exs_cons (store mA _ (N + 7) (by simp) m_2.2.1 (v1 hk1)) exs_nil
          · rw [decide_eq_false hk1] at t1'
            refine ex_ifF x9 t1' ?_
            rw [x12]
            exact exs_cons (store mB _ (N + 7) (by simp) m_2.2.2.1 (v2 hk1)) exs_nil
        · cases h
end
end Mine
end
section
open PySem PySem.W PyProof.Rows
set_option maxRecDepth 100000
set_option linter.all false
namespace Mine
theorem down_items : ∀ m : Nat, ((List.range m).map fun (i : Nat) => PyData.int ((m : Int) - 1 - i)) = natD (downN m)
  | 0 => rfl
  | m + 1 => by
    rw [List.range_succ_eq_map, List.map_cons, List.map_map]
    show _ = PyData.int (Int.ofNat m) :: natD (downN m)
    rw [← down_items m]
    congr 1
    · congr 1
      simp
    · apply List.map_congr_left
      intro i _
      show PyData.int _ = PyData.int _
      congr 1
      simp
      omega
theorem pIter_down {m : Nat} (h : m < 100000) : pIter (.rng ((m : Int) - 1) (-1) (-1)) = some (natD (downN m)) := by
  unfold pIter
  dsimp only
  rw [if_neg (by decide), if_pos rfl, if_pos (by omega), ← down_items m]
  have e : (((m : Int) - 1) - (-1)).toNat = m := by omega
  rw [e]
def z0 (d : PyData) (ext cx : List (Str × PV)) : Frm := ⟨(S "script", .d d) :: ext, cx, []⟩
theorem z_1 : isAs (S "found") (aS 0) = true ∧ plainVal (sVal (aS 0)) = true ∧ (mutN.contains (S "found") && isNewForm (sVal (aS 0))) = false ∧ isCallN (S "_law_numbers") (sVal (aS 0)) = true ∧ isTupAs [S "n", S "ties"] (aS 1) = true ∧ isCallN (S "_law_ties") (sVal (aS 1)) = true ∧ isAs (S "sets") (aS 2) = true ∧ plainVal (sVal (aS 2)) = true ∧ (mutN.contains (S "sets") && isNewForm (sVal (aS 2))) = true := by
  refine ⟨?_, ?_, ?_, ?_, ?_, ?_, ?_, ?_, ?_⟩ <;> kernel_rfl
section
variable (N : Nat) (d f : PyData) (n : Int) (ties : List PyData) (σ : Store) (ext cx : List (Str × PV)) (k : Nat)
theorem z_2 : evs (R TW (N + 2)) aT.2 (z0 d ext cx) (eArgs (sVal (aS 0))) σ = some ([.d d, .d (.int 3)], σ) := by kernel_rfl
theorem z_3 (vs : List PV) : evCallN TW aT.2 (S "_law_numbers") vs σ = dataO numR vs σ := by kernel_rfl
theorem z_4 : stN aT.2 (z0 d [] []) (S "found") (.d f) = some (z0 d [(S "found", .d f)] []) := by kernel_rfl
theorem z_5 : evs (R TW (N + 1)) aT.2 (z0 d [(S "found", .d f)] cx) (eArgs (sVal (aS 1))) σ = some ([.d f], σ) := by kernel_rfl
theorem z_6 (vs : List PV) : evCallN TW aT.2 (S "_law_ties") vs σ = OTies vs σ := by kernel_rfl
theorem z_7 : stAll aT.2 [S "n", S "ties"] [.int n, .list ties] (z0 d [(S "found", .d f)] []) = some (z0 d [(S "found", .d f), (S "n", .d (.int n)), (S "ties", .d (.list ties))] []) := by kernel_rfl
def z3 (d f : PyData) (n : Int) (ties : List PyData) (ext cx : List (Str × PV)) : Frm := z0 d ([(S "found", .d f), (S "n", .d (.int n)), (S "ties", .d (.list ties))] ++ ext) cx
theorem z_8a : evNew (R TW (N + 5)) aT.2 (z3 d f 2 ties [] []) (sVal (aS 2)) σ = some (setsD [(List.range' 0 2, 0, [])], σ) := by kernel_rfl
theorem z_8b : evNew (R TW (N + 5)) aT.2 (z3 d f 3 ties [] []) (sVal (aS 2)) σ = some (setsD [(List.range' 0 3, 0, [])], σ) := by kernel_rfl
theorem z_8c : evNew (R TW (N + 5)) aT.2 (z3 d f 4 ties [] []) (sVal (aS 2)) σ = some (setsD [(List.range' 0 4, 0, [])], σ) := by kernel_rfl
theorem z_8d : evNew (R TW (N + 5)) aT.2 (z3 d f 5 ties [] []) (sVal (aS 2)) σ = some (setsD [(List.range' 0 5, 0, [])], σ) := by kernel_rfl
theorem z_9 : stN aT.2 (z3 d f n ties [] []) (S "sets") (.ref k) = some (z3 d f n ties [] [(S "sets", .ref k)]) := by kernel_rfl
theorem z_10 : (R TW (N + 3)).ex aT.2 (aS 3) (z3 d f n ties [] cx) σ = some (.nxt, z3 d f n ties [(S "stopped", .d (.bool false))] cx, σ) := by kernel_rfl
theorem z_11 : (R TW (N + 3)).ex aT.2 (aS 4) (z3 d f n ties [(S "stopped", .d (.bool false))] [(S "sets", .ref k)]) σ = some (.nxt, aφ d f n ties false 0 k [] [], σ) := by kernel_rfl
end
theorem z_8 (N n : Nat) (h : 2 ≤ n ∧ n ≤ 5) (d f : PyData) (ties : List PyData) (σ : Store) : evNew (R TW (N + 5)) aT.2 (z3 d f (Int.ofNat n) ties [] []) (sVal (aS 2)) σ = some (setsD [(List.range' 0 n, 0, [])], σ) := by
  obtain ⟨h1, h2⟩ := h
  match n, h1, h2 with
  | 2, _, _ => exact z_8a N d f ties σ
  | 3, _, _ => exact z_8b N d f ties σ
  | 4, _, _ => exact z_8c N d f ties σ
  | 5, _, _ => exact z_8d N d f ties σ
theorem way_D (n : Nat) (hn : n ≤ 5) (ties : List PyData) (σ : Store) : dataO wayR [.d (.int (Int.ofNat n)), .d (.list ties)] σ = some (.d (.bool (wayF n ties)), σ) := by
  unfold dataO
  rw [way_run n hn ties]; rfl
theorem great_D (n : Nat) (hn : n ≤ 5) (ties : List PyData) (j : Bool) (σ : Store) : dataO greatR [.d (.int (Int.ofNat n)), .d (.list ties), .d (.bool j)] σ = some (.d (.int (Int.ofNat (grF n ties j))), σ) := by
  unfold dataO
  rw [great_run n hn ties j]; rfl
theorem pCmp_pairT (p q : Nat × Nat) : pCmp .Eq (pairT p) (pairT q) = some (decide (p.1 = q.1) && decide (p.2 = q.2)) := by
  have hs : shallow (pairT p) (pairT q) = true := by rfl
  show (if shallow (pairT p) (pairT q) then some (PyData.eqv (pairT p) (pairT q)) else none) = _
  rw [hs]
  have : PyData.eqv (pairT p) (pairT q) = PyData.eqvAll (natD [p.1, p.2]) (natD [q.1, q.2]) := rfl
  rw [this, eqvAll_natD]
  simp
theorem num_D (script : List Int) (hl : script.length < 1000) : ∃ a b c, ∀ σ, dataO numR [.d (.list (zD script)), .d (.int 3)] σ = some (.d (.list (fD a b c)), σ) := by
  obtain ⟨a, b, c, h⟩ := num_run script hl
  refine ⟨a, b, c, fun σ => ?_⟩
  unfold dataO
  rw [h]; rfl

/-- law gives True, if its plain reading does -/
theorem law_exs (script : List Int) (hl : script.length < 1000) (hlaw : ∀ a b c, lawF (nOf a) (pairsD (tiesOf (nOf a) (bitF b c))) = true) :
    ∃ φ' σ', exs (R TW 80) aT.2 aT.1 (z0 (.list (zD script)) [] []) [] = some (.ret (.d (.bool true)), φ', σ') := by
  obtain ⟨a, b, c, hnum⟩ := num_D script hl
  have hF := hlaw a b c
  obtain ⟨m1, m2, m3⟩ := nOf_ok a
  generalize hn : nOf a = n at *
  generalize hties : pairsD (tiesOf n (bitF b c)) = ties at *
  generalize hd : PyData.list (zD script) = d at *
  generalize hf : PyData.list (fD a b c) = f at *
  obtain ⟨x1, x2, x3, x4, x5, x6, x7, x8, x9⟩ := z_1
  have S0 : (R TW 80).ex aT.2 (aS 0) (z0 d [] []) [] = some (.nxt, z0 d [(S "found", .d f)] [], []) :=
    ex_as x1 x2 x3 (ev_callN x4 (z_2 76 d [] [] []) (by rw [z_3]; exact hnum [])) (z_4 d f)
  have S1 : (R TW 80).ex aT.2 (aS 1) (z0 d [(S "found", .d f)] []) [] = some (.nxt, z3 d f (Int.ofNat n) ties [] [], []) := by
    refine ex_tup x5 (ds := [.int (Int.ofNat n), .list ties]) (ev_callN x6 (z_5 77 d f [] []) ?_) (by simp) (z_7 d f _ ties)
    rw [z_6, ← hf]
    show OTies [.d (.list [.int a, .int b, .int c])] [] = _
    unfold OTies
    dsimp only
    rw [hn, hties]
  have S2 : (R TW 80).ex aT.2 (aS 2) (z3 d f (Int.ofNat n) ties [] []) [] = some (.nxt, z3 d f (Int.ofNat n) ties [] [(S "sets", .ref 0)], [.list (setsD [(List.range' 0 n, 0, [])])]) :=
    ex_as_new x7 x8 x9 (z_8 74 n ⟨m1, m2⟩ d f ties []) (z_9 d f _ ties 0)
  have S3 := z_10 77 d f (Int.ofNat n) ties [.list (setsD [(List.range' 0 n, 0, [])])] [(S "sets", .ref 0)]
  have S4 := z_11 77 d f (Int.ofNat n) ties [.list (setsD [(List.range' 0 n, 0, [])])] 0
  unfold lawF at hF
  split at hF
  · cases hF
  rename_i sets st hloop
  rw [Bool.and_eq_true] at hF
  obtain ⟨hway, hF⟩ := hF
  have hway : st = wayF n ties := by simpa using hway
  obtain ⟨at', ks', ext', σ', hw, hsh, hks⟩ := a_while 54 d f (Int.ofNat n) ties 12 [(List.range' 0 n, 0, [])] 0 false 0 [] [.list (setsD [(List.range' 0 n, 0, [])])] (.inl rfl) (by simp) rfl hloop
  have S5 : (R TW 80).ex aT.2 (aS 5) (aφ d f (Int.ofNat n) ties false 0 0 [] []) [.list (setsD [(List.range' 0 n, 0, [])])] = some (.nxt, aφ d f (Int.ofNat n) ties st at' ks' ext' [], σ') := ex_while a_2.1 hw
  obtain ⟨y1, y2, y3, y4, y5, y6, y7, y8, y9⟩ := m_21
  have S6 : (R TW 80).ex aT.2 (aS 6) (aφ d f (Int.ofNat n) ties st at' ks' ext' []) σ' = some (.nxt, aφ d f (Int.ofNat n) ties st at' ks' ext' [], σ') := by
    have ht := tr_cmp (T := TW) (N := 78) y2 (m_22 77 d f (Int.ofNat n) ties st at' ks' ext' [] σ') (ev_callN y3 (m_23 76 d f (Int.ofNat n) ties st at' ks' ext' [] σ') (by rw [m_24]; exact way_D n m2 ties σ')) (by exact pCmp_ne_bool st (wayF n ties))
    rw [hway] at ht
    rw [show (wayF n ties != wayF n ties) = false by simp] at ht
    rw [hway]
    exact ex_ifF y1 ht (by rw [y4]; exact exs_nil)
  have pre : ∀ {rest : List Stmt} {fl : Fl} {φe : Frm} {σe : Store}, exs (R TW 80) aT.2 rest (aφ d f (Int.ofNat n) ties st at' ks' ext' []) σ' = some (fl, φe, σe) → exs (R TW 80) aT.2 (aS 0 :: aS 1 :: aS 2 :: aS 3 :: aS 4 :: aS 5 :: aS 6 :: rest) (z0 d [] []) [] = some (fl, φe, σe) := fun h =>
    exs_cons S0 (exs_cons S1 (exs_cons S2 (exs_cons S3 (exs_cons S4 (exs_cons S5 (exs_cons S6 h))))))
  have ht7 := m_25 77 d f (Int.ofNat n) ties st at' ks' ext' [] σ'
  rw [a_1.1]
  cases hst : st with
  | true =>
    rw [hst] at ht7 pre
    exact ⟨_, σ', pre (exs_ret (ex_ifT y5 ht7 (m_26 77 d f (Int.ofNat n) ties true at' ks' ext' [] σ')))⟩
  | false =>
    rw [hst] at ht7 pre hF
    rw [Bool.false_or, Bool.and_eq_true, decide_eq_true_eq] at hF
    obtain ⟨hsl, hF⟩ := hF
    split at hF
    · cases hF
    rename_i acc hmost
    split at hF
    · cases hF
    rename_i p hp
    rw [Bool.and_eq_true, decide_eq_true_eq, decide_eq_true_eq] at hF
    have S7 : (R TW 80).ex aT.2 (aS 7) (aφ d f (Int.ofNat n) ties false at' ks' ext' []) σ' = some (.nxt, aφ d f (Int.ofNat n) ties false at' ks' ext' [], σ') := ex_ifF y5 ht7 (by rw [y6]; exact exs_nil)
    have S8 : (R TW 80).ex aT.2 (aS 8) (aφ d f (Int.ofNat n) ties false at' ks' ext' []) σ' = some (.nxt, aφ d f (Int.ofNat n) ties false at' ks' ext' (mC σ'.length), σ' ++ [.dict []]) :=
      ex_as y7 y8 y9 (m_27 77 d f (Int.ofNat n) ties false at' ks' ext' [] σ') (m_28 d f (Int.ofNat n) ties false at' ks' _ ext')
    have lks : ks' < σ'.length := (List.getElem?_eq_some_iff.mp hks).1
    have hks2 : (σ' ++ [PO.dict []])[ks']? = some (.list (setsD sets)) := by rw [List.getElem?_append_left lks]; exact hks
    have hkm : (σ' ++ [PO.dict []])[σ'.length]? = some (.dict (accD [])) := by rw [List.getElem?_append_right (Nat.le_refl _)]; simp [accD]
    have hshm : shM ext' := by
      rcases hsh with rfl | ⟨q, e2, rfl, rfl | ⟨a, b, rfl⟩⟩
      · exact .inl rfl
      · exact .inr (.inl ⟨q, none, rfl⟩)
      · exact .inr (.inl ⟨q, some (a, b), rfl⟩)
    obtain ⟨at2, ext2, σ2, hr, hacc⟩ := m_for 68 d f (Int.ofNat n) ties false ks' σ'.length (sets := sets) (by omega) (by omega) sets.length [] at' ext' (σ' ++ [.dict []]) hshm hks2 hkm (fun _ h => nomatch h) (by simp; omega) hmost
    obtain ⟨w1, w2, w3, w4, w5, w6, w7⟩ := m_29
    have hrng : (R TW 79).ev aT.2 (aφ d f (Int.ofNat n) ties false at' ks' ext' (mC σ'.length)) mR (σ' ++ [.dict []]) = some (.rng ((sets.length : Int) - 1) (-1) (-1), σ' ++ [.dict []]) := by
      refine ev_callN w1 (vs := [.d (.int ((sets.length : Int) - 1)), .d (.int (-1)), .d (.int (-1))]) (σ1 := σ' ++ [.dict []]) ?_ (m_33 _ _)
      rw [w2]
      refine evs_cons w3 (ev_bin w6 (ev_callN w7 (m_30 75 d f (Int.ofNat n) ties false at' ks' ext' _ _) (by rw [a_8, len_ref hks2 (by rw [setsD_len]; omega), setsD_len]; rfl)) (m_31 76 d f (Int.ofNat n) ties false at' ks' ext' _ _) rfl) ?_
      exact evs_cons w4 (m_32 76 d f (Int.ofNat n) ties false at' ks' ext' _ _).1 (evs_cons w5 (m_32 76 d f (Int.ofNat n) ties false at' ks' ext' _ _).2 evs_nil)
    have S9 : (R TW 80).ex aT.2 (aS 9) (aφ d f (Int.ofNat n) ties false at' ks' ext' (mC σ'.length)) (σ' ++ [.dict []]) = some (.nxt, aφ d f (Int.ofNat n) ties false at2 ks' ext2 (mC σ'.length), σ2) := by
      refine ex_for m_1.2.1 hrng (items := natD (downN sets.length)) ?_ hr
      show (pIter _).map _ = _
      rw [pIter_down (by omega)]; rfl
    obtain ⟨v1, v2, v3, v4, v5, v6, v7, v8, v9⟩ := m_34
    have hq1 : (R TW 78).ev aT.2 (aφ d f (Int.ofNat n) ties false at2 ks' ext2 (mC σ'.length)) (eArg mQ 0) σ2 = some (.d (pairT p), σ2) :=
      ev_sub v3 (m_35 76 d f (Int.ofNat n) ties false at2 ks' _ ext2 σ2) (m_36 76 d f (Int.ofNat n) ties false at2 ks' ext2 _ σ2) (sItem_dict hacc (by
        have := accD_lookup acc 0
        rw [hp] at this
        exact this))
    have hq2 : (R TW 78).ev aT.2 (aφ d f (Int.ofNat n) ties false at2 ks' ext2 (mC σ'.length)) (eArg mQ 1) σ2 = some (.d (pairT (grF n ties true, grF n ties false)), σ2) := by
      refine ev_tuple v4 (vs := [.d (.int (Int.ofNat (grF n ties true))), .d (.int (Int.ofNat (grF n ties false)))]) ?_ rfl
      rw [v5]
      exact evs_cons v6 (ev_callN v8 (m_37 75 d f (Int.ofNat n) ties false at2 ks' ext2 _ σ2).1 (by rw [m_38]; exact great_D n m2 ties true σ2)) (evs_cons v7 (ev_callN v9 (m_37 75 d f (Int.ofNat n) ties false at2 ks' ext2 _ σ2).2 (by rw [m_38]; exact great_D n m2 ties false σ2)) evs_nil)
    have hq : (R TW 79).ev aT.2 (aφ d f (Int.ofNat n) ties false at2 ks' ext2 (mC σ'.length)) mQ σ2 = some (.d (.bool true), σ2) := by
      refine ev_cmp v2 hq1 hq2 ?_
      have := pCmp_pairT p (grF n ties true, grF n ties false)
      rw [hF.1, hF.2] at this
      exact this.trans (by simp)
    exact ⟨_, σ2, pre (exs_cons S7 (exs_cons S8 (exs_cons S9 (exs_ret (ex_ret v1 hq)))))⟩
end Mine
end
section
open PySem PySem.W PyProof.Rows
set_option maxRecDepth 100000
set_option linter.all false
namespace Mine
/-! the plain law, over a function that tells who is joined -/
def w0G (n : Nat) (J : Nat → Nat → Bool) : List (List Nat) := (List.range' 0 n).flatMap fun u => ((List.range' 0 n).filter fun v => !decide (Int.ofNat u = Int.ofNat v) && J u v).map fun v => [u, v]
def wOkG (J : Nat → Nat → Bool) (way : List Nat) (w : Nat) : Bool := !way.contains w && (J (way.getLastD 0) w && !way.dropLast.any fun x => J x w)
def wNextG (n : Nat) (J : Nat → Nat → Bool) (ways : List (List Nat)) : List (List Nat) := ways.flatMap fun way => ((List.range' 0 n).filter fun w => wOkG J way w).map fun w => way ++ [w]
def wayG (n : Nat) (J : Nat → Nat → Bool) : Bool := !(wNextG n J (wNextG n J (w0G n J))).isEmpty
theorem wayG_eq (n : Nat) (ties : List PyData) : wayF n ties = wayG n (Jof ties) := rfl
def okG (J : Nat → Nat → Bool) (j : Bool) (xs : List Nat) (v : Nat) : Bool := !xs.any fun u => J u v != j
theorem okG_eq (ties : List PyData) (j : Bool) (xs : List Nat) (v : Nat) : okP ties j xs (Int.ofNat v) = okG (Jof ties) j xs v := by
  unfold okP okG natD
  rw [List.any_map]; rfl
def succG (n : Nat) (J : Nat → Nat → Bool) (j : Bool) (xs : List Nat) : List (List Nat) := ((List.range' (startN xs) (n - startN xs)).filter fun v => okG J j xs v).map fun v => xs ++ [v]
theorem succG_eq (n : Nat) (ties : List PyData) (j : Bool) (xs : List Nat) : succs n ties j xs = succG n (Jof ties) j xs := by
  unfold succs succG
  congr 1
  apply List.filter_congr
  intro v _
  exact okG_eq ties j xs v
def grLG (n : Nat) (J : Nat → Nat → Bool) (j : Bool) : Nat → List (List Nat) → Nat → Nat
  | 0, _, best => best
  | f + 1, rows, best => match rows with
    | [] => best
    | r :: rs => grLG n J j f ((r :: rs).flatMap (succG n J j)) r.length
theorem grLG_eq (n : Nat) (ties : List PyData) (j : Bool) : ∀ (f : Nat) (rows : List (List Nat)) (best : Nat), grLoop n ties j f rows best = grLG n (Jof ties) j f rows best
  | 0, _, _ => rfl
  | f + 1, [], best => rfl
  | f + 1, r :: rs, best => by
    show grLoop n ties j f (nextRows n ties j (r :: rs)) r.length = grLG n (Jof ties) j f _ r.length
    have : nextRows n ties j (r :: rs) = (r :: rs).flatMap (succG n (Jof ties) j) := by
      unfold nextRows
      congr 1
      funext xs
      exact succG_eq n ties j xs
    rw [this]
    exact grLG_eq n ties j f _ _
def lawG (n : Nat) (J : Nat → Nat → Bool) : Bool := match lawLoop J 12 [(List.range' 0 n, 0, [])] 0 false with
  | none => false
  | some (sets, st) => (st == wayG n J) && (st || (decide (sets.length < 50) && match mostLoop sets sets.length [] with
    | none => false
    | some acc => match acc.lookup 0 with
      | none => false
      | some p => decide (p.1 = grLG n J true 7 [[]] 0) && decide (p.2 = grLG n J false 7 [[]] 0)))
theorem lawG_eq (n : Nat) (ties : List PyData) : lawF n ties = lawG n (Jof ties) := by
  unfold lawF lawG
  have h1 : grF n ties true = grLG n (Jof ties) true 7 [[]] 0 := grLG_eq n ties true 7 [[]] 0
  have h2 : grF n ties false = grLG n (Jof ties) false 7 [[]] 0 := grLG_eq n ties false 7 [[]] 0
  rw [wayG_eq, h1, h2]
  all_goals rfl
/-! who is joined, as bits of one number -/
def ix (u v : Nat) : Nat := Nat.add (Nat.mul (Nat.add u v) (Nat.add u v)) u
def Jm (M : Nat) (u v : Nat) : Bool := Nat.beq (Nat.land 1 (Nat.shiftRight M (ix u v))) 1
def mask : List (Nat × Nat) → Nat
  | [] => 0
  | p :: r => Nat.lor (Nat.lor (Nat.shiftLeft 1 (ix p.1 p.2)) (Nat.shiftLeft 1 (ix p.2 p.1))) (mask r)
def bitsF (bs : List Bool) (k : Nat) : Bool := bs.getD k false
def lawM (n : Nat) (bs : List Bool) : Bool := lawG n (Jm (mask (tiesOf n (bitsF bs))))
end Mine
end
section
open PySem PySem.W PyProof.Rows
set_option maxRecDepth 100000
set_option linter.all false
namespace Mine
theorem law_in (P : Params) : nsIn (KP P) mainGlobals (S "law") = some (some (.ref 679)) := by kernel_rfl
theorem mg_of_nsIn {K : Frag} {h : Heap} (x : K.In h) {ns : Addr} {name : Str} {v : PySem.Value} {m : Str → Option PySem.Value} (e : nsIn K ns name = some (some v)) (hm : h.Ns ns m) : m name = some v := by
  obtain ⟨o, es, ep, ho, hd, _, hf⟩ := hm
  unfold nsIn at e
  split at e
  · rename_i c d es' n sl hl
    have h2 := x _ _ hl
    rw [ho] at h2
    cases h2
    cases hd
    rw [← hf]
    unfold nsFind findBy
    rw [← Array.find?_toList]
    split at e
    · rename_i en he; cases e; rw [he]; rfl
    · split at e <;> cases e
  · cases e
def Z0 (h : Heap) : ZP := fun b o => h.get? b = some o
theorem base0 {prog : Program} {w : World} (s : Shared) : Base prog w s.heap (Z0 s.heap) [] [] s :=
  ⟨fun _ _ e => e, fun _ _ e => e, rfl, fun _ _ _ h => (nomatch h), fun _ _ _ h => (nomatch h), List.nodup_nil⟩
theorem vds_ints {h : Heap} {Z : ZP} : ∀ {vs : List PySem.Value} {xs : List Int} {as : List Addr}, ReadsAll h vs (xs.map .int) as → VDs Z vs (zD xs)
  | _, [], _, .nil => .nil
  | _, _ :: _, _, .cons (.int _ _) r => .cons (.int _ _) (vds_ints r)
theorem vd_script {h : Heap} {l : Addr} {its : Array PySem.Value} {xs : List Int} {as : List Addr} (hl : h.IsList l its) (r : ReadsAll h its.toList (xs.map .int) as) : VD (Z0 h) (.ref l) (.list (zD xs)) := by
  obtain ⟨o, ho, hc, n, hd⟩ := hl
  exact .list ho hc hd (vds_ints r)
theorem aok0 : AOk 7 callerA := ⟨rfl, by decide, by decide⟩

theorem fr_law (pv : PV) : frmOf aT.2 ([S "script"].zip [pv]) = ⟨[(S "script", pv)], [], []⟩ := by kernel_rfl
theorem fs_lawT (P : Params) : (fdA P 679).scope = aT.2 := fs_law P
theorem aT1 : (txtOf "law").1 = aT.1 := rfl
section
variable {prog : Program} {w : World} {s : Shared} {R : Result → Shared → Prop}
theorem law_code (H : HdOk w s.heap) {v : PySem.Value} {script : List Int} (hv : VD (Z0 s.heap) v (.list (zD script))) (hl : script.length < 1000) (hlaw : ∀ a b c, lawF (nOf a) (pairsD (tiesOf (nOf a) (bitF b c))) = true)
    (k : ∀ s', (∀ b o, s.heap.get? b = some o → s'.heap.get? b = some o) → Sh s s' → R (.ok (.ret (.bool true))) s') : codeAny (model prog w) callerA (.call (.ref 679) ⟨[v], []⟩) R s := by
  obtain ⟨φ', σ', he⟩ := law_exs script hl hlaw
  have S1 := sound (tokW (prog := prog) H 0) 80
  have hvv : All2 (VR (Z0 s.heap) []) [PV.d (.list (zD script))] [v] := .cons hv .nil
  have B0 : Base prog w s.heap (Z0 s.heap) [] [] s := base0 s
  have e0 : bindArgs (fdA w.params 679) ⟨[v], []⟩ = pure ([S "script"].zip [v]) := bd_law w.params v
  have hb : BindS prog w s.heap callerA (Z0 s.heap) [] s (fdA w.params 679) [v] [S "script"] [PV.d (.list (zD script))] [] := by
    generalize fdA w.params 679 = fd at e0
    exact bind_plain B0 hvv rfl e0
  have F := ok_law H
  have hA : AOk (6 + 1) callerA := aok0
  have nn : [S "script"].Nodup := by decide +kernel
  have kd := kd_law w.params
  have e1 := fs_lawT w.params
  generalize fdA w.params 679 = fd at F kd hb e1
  refine code_fnB (pv := .d (.bool true)) (σ' := σ') F hA nn B0 hb kd ?_ ?_
  · intro env s₁ Z₁ ρ₁ hs B L
    have he' : exs (Mine.R TW 80) fd.scope (txtOf "law").1 (frmOf fd.scope ([S "script"].zip [PV.d (.list (zD script))])) [] = some (.ret (.d (.bool true)), φ', σ') := by
      rw [e1, fr_law, aT1]; exact he
    exact body_of (snd_exs S1 (aok0.deeper env) hs he' B L) rfl
  · intro v' s' Z' ρ' g B' r'
    have hb : v' = .bool true := by
      have r2 : VD Z' v' (.bool true) := r'
      cases r2; rfl
    subst hb
    exact k s' (fun b o e => g.old b o (fun h => nomatch h) (fun h => nomatch h) e) g.sh
end
end Mine
end
section
open PySem PySem.W PyProof.Rows
set_option maxRecDepth 100000
set_option linter.all false
namespace Mine
/-! joined, as one bit -/
theorem memT_pairs (ps : List (Nat × Nat)) (u v : Nat) : memT (pairsD ps) (Int.ofNat u) (Int.ofNat v) = ps.any fun p => decide (p.1 = u ∧ p.2 = v) := by
  unfold memT pairsD
  rw [List.any_map]
  congr 1
  funext p
  show PyData.eqvAll (natD [p.1, p.2]) (natD [u, v]) = _
  rw [eqvAll_natD]
  simp
theorem ix_eq (u v : Nat) : ix u v = (u + v) * (u + v) + u := rfl
theorem sq_step {s t : Nat} (h : s < t) : s * s + 2 * s + 1 ≤ t * t := by
  have := Nat.mul_le_mul (show s + 1 ≤ t from h) (show s + 1 ≤ t from h)
  have e : (s + 1) * (s + 1) = s * s + 2 * s + 1 := by rw [Nat.mul_add, Nat.add_mul]; omega
  omega
theorem ix_inj {u v x y : Nat} (h : ix u v = ix x y) : u = x ∧ v = y := by
  rw [ix_eq, ix_eq] at h
  have hs : u + v = x + y := by
    rcases Nat.lt_trichotomy (u + v) (x + y) with q | q | q
    · have := sq_step q; omega
    · exact q
    · have := sq_step q; omega
  rw [hs] at h
  omega
theorem Jm_bit (M u v : Nat) : Jm M u v = M.testBit (ix u v) := by
  show Nat.beq (1 &&& (M >>> ix u v)) 1 = (1 &&& (M >>> ix u v) != 0)
  rw [Nat.one_and_eq_mod_two]
  rcases Nat.mod_two_eq_zero_or_one (M >>> ix u v) with h | h <;> rw [h] <;> rfl
theorem mask_bit : ∀ (ps : List (Nat × Nat)) (u v : Nat), (mask ps).testBit (ix u v) = ps.any fun p => decide (p.1 = u ∧ p.2 = v) || decide (p.1 = v ∧ p.2 = u)
  | [], u, v => by show (0 : Nat).testBit _ = _; simp
  | p :: r, u, v => by
    show ((((1 : Nat) <<< ix p.1 p.2) ||| ((1 : Nat) <<< ix p.2 p.1)) ||| mask r).testBit (ix u v) = _
    rw [Nat.testBit_or, Nat.testBit_or, mask_bit r, Nat.one_shiftLeft, Nat.one_shiftLeft, Nat.testBit_two_pow, Nat.testBit_two_pow, List.any_cons]
    congr 1
    congr 1
    · exact decide_eq_decide.mpr ⟨fun h => ix_inj h, fun h => by rw [h.1, h.2]⟩
    · exact decide_eq_decide.mpr ⟨fun h => ⟨(ix_inj h).2, (ix_inj h).1⟩, fun h => by rw [h.1, h.2]⟩
theorem Jof_mask (ps : List (Nat × Nat)) : Jof (pairsD ps) = Jm (mask ps) := by
  funext u v
  rw [Jm_bit, mask_bit]
  unfold Jof jn
  rw [memT_pairs, memT_pairs]
  induction ps with
  | nil => rfl
  | cons p r ih =>
    rw [List.any_cons, List.any_cons, List.any_cons, ← ih]
    simp only [Bool.or_assoc, Bool.or_left_comm]
/-! which bits count -/
theorem tIn_congr {bit bit' : Nat → Bool} {K : Nat} (hb : ∀ j, j < K → bit j = bit' j) (u : Nat) : ∀ (vs : List Nat) (k : Nat) (acc : List (Nat × Nat)), k + vs.length ≤ K → tIn bit u vs k acc = tIn bit' u vs k acc
  | [], _, _, _ => rfl
  | v :: vs, k, acc, h => by
    rw [List.length_cons] at h
    unfold tIn
    rw [hb k (by omega)]
    exact tIn_congr hb u vs (k + 1) _ (by omega)
theorem tOut_congr {bit bit' : Nat → Bool} {K : Nat} (hb : ∀ j, j < K → bit j = bit' j) : ∀ (us : List Nat) (k : Nat) (acc : List (Nat × Nat)), k + us.sum ≤ K → tOut bit us k acc = tOut bit' us k acc
  | [], _, _, _ => rfl
  | u :: us, k, acc, h => by
    rw [List.sum_cons] at h
    unfold tOut
    rw [tIn_congr hb u (List.range' 0 u) k acc (by rw [List.length_range']; omega)]
    exact tOut_congr hb us (k + u) _ (by omega)
theorem law_bits (n : Nat) (bit : Nat → Bool) (bs : List Bool) (hb : ∀ j, j < (List.range' 0 n).sum → bit j = bitsF bs j) (h : lawM n bs = true) : lawF n (pairsD (tiesOf n bit)) = true := by
  rw [lawG_eq, Jof_mask]
  have : tiesOf n bit = tiesOf n (bitsF bs) := tOut_congr hb _ _ _ (by omega)
  rw [this]
  exact h

theorem graph_0 : ∀ a b c d : Bool, lawM 5 [false, false, false, false, false, false, a, b, c, d] = true := by decide +kernel
theorem graph_1 : ∀ a b c d : Bool, lawM 5 [true, false, false, false, false, false, a, b, c, d] = true := by decide +kernel
theorem graph_2 : ∀ a b c d : Bool, lawM 5 [false, true, false, false, false, false, a, b, c, d] = true := by decide +kernel
theorem graph_3 : ∀ a b c d : Bool, lawM 5 [true, true, false, false, false, false, a, b, c, d] = true := by decide +kernel
theorem graph_4 : ∀ a b c d : Bool, lawM 5 [false, false, true, false, false, false, a, b, c, d] = true := by decide +kernel
theorem graph_5 : ∀ a b c d : Bool, lawM 5 [true, false, true, false, false, false, a, b, c, d] = true := by decide +kernel
theorem graph_6 : ∀ a b c d : Bool, lawM 5 [false, true, true, false, false, false, a, b, c, d] = true := by decide +kernel
theorem graph_7 : ∀ a b c d : Bool, lawM 5 [true, true, true, false, false, false, a, b, c, d] = true := by decide +kernel
theorem graph_8 : ∀ a b c d : Bool, lawM 5 [false, false, false, true, false, false, a, b, c, d] = true := by decide +kernel
theorem graph_9 : ∀ a b c d : Bool, lawM 5 [true, false, false, true, false, false, a, b, c, d] = true := by decide +kernel
theorem graph_10 : ∀ a b c d : Bool, lawM 5 [false, true, false, true, false, false, a, b, c, d] = true := by decide +kernel
theorem graph_11 : ∀ a b c d : Bool, lawM 5 [true, true, false, true, false, false, a, b, c, d] = true := by decide +kernel
theorem graph_12 : ∀ a b c d : Bool, lawM 5 [false, false, true, true, false, false, a, b, c, d] = true := by decide +kernel
theorem graph_13 : ∀ a b c d : Bool, lawM 5 [true, false, true, true, false, false, a, b, c, d] = true := by decide +kernel
theorem graph_14 : ∀ a b c d : Bool, lawM 5 [false, true, true, true, false, false, a, b, c, d] = true := by decide +kernel
theorem graph_15 : ∀ a b c d : Bool, lawM 5 [true, true, true, true, false, false, a, b, c, d] = true := by decide +kernel
theorem graph_16 : ∀ a b c d : Bool, lawM 5 [false, false, false, false, true, false, a, b, c, d] = true := by decide +kernel
theorem graph_17 : ∀ a b c d : Bool, lawM 5 [true, false, false, false, true, false, a, b, c, d] = true := by decide +kernel
theorem graph_18 : ∀ a b c d : Bool, lawM 5 [false, true, false, false, true, false, a, b, c, d] = true := by decide +kernel
theorem graph_19 : ∀ a b c d : Bool, lawM 5 [true, true, false, false, true, false, a, b, c, d] = true := by decide +kernel
theorem graph_20 : ∀ a b c d : Bool, lawM 5 [false, false, true, false, true, false, a, b, c, d] = true := by decide +kernel
theorem graph_21 : ∀ a b c d : Bool, lawM 5 [true, false, true, false, true, false, a, b, c, d] = true := by decide +kernel
theorem graph_22 : ∀ a b c d : Bool, lawM 5 [false, true, true, false, true, false, a, b, c, d] = true := by decide +kernel
theorem graph_23 : ∀ a b c d : Bool, lawM 5 [true, true, true, false, true, false, a, b, c, d] = true := by decide +kernel
theorem graph_24 : ∀ a b c d : Bool, lawM 5 [false, false, false, true, true, false, a, b, c, d] = true := by decide +kernel
theorem graph_25 : ∀ a b c d : Bool, lawM 5 [true, false, false, true, true, false, a, b, c, d] = true := by decide +kernel
theorem graph_26 : ∀ a b c d : Bool, lawM 5 [false, true, false, true, true, false, a, b, c, d] = true := by decide +kernel
theorem graph_27 : ∀ a b c d : Bool, lawM 5 [true, true, false, true, true, false, a, b, c, d] = true := by decide +kernel
theorem graph_28 : ∀ a b c d : Bool, lawM 5 [false, false, true, true, true, false, a, b, c, d] = true := by decide +kernel
theorem graph_29 : ∀ a b c d : Bool, lawM 5 [true, false, true, true, true, false, a, b, c, d] = true := by decide +kernel
theorem graph_30 : ∀ a b c d : Bool, lawM 5 [false, true, true, true, true, false, a, b, c, d] = true := by decide +kernel
theorem graph_31 : ∀ a b c d : Bool, lawM 5 [true, true, true, true, true, false, a, b, c, d] = true := by decide +kernel
theorem graph_32 : ∀ a b c d : Bool, lawM 5 [false, false, false, false, false, true, a, b, c, d] = true := by decide +kernel
theorem graph_33 : ∀ a b c d : Bool, lawM 5 [true, false, false, false, false, true, a, b, c, d] = true := by decide +kernel
theorem graph_34 : ∀ a b c d : Bool, lawM 5 [false, true, false, false, false, true, a, b, c, d] = true := by decide +kernel
theorem graph_35 : ∀ a b c d : Bool, lawM 5 [true, true, false, false, false, true, a, b, c, d] = true := by decide +kernel
theorem graph_36 : ∀ a b c d : Bool, lawM 5 [false, false, true, false, false, true, a, b, c, d] = true := by decide +kernel
theorem graph_37 : ∀ a b c d : Bool, lawM 5 [true, false, true, false, false, true, a, b, c, d] = true := by decide +kernel
theorem graph_38 : ∀ a b c d : Bool, lawM 5 [false, true, true, false, false, true, a, b, c, d] = true := by decide +kernel
theorem graph_39 : ∀ a b c d : Bool, lawM 5 [true, true, true, false, false, true, a, b, c, d] = true := by decide +kernel
theorem graph_40 : ∀ a b c d : Bool, lawM 5 [false, false, false, true, false, true, a, b, c, d] = true := by decide +kernel
theorem graph_41 : ∀ a b c d : Bool, lawM 5 [true, false, false, true, false, true, a, b, c, d] = true := by decide +kernel
theorem graph_42 : ∀ a b c d : Bool, lawM 5 [false, true, false, true, false, true, a, b, c, d] = true := by decide +kernel
theorem graph_43 : ∀ a b c d : Bool, lawM 5 [true, true, false, true, false, true, a, b, c, d] = true := by decide +kernel
theorem graph_44 : ∀ a b c d : Bool, lawM 5 [false, false, true, true, false, true, a, b, c, d] = true := by decide +kernel
theorem graph_45 : ∀ a b c d : Bool, lawM 5 [true, false, true, true, false, true, a, b, c, d] = true := by decide +kernel
theorem graph_46 : ∀ a b c d : Bool, lawM 5 [false, true, true, true, false, true, a, b, c, d] = true := by decide +kernel
theorem graph_47 : ∀ a b c d : Bool, lawM 5 [true, true, true, true, false, true, a, b, c, d] = true := by decide +kernel
theorem graph_48 : ∀ a b c d : Bool, lawM 5 [false, false, false, false, true, true, a, b, c, d] = true := by decide +kernel
theorem graph_49 : ∀ a b c d : Bool, lawM 5 [true, false, false, false, true, true, a, b, c, d] = true := by decide +kernel
theorem graph_50 : ∀ a b c d : Bool, lawM 5 [false, true, false, false, true, true, a, b, c, d] = true := by decide +kernel
theorem graph_51 : ∀ a b c d : Bool, lawM 5 [true, true, false, false, true, true, a, b, c, d] = true := by decide +kernel
theorem graph_52 : ∀ a b c d : Bool, lawM 5 [false, false, true, false, true, true, a, b, c, d] = true := by decide +kernel
theorem graph_53 : ∀ a b c d : Bool, lawM 5 [true, false, true, false, true, true, a, b, c, d] = true := by decide +kernel
theorem graph_54 : ∀ a b c d : Bool, lawM 5 [false, true, true, false, true, true, a, b, c, d] = true := by decide +kernel
theorem graph_55 : ∀ a b c d : Bool, lawM 5 [true, true, true, false, true, true, a, b, c, d] = true := by decide +kernel
theorem graph_56 : ∀ a b c d : Bool, lawM 5 [false, false, false, true, true, true, a, b, c, d] = true := by decide +kernel
theorem graph_57 : ∀ a b c d : Bool, lawM 5 [true, false, false, true, true, true, a, b, c, d] = true := by decide +kernel
theorem graph_58 : ∀ a b c d : Bool, lawM 5 [false, true, false, true, true, true, a, b, c, d] = true := by decide +kernel
theorem graph_59 : ∀ a b c d : Bool, lawM 5 [true, true, false, true, true, true, a, b, c, d] = true := by decide +kernel
theorem graph_60 : ∀ a b c d : Bool, lawM 5 [false, false, true, true, true, true, a, b, c, d] = true := by decide +kernel
theorem graph_61 : ∀ a b c d : Bool, lawM 5 [true, false, true, true, true, true, a, b, c, d] = true := by decide +kernel
theorem graph_62 : ∀ a b c d : Bool, lawM 5 [false, true, true, true, true, true, a, b, c, d] = true := by decide +kernel
theorem graph_63 : ∀ a b c d : Bool, lawM 5 [true, true, true, true, true, true, a, b, c, d] = true := by decide +kernel
theorem graphs_5 : ∀ p q r s t u a b c d : Bool, lawM 5 [p, q, r, s, t, u, a, b, c, d] = true
  | false, false, false, false, false, false => graph_0
  | true, false, false, false, false, false => graph_1
  | false, true, false, false, false, false => graph_2
  | true, true, false, false, false, false => graph_3
  | false, false, true, false, false, false => graph_4
  | true, false, true, false, false, false => graph_5
  | false, true, true, false, false, false => graph_6
  | true, true, true, false, false, false => graph_7
  | false, false, false, true, false, false => graph_8
  | true, false, false, true, false, false => graph_9
  | false, true, false, true, false, false => graph_10
  | true, true, false, true, false, false => graph_11
  | false, false, true, true, false, false => graph_12
  | true, false, true, true, false, false => graph_13
  | false, true, true, true, false, false => graph_14
  | true, true, true, true, false, false => graph_15
  | false, false, false, false, true, false => graph_16
  | true, false, false, false, true, false => graph_17
  | false, true, false, false, true, false => graph_18
  | true, true, false, false, true, false => graph_19
  | false, false, true, false, true, false => graph_20
  | true, false, true, false, true, false => graph_21
  | false, true, true, false, true, false => graph_22
  | true, true, true, false, true, false => graph_23
  | false, false, false, true, true, false => graph_24
  | true, false, false, true, true, false => graph_25
  | false, true, false, true, true, false => graph_26
  | true, true, false, true, true, false => graph_27
  | false, false, true, true, true, false => graph_28
  | true, false, true, true, true, false => graph_29
  | false, true, true, true, true, false => graph_30
  | true, true, true, true, true, false => graph_31
  | false, false, false, false, false, true => graph_32
  | true, false, false, false, false, true => graph_33
  | false, true, false, false, false, true => graph_34
  | true, true, false, false, false, true => graph_35
  | false, false, true, false, false, true => graph_36
  | true, false, true, false, false, true => graph_37
  | false, true, true, false, false, true => graph_38
  | true, true, true, false, false, true => graph_39
  | false, false, false, true, false, true => graph_40
  | true, false, false, true, false, true => graph_41
  | false, true, false, true, false, true => graph_42
  | true, true, false, true, false, true => graph_43
  | false, false, true, true, false, true => graph_44
  | true, false, true, true, false, true => graph_45
  | false, true, true, true, false, true => graph_46
  | true, true, true, true, false, true => graph_47
  | false, false, false, false, true, true => graph_48
  | true, false, false, false, true, true => graph_49
  | false, true, false, false, true, true => graph_50
  | true, true, false, false, true, true => graph_51
  | false, false, true, false, true, true => graph_52
  | true, false, true, false, true, true => graph_53
  | false, true, true, false, true, true => graph_54
  | true, true, true, false, true, true => graph_55
  | false, false, false, true, true, true => graph_56
  | true, false, false, true, true, true => graph_57
  | false, true, false, true, true, true => graph_58
  | true, true, false, true, true, true => graph_59
  | false, false, true, true, true, true => graph_60
  | true, false, true, true, true, true => graph_61
  | false, true, true, true, true, true => graph_62
  | true, true, true, true, true, true => graph_63
theorem graphs_4 : ∀ a b c d e f : Bool, lawM 4 [a, b, c, d, e, f] = true := by decide +kernel
theorem graphs_3 : ∀ a b c : Bool, lawM 3 [a, b, c] = true := by decide +kernel
theorem graphs_2 : ∀ a : Bool, lawM 2 [a] = true := by decide +kernel
theorem law_plain (a b c : Int) : lawF (nOf a) (pairsD (tiesOf (nOf a) (bitF b c))) = true := by
  obtain ⟨m1, m2, _⟩ := nOf_ok a
  generalize nOf a = n at *
  generalize bitF b c = bit
  have hn : n = 2 ∨ n = 3 ∨ n = 4 ∨ n = 5 := by omega
  rcases hn with rfl | rfl | rfl | rfl
  · refine law_bits 2 bit [bit 0] (fun j hj => ?_) (graphs_2 _)
    replace hj : j < 1 := hj
    match j, hj with
    | 0, _ => rfl
  · refine law_bits 3 bit [bit 0, bit 1, bit 2] (fun j hj => ?_) (graphs_3 _ _ _)
    replace hj : j < 3 := hj
    match j, hj with
    | 0, _ => rfl
    | 1, _ => rfl
    | 2, _ => rfl
  · refine law_bits 4 bit [bit 0, bit 1, bit 2, bit 3, bit 4, bit 5] (fun j hj => ?_) (graphs_4 _ _ _ _ _ _)
    replace hj : j < 6 := hj
    match j, hj with
    | 0, _ => rfl
    | 1, _ => rfl
    | 2, _ => rfl
    | 3, _ => rfl
    | 4, _ => rfl
    | 5, _ => rfl
  · refine law_bits 5 bit [bit 0, bit 1, bit 2, bit 3, bit 4, bit 5, bit 6, bit 7, bit 8, bit 9] (fun j hj => ?_) (graphs_5 _ _ _ _ _ _ _ _ _ _)
    replace hj : j < 10 := hj
    match j, hj with
    | 0, _ => rfl
    | 1, _ => rfl
    | 2, _ => rfl
    | 3, _ => rfl
    | 4, _ => rfl
    | 5, _ => rfl
    | 6, _ => rfl
    | 7, _ => rfl
    | 8, _ => rfl
    | 9, _ => rfl
end Mine
end
section
open PySem PySem.W PyProof.Rows
namespace Mine
set_option maxRecDepth 100000
theorem post_ok (x : WData) : PySem.Challenge.rw_ft5022_01.row.claim.post [x] (WData.bool true) [x] = true := by kernel_rfl
end Mine
end
open PySem PySem.W PyProof.Rows
set_option maxRecDepth 100000 in
set_option maxHeartbeats 8000000 in
theorem PySem.Challenge.cw_ft5022_01_holds : PySem.Challenge.rw_ft5022_01.Holds :=
  Mine.hd (by
  k_fill
  intro w s₀ s₁ mg mb G Y fa o pm cd doc dV kV ho hd hcd hD hmg hg args vals as hpre hlay hrd hwl hlo
  have KX := km_in_of Y
  have KT := km_tabs_of Y
  refine Ground.open G ?_
  intro T B D TE TW
  try (refine guard_noD D (by decide +kernel) ?_; clear D)
  wrow_args hpre hlay hrd hwl hlo
  all_goals (
    first | refine callC_kw (enter_call ?_) | refine enter_call ?_ | refine callC_kw (enter_callW ?_) | refine enter_callW ?_ | w_how)
  rename ReadsAll _ _ _ _ => ra'
  rename Heap.IsList _ _ _ => hL'
  rename (¬ _ < _) => hlen'
  have TR := topRead_of T
  have hfa : fa = 679 := by
    have h1 := Mine.mg_of_nsIn KX (Mine.law_in w.params) TR.g
    have h2 := hmg.symm.trans h1
    injection h2 with h2
    injection h2 with h2
  subst hfa
  refine Mine.law_code ⟨KX, _, _, _, _, TR⟩ (Mine.vd_script hL' ra') ?_ Mine.law_plain ?_
  · have h3 := hlen'
    omega
  · intro s' hk sh
    refine ⟨.inl ⟨_, .bool true, [], rfl, fun _ => rfl, .bool _, ?_, fun _ => ⟨List.nodup_nil, fun _ h => nomatch h⟩⟩, OldK.of_keep hk, sh.1, ?_⟩
    · generalize ofPy _ = x
      exact Mine.post_ok x
    · obtain ⟨_, l, hl, hb⟩ := sh
      intro y hy
      rw [hg] at hl
      have hm : y ∈ s'.gens.toList := by simpa using hy
      rw [hl] at hm
      exact hb y (by simpa using hm))
