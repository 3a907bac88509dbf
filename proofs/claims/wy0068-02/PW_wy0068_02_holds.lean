import PyProof.Rows.All
import Wide.All
import OpenK.AllK
import Wide.FinOn
import Lean
import PySem.Challenge.RW_wy0068_02
set_option Elab.async false

section
open PySem
set_option genSizeOfSpec false
set_option genInjectivity false
namespace Mine

inductive D where
  | none
  | bool (b : Bool)
  | int (i : Int)
  | str (s : Str)
  | list (xs : List D)
  | tup (xs : List D)
  | ent (ua rl dl rr : D)
  | rule (word : Str) (verdict : D)
  | dict (ks : List Str) (vs : List D)
  | raw (u : Value)

noncomputable abbrev Gh := Addr → Option Obj

noncomputable def Fixed (o : Obj) : Prop := (∃ vs, o.data = .fields vs) ∧ (o.cls = .none ∨ ∃ vs q t, o.data = .fields vs ∧ vs[1]? = some (.str q t))
noncomputable def IsCode (o : Obj) : Prop := ∃ vs q t, o.data = .fields vs ∧ vs[1]? = some (.str q t)
theorem NoCode.dict {o : Obj} {es n} (h : o.data = .dict es n) : ¬ IsCode o := fun ⟨_, _, _, e, _⟩ => by rw [h] at e; cases e
theorem NoCode.cell {o : Obj} {v} (h : o.data = .cell v) : ¬ IsCode o := fun ⟨_, _, _, e, _⟩ => by rw [h] at e; cases e
theorem NoCode.seq {o : Obj} {es n} (h : o.data = .seq es n) : ¬ IsCode o := fun ⟨_, _, _, e, _⟩ => by rw [h] at e; cases e
theorem NoCode.plain {o : Obj} (h : o.data = .plain) : ¬ IsCode o := fun ⟨_, _, _, e, _⟩ => by rw [h] at e; cases e
noncomputable def KeepF (h h' : Heap) : Prop := ∀ b o, Fixed o → h.get? b = some o → h'.get? b = some o

noncomputable def Le (g g' : Gh) : Prop := ∀ a o, g a = some o → g' a = some o
theorem Le.rfl {g : Gh} : Le g g := fun _ _ e => e
theorem Le.trans {a b c : Gh} (x : Le a b) (y : Le b c) : Le a c := fun _ _ e => y _ _ (x _ _ e)

structure LamC where
  params : Arguments
  body : Expr
  scope : Scope
  var : Str
  arg : Str

structure RuleIs (L : LamC) (g : Gh) (a : Addr) (x : Str) (u : Value) (o od ob oc co : Obj) (fd0 fd : FuncData) (dd b c cc : Addr) (m : Str → Option Value) (es : Array DictEntry) (ep : Nat) (vs : Array Value) (t tq : Tok) : Prop where
  ga : g a = some o
  oc0 : o.cls = .type "function"
  od0 : o.data = .func fd0
  odd : o.dict = some dd
  gd : g dd = some od
  dd0 : od.data = .dict es ep
  keys : StrKeys es
  finds : ∀ y, nsFind es y = m y
  app : m (Str.ofString "applies_to") = some (.ref b)
  allow : m (Str.ofString "allowance") = some u
  gb : g b = some ob
  obc : ob.cls = .type "function"
  obd : ob.data = .func fd
  par : fd.params = L.params
  body : fd.body = .expr L.body
  scope : fd.scope = L.scope
  glob : fd.globals = mainGlobals
  blt : fd.builtins = builtinsNs
  clo : fd.closure = [(L.var, c)]
  dfl : fd.defaults = .none
  kdf : fd.kwdefaults = .none
  gc : g c = some oc
  cell : oc.data = .cell (some (.str x t))
  code : fd.code = .ref cc
  gcc : g cc = some co
  cod : co.data = .fields vs
  qual : vs[1]? = some (.str fd.qualname tq)

noncomputable def RuleAt (L : LamC) (g : Gh) (a : Addr) (x : Str) (u : Value) : Prop := ∃ o od ob oc co fd0 fd dd b c cc m es ep vs t tq, RuleIs L g a x u o od ob oc co fd0 fd dd b c cc m es ep vs t tq
theorem RuleAt.mono {L : LamC} {g g' : Gh} {a : Addr} {x : Str} {u : Value} (h : Le g g') (r : RuleAt L g a x u) : RuleAt L g' a x u := by
  obtain ⟨o, od, ob, oc, co, fd0, fd, dd, b, c, cc, m, es, ep, vs, t, tq, R⟩ := r
  exact ⟨o, od, ob, oc, co, fd0, fd, dd, b, c, cc, m, es, ep, vs, t, tq, { R with ga := h _ _ R.ga, gd := h _ _ R.gd, gb := h _ _ R.gb, gc := h _ _ R.gc, gcc := h _ _ R.gcc }⟩

noncomputable def TabI (tab : Addr) (lams : List (Pos × Str)) (h : Heap) : Prop :=
  ∃ ps, h.get? tab = some (W.tabObj ps) ∧ TriplesOk ps.toList ∧ ∀ q ∈ lams, ∀ cv, codeAmong q.1 ps.toList = some cv → h.CodeRec cv q.2
theorem rec_keep {h h' : Heap} {cv : Value} {q : Str} (k : KeepF h h') (x : h.CodeRec cv q) : h'.CodeRec cv q := by
  obtain ⟨c, o, vs, t, rfl, e, d, r⟩ := x
  exact ⟨c, o, vs, t, rfl, k _ _ ⟨⟨vs, d⟩, .inr ⟨vs, q, t, d, r⟩⟩ e, d, r⟩
theorem TabI.keep {tab : Addr} {lams : List (Pos × Str)} {h h' : Heap} (k : KeepF h h') (x : TabI tab lams h) : TabI tab lams h' := by
  obtain ⟨ps, e, ok, r⟩ := x
  exact ⟨ps, k _ _ ⟨⟨ps, rfl⟩, .inl rfl⟩ e, ok, fun q hq cv hc => rec_keep k (r q hq cv hc)⟩

structure Law where
  prog : Program
  w : World
  top : Gh
  cls : Addr
  tab : Addr
  topT : top tab = none
  lam : LamC
  code : Addr
  mg : Str → Option Value
  lams : List (Pos × Str)
  codeOk : ∀ h : Heap, Le top h.get? → W.CodeHd h code tab ∧ h.Ns mainGlobals mg ∧ h.BuiltinsAt mg tab
  glo : Str → Option Value
  gloOk : ∀ h : Heap, Le top h.get? → ∀ f v, glo f = some v → ∃ m, h.Ns mainGlobals m ∧ (m f = some v ∨ (m f = none ∧ ∃ mb, h.Ns builtinsNs mb ∧ mb f = some v))
  nolimit : ∀ h : Heap, Le top h.get? → h.NoLimit
noncomputable def Law.tabInv (Y : Law) (h : Heap) : Prop := TabI Y.tab Y.lams h
theorem Law.tabKeep (Y : Law) (h h' : Heap) (k : KeepF h h') (x : Y.tabInv h) : Y.tabInv h' := TabI.keep k x
noncomputable abbrev Law.ruleAt (Y : Law) (g : Gh) (a : Addr) (x : Str) (u : Value) : Prop := RuleAt Y.lam g a x u
theorem Law.ruleMono (Y : Law) (g g' : Gh) (a : Addr) (x : Str) (v : Value) (h : Le g g') (r : Y.ruleAt g a x v) : Y.ruleAt g' a x v := r.mono h

noncomputable def maskO (o : Obj) : Obj := match o.cls, o.data with
  | .none, .fields _ => { cls := .none, data := .fields #[] }
  | _, _ => o
noncomputable def NoTab (o : Obj) : Prop := ¬ (o.cls = .none ∧ ∃ vs, o.data = .fields vs)
theorem NoTab.ne {o : Obj} (h : o.cls ≠ .none) : NoTab o := fun x => h x.1
theorem NoTab.cell {o : Obj} {v} (h : o.data = .cell v) : NoTab o := fun ⟨_, vs, e⟩ => by rw [h] at e; cases e
theorem NoTab.dict {o : Obj} {es n} (h : o.data = .dict es n) : NoTab o := fun ⟨_, vs, e⟩ => by rw [h] at e; cases e
theorem NoTab.seq {o : Obj} {es n} (h : o.data = .seq es n) : NoTab o := fun ⟨_, vs, e⟩ => by rw [h] at e; cases e
theorem NoTab.plain {o : Obj} (h : o.data = .plain) : NoTab o := fun ⟨_, vs, e⟩ => by rw [h] at e; cases e
theorem maskO_of {o : Obj} (hc : NoTab o) : maskO o = o := by
  unfold maskO
  split
  · rename_i h1 h2; exact absurd ⟨h1, _, h2⟩ hc
  · rfl
theorem maskO_tab {o : Obj} (hc : ¬ NoTab o) : maskO o = { cls := .none, data := .fields #[] } := by
  unfold NoTab at hc
  obtain ⟨h1, vs, h2⟩ := Classical.not_not.mp hc
  unfold maskO
  rw [h1, h2]
noncomputable def Law.see (Y : Law) (h : Heap) : Gh := fun b => if b = Y.tab then (h.get? b).map maskO else h.get? b
theorem see_ne {Y : Law} {h : Heap} {b : Addr} (hb : b ≠ Y.tab) : Y.see h b = h.get? b := by simp [Law.see, hb]
theorem see_tab {Y : Law} {h : Heap} : Y.see h Y.tab = (h.get? Y.tab).map maskO := by simp [Law.see]
theorem see_le {Y : Law} {h h' : Heap} (k : Le h.get? h'.get?) : Le (Y.see h) (Y.see h') := fun b o e => by
  by_cases hb : b = Y.tab
  · subst hb
    rw [see_tab] at e ⊢
    cases hh : h.get? Y.tab with
    | none => rw [hh] at e; cases e
    | some o' => rw [hh] at e; rw [k _ _ hh]; exact e
  · rw [see_ne hb] at e ⊢; exact k _ _ e
theorem see_raw {Y : Law} {h : Heap} {b : Addr} {o : Obj} (e : Y.see h b = some o) (hc : NoTab o) : h.get? b = some o := by
  by_cases hb : b = Y.tab
  · subst hb
    rw [see_tab] at e
    cases hh : h.get? Y.tab with
    | none => rw [hh] at e; cases e
    | some o' =>
      rw [hh] at e
      have e : maskO o' = o := Option.some.inj e
      by_cases h2 : NoTab o'
      · rw [maskO_of h2] at e; rw [e]
      · rw [maskO_tab h2] at e
        rw [← e] at hc
        exact absurd ⟨rfl, _, rfl⟩ hc
  · rwa [see_ne hb] at e
theorem see_of {Y : Law} {h : Heap} {b : Addr} {o : Obj} (e : h.get? b = some o) (hc : NoTab o) : Y.see h b = some o := by
  by_cases hb : b = Y.tab
  · subst hb
    rw [see_tab, e, Option.map_some, maskO_of hc]
  · rwa [see_ne hb]
theorem see_live {Y : Law} {h : Heap} {b : Addr} {o : Obj} (e : Y.see h b = some o) : ∃ o', h.get? b = some o' := by
  cases hh : h.get? b with
  | some o' => exact ⟨o', rfl⟩
  | none =>
    unfold Law.see at e
    rw [hh] at e
    split at e <;> cases e
theorem live_see {Y : Law} {h : Heap} {b : Addr} {o : Obj} (e : h.get? b = some o) : ∃ o', Y.see h b = some o' := by
  by_cases hb : b = Y.tab
  · subst hb
    rw [see_tab, e]
    exact ⟨_, rfl⟩
  · rw [see_ne hb]; exact ⟨o, e⟩
theorem see_none {Y : Law} {h : Heap} {b : Addr} (e : h.get? b = none) : Y.see h b = none := by
  cases hh : Y.see h b with
  | none => rfl
  | some o => obtain ⟨o', e'⟩ := see_live hh; rw [e] at e'; cases e'
theorem see_same {Y : Law} {h h' : Heap} {b : Addr} {o : Obj} (k : ∀ o, h.get? b = some o → h'.get? b = some o) (e : Y.see h b = some o) : Y.see h' b = some o := by
  obtain ⟨o', e'⟩ := see_live e
  unfold Law.see at e ⊢
  rw [k _ e']
  rwa [e'] at e
theorem top_raw {Y : Law} {h : Heap} (k : Le Y.top (Y.see h)) : Le Y.top h.get? := fun b o e => by
  have := k _ _ e
  rwa [see_ne (fun hb => by rw [hb, Y.topT] at e; cases e)] at this

noncomputable def IsListG (g : Gh) (a : Addr) (its : Array Value) : Prop := ∃ n, g a = some { cls := .type "list", data := .seq its n }
noncomputable def IsTupG (g : Gh) (a : Addr) (its : Array Value) : Prop := ∃ n, g a = some { cls := .type "tuple", data := .seq its n }

noncomputable def InstG (g : Gh) (x C : Addr) (m : Str → Option Value) : Prop :=
  ∃ o dd od es ep, g x = some o ∧ o.cls = .ref C ∧ o.data = .plain ∧ o.dict = some dd ∧ dd ≠ x ∧ g dd = some od ∧ od.data = .dict es ep ∧ StrKeys es ∧ UniqKeys es ∧ ∀ name, nsFind es name = m name
theorem InstG.mono {g g' : Gh} {x C : Addr} {m : Str → Option Value} (h : Le g g') (I : InstG g x C m) : InstG g' x C m := by
  obtain ⟨o, dd, od, es, ep, e1, e2, e3, e4, e5, e6, r⟩ := I
  exact ⟨o, dd, od, es, ep, h _ _ e1, e2, e3, e4, e5, h _ _ e6, r⟩
theorem InstG.inst {Y : Law} {g : Gh} {h : Heap} {x C : Addr} {m : Str → Option Value} (hg : Le g (Y.see h)) (I : InstG g x C m) : h.Inst x C m := by
  obtain ⟨o, dd, od, es, ep, e1, e2, e3, e4, e5, e6, e7, e8, e9, e10⟩ := I
  have q2 := see_raw (hg _ _ e6) (.dict e7)
  exact ⟨o, see_raw (hg _ _ e1) (.plain e3), e2, (fun c hc => by rw [e3] at hc; cases hc), .inr ⟨dd, e4, e5, od, es, ep, q2, e7, e8, e9, e10⟩⟩

noncomputable def keysOf (es : Array DictEntry) : List (Option Str) := es.toList.map fun e => match e.key with | .str s _ => some s | _ => Option.none

section
variable (Y : Law)
mutual
noncomputable def Rep (g : Gh) : D → Value → Prop
  | .none, v => v = .none
  | .bool b, v => v = .bool b
  | .int i, v => ∃ t, v = .int i t
  | .str s, v => ∃ t, v = .str s t
  | .list xs, v => ∃ a its, v = .ref a ∧ IsListG g a its ∧ RepAll g xs its.toList
  | .tup xs, v => ∃ a its, v = .ref a ∧ IsTupG g a its ∧ RepAll g xs its.toList
  | .ent ua rl dl rr, v => ∃ a m, v = .ref a ∧ InstG g a Y.cls m ∧
      (∃ u, m (Str.ofString "useragents") = some u ∧ Rep g ua u) ∧ (∃ u, m (Str.ofString "rulelines") = some u ∧ Rep g rl u) ∧
      (∃ u, m (Str.ofString "delay") = some u ∧ Rep g dl u) ∧ (∃ u, m (Str.ofString "req_rate") = some u ∧ Rep g rr u) ∧
      m (Str.ofString "applies_to") = Option.none ∧ m (Str.ofString "allowance") = Option.none
  | .rule x vd, v => ∃ a u, v = .ref a ∧ Y.ruleAt g a x u ∧ Rep g vd u
  | .dict ks vs, v => ∃ a es n, v = .ref a ∧ g a = some { cls := .type "dict", data := .dict es n } ∧ keysOf es = ks.map some ∧ ks.Nodup ∧ RepAll g vs (es.toList.map (·.val))
  | .raw u, v => v = u
noncomputable def RepAll (g : Gh) : List D → List Value → Prop
  | [], vs => vs = []
  | d :: ds, vs => ∃ v r, vs = v :: r ∧ Rep g d v ∧ RepAll g ds r
end
end
variable {Y : Law}

mutual
theorem Rep.mono {g g' : Gh} (h : Le g g') : ∀ (d : D) (v : Value), Rep Y g d v → Rep Y g' d v
  | .none, v, x => by simpa [Rep] using x
  | .bool b, v, x => by simpa [Rep] using x
  | .int i, v, x => by simpa [Rep] using x
  | .str s, v, x => by simpa [Rep] using x
  | .list xs, v, x => by
    simp only [Rep] at x ⊢
    obtain ⟨a, its, rfl, ⟨n, e⟩, y⟩ := x
    exact ⟨a, its, Eq.refl _, ⟨n, h _ _ e⟩, RepAll.mono h _ _ y⟩
  | .tup xs, v, x => by
    simp only [Rep] at x ⊢
    obtain ⟨a, its, rfl, ⟨n, e⟩, y⟩ := x
    exact ⟨a, its, Eq.refl _, ⟨n, h _ _ e⟩, RepAll.mono h _ _ y⟩
  | .ent ua rl dl rr, v, x => by
    simp only [Rep] at x ⊢
    obtain ⟨a, m, rfl, I, ⟨u1, f1, r1⟩, ⟨u2, f2, r2⟩, ⟨u3, f3, r3⟩, ⟨u4, f4, r4⟩, n1, n2⟩ := x
    exact ⟨a, m, Eq.refl _, I.mono h, ⟨u1, f1, Rep.mono h _ _ r1⟩, ⟨u2, f2, Rep.mono h _ _ r2⟩, ⟨u3, f3, Rep.mono h _ _ r3⟩, ⟨u4, f4, Rep.mono h _ _ r4⟩, n1, n2⟩
  | .rule x vd, v, y => by
    simp only [Rep] at y ⊢
    obtain ⟨a, u, rfl, r, q⟩ := y
    exact ⟨a, u, Eq.refl _, Y.ruleMono _ _ _ _ _ h r, Rep.mono h _ _ q⟩
  | .dict ks vs, v, x => by
    simp only [Rep] at x ⊢
    obtain ⟨a, es, n, rfl, e, hk, hn, y⟩ := x
    exact ⟨a, es, n, Eq.refl _, h _ _ e, hk, hn, RepAll.mono h _ _ y⟩
  | .raw u, v, x => by simpa [Rep] using x
theorem RepAll.mono {g g' : Gh} (h : Le g g') : ∀ (ds : List D) (vs : List Value), RepAll Y g ds vs → RepAll Y g' ds vs
  | [], vs, x => by simpa [RepAll] using x
  | d :: ds, vs, x => by
    simp only [RepAll] at x ⊢
    obtain ⟨v, r, rfl, y, z⟩ := x
    exact ⟨v, r, Eq.refl _, Rep.mono h _ _ y, RepAll.mono h _ _ z⟩
end

end Mine
end

section
open PySem
namespace Mine
variable {Y : Law}

noncomputable def Held (Y : Law) (a : Addr) (o : Obj) : Prop := ¬ (IsCode o ∧ a ≠ Y.tab)
theorem Held.no {a : Addr} {o : Obj} (h : ¬ IsCode o) : Held Y a o := fun x => h x.1
theorem Held.dict {a : Addr} {o : Obj} {es n} (h : o.data = .dict es n) : Held Y a o := .no (NoCode.dict h)
theorem Held.cell {a : Addr} {o : Obj} {v} (h : o.data = .cell v) : Held Y a o := .no (NoCode.cell h)
theorem Held.seq {a : Addr} {o : Obj} {es n} (h : o.data = .seq es n) : Held Y a o := .no (NoCode.seq h)
theorem Held.plain {a : Addr} {o : Obj} (h : o.data = .plain) : Held Y a o := .no (NoCode.plain h)
theorem Held.tab {o : Obj} : Held Y Y.tab o := fun x => x.2 rfl
open Classical in
noncomputable def grow (Y : Law) (g : Gh) (h h' : Heap) : Gh := fun a => match h.get? a with
  | some o => if IsCode o ∧ a ≠ Y.tab then some o else g a
  | none => Y.see h' a

noncomputable abbrev Tr {α : Type} (Y : Law) (A : Around) (t : Sem α) (s : Shared) (Q : α → Shared → Prop) : Prop := wpAny (model Y.prog Y.w) A t Q (fun _ _ => False) s

theorem Tr.any {α : Type} {A : Around} {t : Sem α} {s : Shared} {Q : α → Shared → Prop} {E : Value → Shared → Prop} (h : Tr Y A t s Q) : wpAny (model Y.prog Y.w) A t Q E s :=
  wpAny_mono h (fun _ _ x => x) fun _ _ x => x.elim
theorem Tr.mono {α : Type} {A : Around} {t : Sem α} {s : Shared} {Q Q' : α → Shared → Prop} (h : Tr Y A t s Q) (hQ : ∀ a s', Q a s' → Q' a s') : Tr Y A t s Q' :=
  wpAny_mono h hQ fun _ _ x => x

noncomputable def Kp (Y : Law) (s s' : Shared) : Prop := ∃ h t, s' = { s with heap := h, toks := t } ∧ Le (Y.see s.heap) (Y.see h) ∧ (Y.tabInv s.heap → Y.tabInv h)

theorem KeepF.of {h h' : Heap} (k : Le h.get? h'.get?) : KeepF h h' := fun b o _ e => k b o e
theorem keeps_refl (s : Shared) : Kp Y s s := ⟨s.heap, s.toks, rfl, Le.rfl, id⟩
theorem keeps_trans {s s' s'' : Shared} (x : Kp Y s s') (y : Kp Y s' s'') : Kp Y s s'' := by
  obtain ⟨h, t, rfl, k, i⟩ := x
  obtain ⟨h', t', rfl, k', i'⟩ := y
  exact ⟨h', t', rfl, k.trans k', fun z => i' (i z)⟩
theorem keeps_le {s s' : Shared} (x : Kp Y s s') : Le (Y.see s.heap) (Y.see s'.heap) := by
  obtain ⟨h, t, rfl, k, _⟩ := x
  exact k
theorem keeps_inv {s s' : Shared} (x : Kp Y s s') : Y.tabInv s.heap → Y.tabInv s'.heap := by
  obtain ⟨h, t, rfl, _, k⟩ := x
  exact k
theorem keeps_live {s s' : Shared} (x : Kp Y s s') {b : Addr} {o : Obj} (e : s.heap.get? b = some o) : ∃ o', s'.heap.get? b = some o' := by
  obtain ⟨o', e'⟩ := live_see (Y := Y) e
  exact see_live (keeps_le x _ _ e')
theorem keeps_none {s s' : Shared} (x : Kp Y s s') {b : Addr} (e : s'.heap.get? b = none) : s.heap.get? b = none := by
  cases h : s.heap.get? b with
  | none => rfl
  | some o => obtain ⟨o', e'⟩ := keeps_live x h; rw [e] at e'; cases e'
theorem keeps_raw {s s' : Shared} (x : Kp Y s s') {b : Addr} {o : Obj} (e : s.heap.get? b = some o) (hc : NoTab o) : s'.heap.get? b = some o := see_raw (keeps_le x b o (see_of e hc)) hc
theorem keeps_tok (s : Shared) (n : Nat) : Kp Y s { s with toks := n } := ⟨s.heap, n, rfl, Le.rfl, id⟩
theorem keeps_same {s : Shared} {h : Heap} {n : Nat} (k : Le s.heap.get? h.get?) : Kp Y s { s with heap := h, toks := n } := ⟨h, n, rfl, see_le k, Y.tabKeep _ _ (KeepF.of k)⟩
theorem le_push (h : Heap) (o : Obj) : Le h.get? (h.push o).get? := fun _ _ e => Heap.get?_push_of_some _ e
theorem keeps_push (s : Shared) (o : Obj) (n : Nat) : Kp Y s { s with heap := s.heap.push o, toks := n } := keeps_same (le_push _ _)

theorem grow_old {g : Gh} {h h' : Heap} {a : Addr} {o : Obj} (e : h.get? a = some o) (hn : Held Y a o) : grow Y g h h' a = g a := by
  unfold grow; rw [e]; simp only; rw [if_neg hn]
theorem grow_code {g : Gh} {h h' : Heap} {a : Addr} {o : Obj} (e : h.get? a = some o) (hn : IsCode o) (ha : a ≠ Y.tab) : grow Y g h h' a = some o := by
  unfold grow; rw [e]; simp only; rw [if_pos ⟨hn, ha⟩]
theorem grow_fresh {g : Gh} {h h' : Heap} {a : Addr} (e : h.get? a = none) : grow Y g h h' a = Y.see h' a := by
  unfold grow; rw [e]
theorem le_grow {g : Gh} {h h' : Heap} (l : Le g (Y.see h)) : Le g (grow Y g h h') := fun a o e => by
  obtain ⟨o', e'⟩ := see_live (l _ _ e)
  by_cases hc : IsCode o' ∧ a ≠ Y.tab
  · have e2 := l _ _ e
    rw [see_ne hc.2, e'] at e2; cases e2
    exact grow_code e' hc.1 hc.2
  · unfold grow; rw [e']; simp only; rw [if_neg hc]; exact e
theorem grow_le {g : Gh} {h h' : Heap} (l : Le g (Y.see h)) (k : Le (Y.see h) (Y.see h')) : Le (grow Y g h h') (Y.see h') := fun a o e => by
  cases hh : h.get? a with
  | some x =>
    by_cases hc : IsCode x ∧ a ≠ Y.tab
    · rw [grow_code hh hc.1 hc.2] at e; cases e
      exact k _ _ (by rw [see_ne hc.2]; exact hh)
    · unfold grow at e; rw [hh] at e; simp only at e; rw [if_neg hc] at e; exact k _ _ (l _ _ e)
  | none => rw [grow_fresh hh] at e; exact e
theorem grow_trans {g : Gh} {h h' h'' : Heap} (k : Le (Y.see h) (Y.see h')) (k' : Le (Y.see h') (Y.see h'')) : Le (grow Y (grow Y g h h') h' h'') (grow Y g h h'') := fun a o e => by
  cases hh : h.get? a with
  | some x =>
    obtain ⟨y, ey⟩ := live_see (Y := Y) hh
    obtain ⟨z, ez⟩ := see_live (k _ _ ey)
    by_cases ha : a = Y.tab
    · subst ha
      rw [grow_old ez (fun x => x.2 rfl), grow_old hh (fun x => x.2 rfl)] at e; rw [grow_old hh (fun x => x.2 rfl)]; exact e
    · have ex := k a x (by rw [see_ne ha]; exact hh)
      rw [see_ne ha, ez] at ex; cases ex
      by_cases hc : IsCode x
      · rw [grow_code ez hc ha] at e; rw [grow_code hh hc ha]; exact e
      · rw [grow_old ez (.no hc), grow_old hh (.no hc)] at e; rw [grow_old hh (.no hc)]; exact e
  | none =>
    rw [grow_fresh hh]
    cases h2 : h'.get? a with
    | some x =>
      by_cases hc : IsCode x ∧ a ≠ Y.tab
      · rw [grow_code h2 hc.1 hc.2] at e; cases e
        exact k' _ _ (by rw [see_ne hc.2]; exact h2)
      · unfold grow at e; rw [h2] at e; simp only at e; rw [if_neg hc, hh] at e; exact k' _ _ e
    | none => rw [grow_fresh h2] at e; exact e
theorem grow_new {g : Gh} {h h' : Heap} {a : Addr} {o : Obj} (ha : h.get? a = none) (e : h'.get? a = some o) (hc : NoTab o) : grow Y g h h' a = some o := by
  rw [grow_fresh ha]; exact see_of e hc
theorem grow_in {g G : Gh} {h h' : Heap} (hG : Le G (Y.see h')) (k : Le (Y.see h) (Y.see h')) (hold : ∀ a o, h.get? a = some o → Held Y a o → G a = g a) : Le G (grow Y g h h') := fun a o e => by
  cases hh : h.get? a with
  | none => rw [grow_fresh hh]; exact hG _ _ e
  | some x =>
    by_cases hc : IsCode x ∧ a ≠ Y.tab
    · rw [grow_code hh hc.1 hc.2]
      have e1 := k a x (by rw [see_ne hc.2]; exact hh)
      rw [hG _ _ e] at e1; exact e1.symm
    · rw [grow_old hh hc, ← hold _ _ hh hc]; exact e
theorem size_none (h : Heap) : h.get? h.objs.size = none := by
  cases e : h.get? h.objs.size with
  | none => rfl
  | some o => exact absurd (Heap.lt_size e) (Nat.lt_irrefl _)

inductive Sl where
  | val (d : D)
  | own (xs : List D)

noncomputable abbrev Sto := List (Str × Sl)
noncomputable abbrev Nm := List (Str × NameKind)

noncomputable def VarIs (env : Env) (h : Heap) (x : Str) (v : Value) : Prop :=
  (env.kindOf x = some .local ∧ ∃ m, h.Ns env.locals m ∧ m x = some v) ∨
  ((env.kindOf x = some .cell ∨ env.kindOf x = some .free) ∧ ∃ c, env.cells.lookup x = some c ∧ h.IsCell c (some v))

theorem keeps_liveH {s s' : Shared} (x : Kp Y s s') {b : Addr} {o : Obj} (e : s.heap.get? b = some o) : ∃ o', s'.heap.get? b = some o' ∧ (Held Y b o → Held Y b o') := by
  by_cases hb : b = Y.tab
  · subst hb
    obtain ⟨o', e'⟩ := keeps_live x e
    exact ⟨o', e', fun _ => .tab⟩
  · have := keeps_le x b o (by rw [see_ne hb]; exact e)
    rw [see_ne hb] at this
    exact ⟨o, this, id⟩

noncomputable def SlRep (Y : Law) (k g : Gh) (h : Heap) : Sl → Value → Prop
  | .val d, v => Rep Y g d v
  | .own xs, v => ∃ a its, v = .ref a ∧ k a = none ∧ g a = none ∧ h.PlainList a its ∧ RepAll Y g xs its.toList

structure EnvOk (nm : Nm) (env : Env) : Prop where
  kind : env.scope.kind = .function
  kinds : ∀ x k, nm.lookup x = some k → env.kindOf x = some k ∨ (k = .free ∧ env.kindOf x = some .cell)
  glob : env.globals = mainGlobals
  blt : env.builtins = builtinsNs
  clook : ∀ x, (env.kindOf x = some .cell ∨ env.kindOf x = some .free) → ∃ c, env.cells.lookup x = some c
  apart : env.cells.Pairwise fun x y => x.2 ≠ y.2

noncomputable def TopOk (Y : Law) (g : Gh) (h : Heap) : Prop := Le Y.top g ∧ Y.tabInv h
theorem TopOk.mono {g g' : Gh} {h h' : Heap} (x : TopOk Y g h) (hg : Le g g') (k : KeepF h h') : TopOk Y g' h' := ⟨x.1.trans hg, Y.tabKeep _ _ k x.2⟩
theorem TopOk.keeps {g g' : Gh} {s s' : Shared} (x : TopOk Y g s.heap) (hg : Le g g') (k : Kp Y s s') : TopOk Y g' s'.heap := ⟨x.1.trans hg, keeps_inv k x.2⟩

structure Frm (Y : Law) (env : Env) (k g : Gh) (σ : Sto) (h : Heap) : Prop where
  top : TopOk Y g h
  lek : Le k (Y.see h)
  leg : Le g (Y.see h)
  ns : ∃ m, h.Ns env.locals m
  kL : k env.locals = none
  gL : g env.locals = none
  cells : ∀ x c, env.kindOf x = some .cell → env.cells.lookup x = some c → (∃ v, h.IsCell c v) ∧ k c = none ∧ g c = none
  frees : ∀ x c, env.kindOf x = some .free → env.cells.lookup x = some c → ∃ v, h.IsCell c v
  vars : ∀ x sl, σ.lookup x = some sl → ∃ v, VarIs env h x v ∧ SlRep Y k g h sl v
  own : ∀ x y xs ys a, σ.lookup x = some (.own xs) → σ.lookup y = some (.own ys) → VarIs env h x (.ref a) → VarIs env h y (.ref a) → x = y

theorem Frm.rawTop {env : Env} {k g : Gh} {σ : Sto} {h : Heap} (F : Frm Y env k g σ h) : Le Y.top h.get? := top_raw (F.top.1.trans F.leg)
theorem TopOk.raw {g : Gh} {h : Heap} (x : TopOk Y g h) (hg : Le g (Y.see h)) : Le Y.top h.get? := top_raw (x.1.trans hg)

theorem IsCell.see {h h' : Heap} {c v} (x : h.IsCell c v) (hk : Le (Y.see h) (Y.see h')) : h'.IsCell c v := by
  obtain ⟨o, e, d⟩ := x
  exact ⟨o, see_raw (hk _ _ (see_of e (.cell d))) (.cell d), d⟩
theorem Ns.see {h h' : Heap} {a m} (x : h.Ns a m) (hk : Le (Y.see h) (Y.see h')) : h'.Ns a m := by
  obtain ⟨o, es, ep, e, d, r⟩ := x
  exact ⟨o, es, ep, see_raw (hk _ _ (see_of e (.dict d))) (.dict d), d, r⟩
theorem VarIs.see {env : Env} {h h' : Heap} {x : Str} {v : Value} (hk : Le (Y.see h) (Y.see h')) (V : VarIs env h x v) : VarIs env h' x v := by
  rcases V with ⟨a, m, b, c⟩ | ⟨a, c, b, d⟩
  · exact .inl ⟨a, m, Ns.see b hk, c⟩
  · exact .inr ⟨a, c, b, IsCell.see d hk⟩
theorem VarIs.le {env : Env} {h h' : Heap} {x : Str} {v : Value} (hk : Le h.get? h'.get?) (V : VarIs env h x v) : VarIs env h' x v := by
  rcases V with ⟨a, m, b, c⟩ | ⟨a, c, b, d⟩
  · exact .inl ⟨a, m, b.keeps hk, c⟩
  · exact .inr ⟨a, c, b, d.keeps hk⟩
theorem Ns.inj {h : Heap} {a : Addr} {m m' : Str → Option Value} (x : h.Ns a m) (y : h.Ns a m') : m = m' := by
  obtain ⟨o, es, ep, e1, e2, e3, e4⟩ := x
  obtain ⟨o', es', ep', e1', e2', e3', e4'⟩ := y
  rw [e1] at e1'; cases e1'
  rw [e2] at e2'; cases e2'
  funext n
  rw [← e4, ← e4']
theorem VarIs.inj {env : Env} {h : Heap} {x : Str} {v v' : Value} (V : VarIs env h x v) (V' : VarIs env h x v') : v = v' := by
  rcases V with ⟨a, m, b, c⟩ | ⟨a, c, b, o, d, e⟩
  · rcases V' with ⟨a', m', b', c'⟩ | ⟨a', c', b', d'⟩
    · cases Ns.inj b b'
      rw [c] at c'; cases c'; rfl
    · rw [a] at a'; rcases a' with a' | a' <;> cases a'
  · rcases V' with ⟨a', m', b', c'⟩ | ⟨a', c', b', o', d', e'⟩
    · rw [a'] at a; rcases a with a | a <;> cases a
    · rw [b] at b'; cases b'
      rw [d] at d'; cases d'
      rw [e] at e'; cases e'; rfl

theorem PlainList.see {h h' : Heap} {a : Addr} {its : Array Value} (hk : Le (Y.see h) (Y.see h')) (x : h.PlainList a its) : h'.PlainList a its := by
  obtain ⟨n, e⟩ := x
  exact ⟨n, see_raw (hk _ _ (see_of e (.seq rfl))) (.seq rfl)⟩
theorem PlainList.le {h h' : Heap} {a : Addr} {its : Array Value} (hk : Le h.get? h'.get?) (x : h.PlainList a its) : h'.PlainList a its := by
  obtain ⟨n, e⟩ := x
  exact ⟨n, hk _ _ e⟩

theorem SlRep.mono {k g g' : Gh} {h h' : Heap} {sl : Sl} {v : Value} (hk : Le (Y.see h) (Y.see h')) (hg : Le g g') (hn : ∀ a o, g a = none → h.get? a = some o → Held Y a o → g' a = none) (x : SlRep Y k g h sl v) : SlRep Y k g' h' sl v := by
  cases sl with
  | val d => exact Rep.mono hg _ _ x
  | own xs =>
    obtain ⟨a, its, rfl, ka, ga, p, r⟩ := x
    exact ⟨a, its, rfl, ka, (let ⟨_, e⟩ := p; hn a _ ga e (.seq rfl)), PlainList.see hk p, RepAll.mono hg _ _ r⟩

theorem Frm.grows {env : Env} {k g : Gh} {σ : Sto} {s s' : Shared} (F : Frm Y env k g σ s.heap) (K : Kp Y s s') : Frm Y env k (grow Y g s.heap s'.heap) σ s'.heap := by
  have hk := keeps_le K
  refine ⟨F.top.keeps (le_grow F.leg) K, F.lek.trans hk, grow_le F.leg hk, ?_, F.kL, ?_, ?_, fun x c h1 h2 => let ⟨v, hv⟩ := F.frees x c h1 h2; ⟨v, IsCell.see hv hk⟩, ?_, ?_⟩
  · obtain ⟨m, hm⟩ := F.ns; exact ⟨m, Ns.see hm hk⟩
  · obtain ⟨m, hm⟩ := F.ns
    obtain ⟨o, _, _, e, d, _⟩ := hm
    rw [grow_old e (.dict d)]; exact F.gL
  · intro x c h1 h2
    obtain ⟨⟨v, hv⟩, kc, gc⟩ := F.cells x c h1 h2
    refine ⟨⟨v, IsCell.see hv hk⟩, kc, ?_⟩
    obtain ⟨o, e, d⟩ := hv
    rw [grow_old e (.cell d)]; exact gc
  · intro x sl hx
    obtain ⟨v, V, S⟩ := F.vars x sl hx
    exact ⟨v, V.see hk, SlRep.mono hk (le_grow F.leg) (fun a o ga e hn => by rw [grow_old e hn]; exact ga) S⟩
  · intro x y xs ys a hx hy Vx Vy
    obtain ⟨vx, Vx', _⟩ := F.vars x _ hx
    obtain ⟨vy, Vy', _⟩ := F.vars y _ hy
    have e1 := VarIs.inj Vx (Vx'.see hk)
    have e2 := VarIs.inj Vy (Vy'.see hk)
    subst e1; subst e2
    exact F.own x y xs ys a hx hy Vx' Vy'

end Mine
end

section
open PySem
namespace Mine

noncomputable def AOk (n : Nat) (A : Around) : Prop := A.handled = none ∧ A.depth + n ≤ 900 ∧ A.units + 10 * n ≤ 9000 ∧ A.guards = some []
theorem AOk.deeper {n : Nat} {A : Around} (h : AOk (n + 1) A) (env : Env) : AOk n (A.deeper env) := ⟨h.1, by have := h.2.1; show A.depth + 1 + n ≤ 900; omega, by have := h.2.2.1; show A.units + 3 + 10 * n ≤ 9000; omega, h.2.2.2⟩

section
variable (Y : Law)

noncomputable def Post (g : Gh) (s : Shared) (d : D) : Value → Shared → Prop := fun v s' => Kp Y s s' ∧ Rep Y (grow Y g s.heap s'.heap) d v
noncomputable def PostAll (g : Gh) (s : Shared) (ds : List D) : List Value → Shared → Prop := fun v s' => Kp Y s s' ∧ RepAll Y (grow Y g s.heap s'.heap) ds v

noncomputable def Ev (n : Nat) (nm : Nm) (σ : Sto) (e : Expr) (d : D) : Prop :=
  ∀ (A : Around) (env : Env) (k g : Gh) (s : Shared), AOk n A → EnvOk nm env → Frm Y env k g σ s.heap → Tr Y A (eval e env) s (Post Y g s d)

noncomputable def EvT (n : Nat) (nm : Nm) (σ : Sto) (e : Expr) (b : Bool) : Prop :=
  ∀ (A : Around) (env : Env) (k g : Gh) (s : Shared), AOk n A → EnvOk nm env → Frm Y env k g σ s.heap → Tr Y A (isTrue e env (eval e env)) s (fun c s' => Kp Y s s' ∧ c = b)

noncomputable def EvArgs (n : Nat) (nm : Nm) (σ : Sto) (es : List Expr) (ds : List D) : Prop :=
  ∀ (A : Around) (env : Env) (k g : Gh) (s : Shared) (pos : Pos), AOk n A → EnvOk nm env → Frm Y env k g σ s.heap → Tr Y A (spliced (backTo pos (starEach es env))) s (PostAll Y g s ds)

noncomputable def Op1 (n : Nat) (f : Value → Sem Value) (a d : D) : Prop :=
  ∀ (A : Around) (g : Gh) (s : Shared) (u : Value), AOk n A → TopOk Y g s.heap → Le g (Y.see s.heap) → Rep Y g a u → Tr Y A (f u) s (Post Y g s d)
noncomputable def Op2 (n : Nat) (f : Value → Value → Sem Value) (a b d : D) : Prop :=
  ∀ (A : Around) (g : Gh) (s : Shared) (u v : Value), AOk n A → TopOk Y g s.heap → Le g (Y.see s.heap) → Rep Y g a u → Rep Y g b v → Tr Y A (f u v) s (Post Y g s d)
noncomputable def CallD (n : Nat) (f : Value) (ds : List D) (d : D) : Prop :=
  ∀ (A : Around) (g : Gh) (s : Shared) (vs : List Value), AOk n A → TopOk Y g s.heap → Le g (Y.see s.heap) → RepAll Y g ds vs → Tr Y A (call f vs) s (Post Y g s d)
end

variable {Y : Law} {n : Nat} {nm : Nm} {σ : Sto}

theorem post_trans {g : Gh} {s s₁ s₂ : Shared} {d : D} {v : Value} (K : Kp Y s s₁) (P : Post Y (grow Y g s.heap s₁.heap) s₁ d v s₂) : Post Y g s d v s₂ :=
  ⟨keeps_trans K P.1, Rep.mono (grow_trans (keeps_le K) (keeps_le P.1)) _ _ P.2⟩
theorem post_here {g : Gh} {s : Shared} {d : D} {v : Value} {t : Nat} (l : Le g (Y.see s.heap)) (r : Rep Y g d v) : Post Y g s d v { s with toks := t } :=
  ⟨keeps_tok s t, Rep.mono (le_grow l) _ _ r⟩
theorem post_self {g : Gh} {s : Shared} {d : D} {v : Value} (l : Le g (Y.see s.heap)) (r : Rep Y g d v) : Post Y g s d v s :=
  ⟨keeps_refl s, Rep.mono (le_grow l) _ _ r⟩

theorem load_ok {A : Around} {env : Env} {x : Str} {v : Value} {s : Shared} {Q : Value → Shared → Prop} (hk : env.scope.kind = .function) (V : VarIs env s.heap x v) (h : Q v s)
    (hc : (x == ("__classdict__" : Str)) = false) : Tr Y A (loadName env x) s Q := by
  rcases V with ⟨a, m, b, c⟩ | ⟨a | a, c, b, d⟩
  · exact wpAny_loadName_local hk a b c h
  · exact wpAny_loadName_cell hk a b d h
  · exact wpAny_loadName_free hk a b d h hc

theorem Ev_name {x : Str} {p : Pos} {d : D} (hx : σ.lookup x = some (.val d)) (hd : (x == ("__debug__" : Str)) = false) (hc : (x == ("__classdict__" : Str)) = false) : Ev Y n nm σ (.Name x p) d := by
  intro A env k g s hA hE F
  obtain ⟨v, V, r⟩ := F.vars x _ hx
  exact wpAny_Name (load_ok hE.kind V (post_self F.leg r) hc) hd

theorem Ev_int {i : Int} {k : Nat} {p : Pos} : Ev Y n nm σ (.Constant (.int i) k p) (.int i) := by
  intro A env k g s hA hE F
  exact wpAny_Constant_int (post_here F.leg (by simp [Rep]))
theorem Ev_str {x : Str} {k : Nat} {p : Pos} : Ev Y n nm σ (.Constant (.str x) k p) (.str x) := by
  intro A env k g s hA hE F
  exact wpAny_Constant_str (post_here F.leg (by simp [Rep]))
theorem Ev_none {k : Nat} {p : Pos} : Ev Y n nm σ (.Constant .none k p) .none := by
  intro A env k g s hA hE F
  exact wpAny_Constant_none (post_self F.leg (by simp [Rep]))
theorem Ev_bool {b : Bool} {k : Nat} {p : Pos} : Ev Y n nm σ (.Constant (.bool b) k p) (.bool b) := by
  intro A env k g s hA hE F
  exact wpAny_Constant_bool (post_self F.leg (by simp [Rep]))

theorem two {A : Around} {env : Env} {k g : Gh} {s : Shared} {l r : Expr} {a b d : D} {f : Value → Value → Sem Value} (hl : Ev Y n nm σ l a) (hr : Ev Y n nm σ r b) (ho : Op2 Y n f a b d)
    (hA : AOk n A) (hE : EnvOk nm env) (F : Frm Y env k g σ s.heap) :
    Tr Y A (eval l env) s (fun u s₁ => Tr Y A (eval r env) s₁ (fun v s₂ => Tr Y A (f u v) s₂ (Post Y g s d))) := by
  refine (hl A env k g s hA hE F).mono fun u s₁ h₁ => ?_
  have F₁ := F.grows h₁.1
  refine (hr A env k _ s₁ hA hE F₁).mono fun v s₂ h₂ => ?_
  have F₂ := F₁.grows h₂.1
  refine (ho A _ s₂ u v hA F₂.top F₂.leg (Rep.mono (le_grow F₁.leg) _ _ h₁.2) h₂.2).mono fun y s₃ h₃ => ?_
  exact post_trans h₁.1 (post_trans h₂.1 h₃)

theorem Ev_bin {l r : Expr} {op : Operator} {p : Pos} {a b d : D} (hl : Ev Y n nm σ l a) (hr : Ev Y n nm σ r b) (ho : Op2 Y n (binaryOp op) a b d) : Ev Y n nm σ (.BinOp l op r p) d := by
  intro A env k g s hA hE F
  exact wpAny_BinOp (two hl hr ho hA hE F)
theorem Ev_cmp {l r : Expr} {op : CmpOp} {p : Pos} {a b d : D} (hl : Ev Y n nm σ l a) (hr : Ev Y n nm σ r b) (ho : Op2 Y n (compareOp op) a b d) (hm : behindInMarks op r = false) : Ev Y n nm σ (.Compare l [op] [r] p) d := by
  intro A env k g s hA hE F
  exact wpAny_Compare1 (two hl hr ho hA hE F) hm
theorem EvT_cmp {l r : Expr} {op : CmpOp} {p : Pos} {a b : D} {c : Bool} (hl : Ev Y n nm σ l a) (hr : Ev Y n nm σ r b) (ho : Op2 Y n (compareOp op) a b (.bool c)) (hm : behindInMarks op r = false) : EvT Y n nm σ (.Compare l [op] [r] p) c := by
  intro A env k g s hA hE F
  refine wpAny_isTrue_Compare1 ((two hl hr ho hA hE F).mono fun u s₁ h₁ => h₁.mono fun v s₂ h₂ => h₂.mono fun y s₃ h₃ => ?_) hm
  obtain ⟨K, R⟩ := h₃
  simp only [Rep] at R
  subst R
  exact wpAny_truthy_bool ⟨K, rfl⟩
theorem Ev_un {e : Expr} {op : UnaryOp} {p : Pos} {a d : D} (he : Ev Y n nm σ e a) (ho : Op1 Y n (unaryOp op) a d) : Ev Y n nm σ (.UnaryOp op e p) d := by
  intro A env k g s hA hE F
  refine wpAny_UnaryOp ((he A env k g s hA hE F).mono fun u s₁ h₁ => ?_)
  have F₁ := F.grows h₁.1
  exact (ho A _ s₁ u hA F₁.top F₁.leg h₁.2).mono fun y s₂ h₂ => post_trans h₁.1 h₂
theorem EvT_not {e : Expr} {p : Pos} {b : Bool} (he : EvT Y n nm σ e b) : EvT Y n nm σ (.UnaryOp .Not e p) (!b) := by
  intro A env k g s hA hE F
  exact wpAny_isTrue_Not ((he A env k g s hA hE F).mono fun c s₁ h₁ => ⟨h₁.1, by rw [h₁.2]⟩)
noncomputable def Truth (Y : Law) (n : Nat) (d : D) (b : Bool) : Prop :=
  ∀ (A : Around) (g : Gh) (s : Shared) (u : Value), AOk n A → TopOk Y g s.heap → Le g (Y.see s.heap) → Rep Y g d u → Tr Y A (truthy u) s (fun c s' => Kp Y s s' ∧ c = b)
theorem EvT_val {e : Expr} {d : D} {b : Bool} (he : Ev Y n nm σ e d) (ht : Truth Y n d b) (hs : ∀ env whole, isTrue e env whole = (do let v ← whole; standAt e.pos; holding [v] (truthy v))) : EvT Y n nm σ e b := by
  intro A env k g s hA hE F
  refine wpAny_isTrue_value ((he A env k g s hA hE F).mono fun u s₁ h₁ => ?_) (hs _ _)
  have F₁ := F.grows h₁.1
  exact (ht A _ s₁ u hA F₁.top F₁.leg h₁.2).mono fun c s₂ h₂ => ⟨keeps_trans h₁.1 h₂.1, h₂.2⟩
theorem EvT_and2 {x y : Expr} {p : Pos} {a b : Bool} (hx : EvT Y n nm σ x a) (hy : a = true → EvT Y n nm σ y b) : EvT Y n nm σ (.BoolOp .And [x, y] p) (a && b) := by
  intro A env k g s hA hE F
  refine wpAny_isTrue_BoolOp (wpAny_allTrue_And_cons ((hx A env k g s hA hE F).mono fun c s₁ h₁ => ?_))
  obtain ⟨K, rfl⟩ := h₁
  cases c with
  | false => exact ⟨K, rfl⟩
  | true =>
    refine wpAny_allTrue_And_cons ((hy rfl A env k _ s₁ hA hE (F.grows K)).mono fun c s₂ h₂ => ?_)
    obtain ⟨K₂, rfl⟩ := h₂
    cases c with
    | false => exact ⟨keeps_trans K K₂, rfl⟩
    | true => exact wpAny_allTrue_And_nil ⟨keeps_trans K K₂, rfl⟩
theorem EvT_or2 {x y : Expr} {p : Pos} {a b : Bool} (hx : EvT Y n nm σ x a) (hy : a = false → EvT Y n nm σ y b) : EvT Y n nm σ (.BoolOp .Or [x, y] p) (a || b) := by
  intro A env k g s hA hE F
  refine wpAny_isTrue_BoolOp (wpAny_allTrue_Or_cons ((hx A env k g s hA hE F).mono fun c s₁ h₁ => ?_))
  obtain ⟨K, rfl⟩ := h₁
  cases c with
  | true => exact ⟨K, rfl⟩
  | false =>
    refine wpAny_allTrue_Or_cons ((hy rfl A env k _ s₁ hA hE (F.grows K)).mono fun c s₂ h₂ => ?_)
    obtain ⟨K₂, rfl⟩ := h₂
    cases c with
    | true => exact ⟨keeps_trans K K₂, rfl⟩
    | false => exact wpAny_allTrue_Or_nil ⟨keeps_trans K K₂, rfl⟩
theorem Ev_if {t x y : Expr} {p : Pos} {b : Bool} {d : D} (ht : EvT Y n nm σ t b) (hx : b = true → Ev Y n nm σ x d) (hy : b = false → Ev Y n nm σ y d) : Ev Y n nm σ (.IfExp t x y p) d := by
  intro A env k g s hA hE F
  refine wpAny_IfExp ((ht A env k g s hA hE F).mono fun c s₁ h₁ => ?_)
  obtain ⟨K, rfl⟩ := h₁
  cases c with
  | true => exact ((hx rfl) A env k _ s₁ hA hE (F.grows K)).mono fun v s₂ h₂ => post_trans K h₂
  | false => exact ((hy rfl) A env k _ s₁ hA hE (F.grows K)).mono fun v s₂ h₂ => post_trans K h₂

theorem EvArgs_nil : EvArgs Y n nm σ [] [] := by
  intro A env k g s pos hA hE F
  exact wpAny_items_nil ⟨keeps_refl s, by simp [RepAll]⟩
theorem EvArgs_cons {e : Expr} {es : List Expr} {d : D} {ds : List D} (he : Ev Y n nm σ e d) (hes : EvArgs Y n nm σ es ds) (hs : ∀ env, starEach (e :: es) env = (false, eval e env) :: starEach es env) : EvArgs Y n nm σ (e :: es) (d :: ds) := by
  intro A env k g s pos hA hE F
  refine wpAny_items_cons ((he A env k g s hA hE F).mono fun v s₁ h₁ => ?_) (hs env)
  have F₁ := F.grows h₁.1
  refine (hes A env k _ s₁ pos hA hE F₁).mono fun vs s₂ h₂ => ?_
  refine ⟨keeps_trans h₁.1 h₂.1, ?_⟩
  simp only [RepAll]
  refine ⟨v, vs, rfl, ?_, ?_⟩
  · exact Rep.mono ((le_grow F₁.leg).trans (grow_trans (keeps_le h₁.1) (keeps_le h₂.1))) _ _ h₁.2
  · exact RepAll.mono (grow_trans (keeps_le h₁.1) (keeps_le h₂.1)) _ _ h₂.2

theorem RepAll.length {g : Gh} : ∀ {ds : List D} {vs : List Value}, RepAll Y g ds vs → vs.length = ds.length
  | [], vs, h => by simp only [RepAll] at h; subst h; rfl
  | d :: ds, vs, h => by
    simp only [RepAll] at h
    obtain ⟨v, r, rfl, _, h⟩ := h
    simp [RepAll.length h]

theorem post_list {g : Gh} {s : Shared} {ds : List D} {vs : List Value} {T : Nat} (l : Le g (Y.see s.heap)) (r : RepAll Y g ds vs) :
    Post Y g s (.list ds) (.ref s.heap.objs.size) { s with heap := s.heap.push { cls := .type "list", data := .seq vs.toArray }, toks := T } := by
  refine ⟨keeps_push _ _ _, ?_⟩
  simp only [Rep]
  refine ⟨_, vs.toArray, rfl, ⟨0, grow_new (size_none _) (Heap.get?_push_size _ rfl) (.seq rfl)⟩, ?_⟩
  exact RepAll.mono (le_grow l) _ _ r
theorem post_tup {g : Gh} {s : Shared} {ds : List D} {vs : List Value} {T : Nat} (l : Le g (Y.see s.heap)) (r : RepAll Y g ds vs) :
    Post Y g s (.tup ds) (.ref s.heap.objs.size) { s with heap := s.heap.push { cls := .type "tuple", data := .seq vs.toArray }, toks := T } := by
  refine ⟨keeps_push _ _ _, ?_⟩
  simp only [Rep]
  refine ⟨_, vs.toArray, rfl, ⟨0, grow_new (size_none _) (Heap.get?_push_size _ rfl) (.seq rfl)⟩, ?_⟩
  exact RepAll.mono (le_grow l) _ _ r

theorem Ev_list {es : List Expr} {ds : List D} {p : Pos} (h : EvArgs Y n nm σ es ds) (hz : ds.length ≤ 1000) : Ev Y n nm σ (.List es p) (.list ds) := by
  intro A env k g s hA hE F
  refine wpAny_List ((h A env k g s p hA hE F).mono fun vs s₁ h₁ => ⟨?_, ?_⟩)
  · rw [RepAll.length h₁.2]; exact Nat.le_trans hz (by decide)
  · exact post_trans h₁.1 (post_list (F.grows h₁.1).leg h₁.2)
theorem Ev_tup {es : List Expr} {ds : List D} {q : Nat} {p : Pos} (h : EvArgs Y n nm σ es ds) (hz : ds.length ≤ 1000) : Ev Y n nm σ (.Tuple es q p) (.tup ds) := by
  intro A env k g s hA hE F
  rw [arm_eval_Tuple]
  refine wpAny_bind (wpAny_standAt (wpAny_bind ((h A env k g s p hA hE F).mono fun vs s₁ h₁ => ?_)))
  refine wpAny_newTuple ?_ (by rw [RepAll.length h₁.2]; exact Nat.le_trans hz (by decide))
  exact post_trans h₁.1 (post_tup (F.grows h₁.1).leg h₁.2)

end Mine
end

section
open PySem
namespace Mine
variable {Y : Law} {n : Nat} {nm : Nm} {σ : Sto}

theorem op_add_int {a b : Int} : Op2 Y n (binaryOp .Add) (.int a) (.int b) (.int (a + b)) := by
  intro A g s u v hA _ hg ru rv
  simp only [Rep] at ru rv
  obtain ⟨t, rfl⟩ := ru; obtain ⟨t', rfl⟩ := rv
  exact PyProof.Rows.add_int (post_here hg (by simp [Rep]))
theorem op_sub_int {a b : Int} : Op2 Y n (binaryOp .Sub) (.int a) (.int b) (.int (a - b)) := by
  intro A g s u v hA _ hg ru rv
  simp only [Rep] at ru rv
  obtain ⟨t, rfl⟩ := ru; obtain ⟨t', rfl⟩ := rv
  exact PyProof.Rows.sub_int (post_here hg (by simp [Rep]))
theorem op_mod_int {a b : Int} (hb : b ≠ 0) : Op2 Y n (binaryOp .Mod) (.int a) (.int b) (.int (a.fmod b)) := by
  intro A g s u v hA _ hg ru rv
  simp only [Rep] at ru rv
  obtain ⟨t, rfl⟩ := ru; obtain ⟨t', rfl⟩ := rv
  exact PyProof.Rows.mod_int hb (post_here hg (by simp [Rep]))
theorem op_div_int {a b : Int} (hb : b ≠ 0) (hs : b.natAbs < 1073741824) : Op2 Y n (binaryOp .FloorDiv) (.int a) (.int b) (.int (a.fdiv b)) := by
  intro A g s u v hA _ hg ru rv
  simp only [Rep] at ru rv
  obtain ⟨t, rfl⟩ := ru; obtain ⟨t', rfl⟩ := rv
  exact PyProof.Rows.floordiv_int hb (post_here hg (by simp [Rep])) (Or.inl (PyProof.noPylong_small hs))
theorem op_pow_int {a b : Int} (hn : 0 ≤ b) (hsz : (Builtin.Int.intBits a : Int) * b ≤ 2 ^ 27) : Op2 Y n (binaryOp .Pow) (.int a) (.int b) (.int (a ^ b.toNat)) := by
  intro A g s u v hA _ hg ru rv
  simp only [Rep] at ru rv
  obtain ⟨t, rfl⟩ := ru; obtain ⟨t', rfl⟩ := rv
  exact PyProof.Rows.pow_int hn hsz (post_here hg (by simp [Rep]))
theorem op_shr_int {a b : Int} (hn : 0 ≤ b) : Op2 Y n (binaryOp .RShift) (.int a) (.int b) (.int (a.fdiv (2 ^ b.toNat))) := by
  intro A g s u v hA _ hg ru rv
  simp only [Rep] at ru rv
  obtain ⟨t, rfl⟩ := ru; obtain ⟨t', rfl⟩ := rv
  exact PyProof.Rows.rshift_int hn (post_here hg (by simp [Rep]))
theorem op_shl_int {a b : Int} (hn : 0 ≤ b) (hn2 : b ≤ 1000000) (ha : a.natAbs < 2 ^ 64) : Op2 Y n (binaryOp .LShift) (.int a) (.int b) (.int (a * 2 ^ b.toNat)) := by
  intro A g s u v hA _ hg ru rv
  simp only [Rep] at ru rv
  obtain ⟨t, rfl⟩ := ru; obtain ⟨t', rfl⟩ := rv
  exact PyProof.Rows.lshift_int_small hn hn2 ha (post_here hg (by simp [Rep]))
theorem op_and_int {a b : Int} : Op2 Y n (binaryOp .BitAnd) (.int a) (.int b) (.int (Builtin.bitAnd a b)) := by
  intro A g s u v hA _ hg ru rv
  simp only [Rep] at ru rv
  obtain ⟨t, rfl⟩ := ru; obtain ⟨t', rfl⟩ := rv
  exact PyProof.Rows.and_int (post_here hg (by simp [Rep]))
theorem op_neg_int {a : Int} : Op1 Y n (unaryOp .USub) (.int a) (.int (-a)) := by
  intro A g s u hA _ hg ru
  simp only [Rep] at ru
  obtain ⟨t, rfl⟩ := ru
  exact PyProof.Rows.neg_int (post_here hg (by simp [Rep]))

theorem op_eq_int {a b : Int} : Op2 Y n (compareOp .Eq) (.int a) (.int b) (.bool (a == b)) := by
  intro A g s u v hA _ hg ru rv
  simp only [Rep] at ru rv
  obtain ⟨t, rfl⟩ := ru; obtain ⟨t', rfl⟩ := rv
  exact PyProof.Rows.eq_int (post_self hg (by simp [Rep]))
theorem op_gt_int {a b : Int} : Op2 Y n (compareOp .Gt) (.int a) (.int b) (.bool (decide (b < a))) := by
  intro A g s u v hA _ hg ru rv
  simp only [Rep] at ru rv
  obtain ⟨t, rfl⟩ := ru; obtain ⟨t', rfl⟩ := rv
  exact PyProof.Rows.gt_int (post_self hg (by simp [Rep]))
theorem op_eq_str {a b : Str} : Op2 Y n (compareOp .Eq) (.str a) (.str b) (.bool (a == b)) := by
  intro A g s u v hA _ hg ru rv
  simp only [Rep] at ru rv
  obtain ⟨t, rfl⟩ := ru; obtain ⟨t', rfl⟩ := rv
  exact PyProof.Rows.eq_str (post_self hg (by simp [Rep]))
theorem op_add_str {x y : Str} (hz : x.length + y.length ≤ sizeLine) : Op2 Y n (binaryOp .Add) (.str x) (.str y) (.str (x ++ y)) := by
  intro A g s u v hA _ hg ru rv
  simp only [Rep] at ru rv
  obtain ⟨t, rfl⟩ := ru; obtain ⟨t', rfl⟩ := rv
  exact PyProof.Rows.add_str (fun t k => post_here hg (by simp [Rep])) hz
theorem op_mul_str {x : Str} {i : Int} (hz : MulOk x i) : Op2 Y n (binaryOp .Mult) (.str x) (.int i) (.str (Txt.mul x i)) := by
  intro A g s u v hA _ hg ru rv
  simp only [Rep] at ru rv
  obtain ⟨t, rfl⟩ := ru; obtain ⟨t', rfl⟩ := rv
  exact SB.mul hz (fun t k => post_here hg (by simp [Rep]))

theorem op_is_none_none : Op2 Y n (compareOp .Is) .none .none (.bool true) := by
  intro A g s u v hA _ hg ru rv
  simp only [Rep] at ru rv; subst ru rv
  exact wpAny_is_plain rfl (post_self hg (by simp [Rep]))
theorem op_is_int_none {i : Int} : Op2 Y n (compareOp .Is) (.int i) .none (.bool false) := by
  intro A g s u v hA _ hg ru rv
  simp only [Rep] at ru rv; subst rv; obtain ⟨t, rfl⟩ := ru
  exact wpAny_is_other rfl (by intro h; cases h) (post_self hg (by simp [Rep]))
theorem op_is_str_none {i : Str} : Op2 Y n (compareOp .Is) (.str i) .none (.bool false) := by
  intro A g s u v hA _ hg ru rv
  simp only [Rep] at ru rv; subst rv; obtain ⟨t, rfl⟩ := ru
  exact wpAny_is_other rfl (by intro h; cases h) (post_self hg (by simp [Rep]))
theorem op_isNot_none_none : Op2 Y n (compareOp .IsNot) .none .none (.bool false) := by
  intro A g s u v hA _ hg ru rv
  simp only [Rep] at ru rv; subst ru rv
  exact wpAny_isNot_plain rfl (post_self hg (by simp [Rep]))
theorem op_isNot_int_none {i : Int} : Op2 Y n (compareOp .IsNot) (.int i) .none (.bool true) := by
  intro A g s u v hA _ hg ru rv
  simp only [Rep] at ru rv; subst rv; obtain ⟨t, rfl⟩ := ru
  exact wpAny_isNot_other rfl (by intro h; cases h) (post_self hg (by simp [Rep]))
theorem op_isNot_bool {a b : Bool} : Op2 Y n (compareOp .IsNot) (.bool a) (.bool b) (.bool (a != b)) := by
  intro A g s u v hA _ hg ru rv
  simp only [Rep] at ru rv; subst ru rv
  refine wpAny_isNot_plain rfl (post_self hg ?_)
  simp only [Rep]
  cases a <;> cases b <;> rfl

theorem listG_heap {g : Gh} {h : Heap} {a : Addr} {its : Array Value} (l : Le g (Y.see h)) (x : IsListG g a its) : h.IsList a its := by
  obtain ⟨n, e⟩ := x
  exact ⟨_, see_raw (l _ _ e) (.seq rfl), rfl, n, rfl⟩
theorem tupG_heap {g : Gh} {h : Heap} {a : Addr} {its : Array Value} (l : Le g (Y.see h)) (x : IsTupG g a its) : h.IsTuple a its := by
  obtain ⟨n, e⟩ := x
  exact ⟨_, see_raw (l _ _ e) (.seq rfl), rfl, n, rfl⟩
theorem RepAll.append {g : Gh} : ∀ {xs ys : List D} {us vs : List Value}, RepAll Y g xs us → RepAll Y g ys vs → RepAll Y g (xs ++ ys) (us ++ vs)
  | [], ys, us, vs, h, h' => by simp only [RepAll] at h; subst h; exact h'
  | d :: xs, ys, us, vs, h, h' => by
    simp only [RepAll] at h
    obtain ⟨v, r, rfl, h1, h2⟩ := h
    show RepAll Y g (d :: (xs ++ ys)) (v :: (r ++ vs))
    simp only [RepAll]
    exact ⟨v, _, rfl, h1, RepAll.append h2 h'⟩
theorem RepAll.get {g : Gh} : ∀ {xs : List D} {us : List Value} {i : Nat} {d : D}, RepAll Y g xs us → xs[i]? = some d → ∃ u, us[i]? = some u ∧ Rep Y g d u
  | [], us, i, d, h, e => by simp at e
  | x :: xs, us, i, d, h, e => by
    simp only [RepAll] at h
    obtain ⟨v, r, rfl, h1, h2⟩ := h
    cases i with
    | zero => simp only [List.getElem?_cons_zero, Option.some.injEq] at e; subst e; exact ⟨v, rfl, h1⟩
    | succ i => simp only [List.getElem?_cons_succ] at e ⊢; exact RepAll.get h2 e
theorem RepAll.picks {g : Gh} {xs : List D} {us : List Value} (h : RepAll Y g xs us) : ∀ ps : List Nat, RepAll Y g (ps.filterMap (xs[·]?)) (ps.filterMap (us[·]?))
  | [] => by simp [RepAll]
  | p :: ps => by
    have ih := RepAll.picks h ps
    cases e : xs[p]? with
    | none =>
      have e' : us[p]? = none := by
        have := RepAll.length h
        rw [List.getElem?_eq_none_iff] at e ⊢; omega
      rw [List.filterMap_cons_none e, List.filterMap_cons_none e']; exact ih
    | some d =>
      obtain ⟨u, e', r⟩ := RepAll.get h e
      rw [List.filterMap_cons_some e, List.filterMap_cons_some e']
      simp only [RepAll]
      exact ⟨u, _, rfl, r, ih⟩

theorem op_add_list {xs ys : List D} (hz : xs.length + ys.length ≤ 1000) : Op2 Y n (binaryOp .Add) (.list xs) (.list ys) (.list (xs ++ ys)) := by
  intro A g s u v hA _ hg ru rv
  simp only [Rep] at ru rv
  obtain ⟨a, its, rfl, ⟨i, ea⟩, ra⟩ := ru; obtain ⟨b, its', rfl, ⟨j, eb⟩, rb⟩ := rv
  have za := RepAll.length ra
  have zb := RepAll.length rb
  refine P.add_list (see_raw (hg _ _ ea) (.seq rfl)) (see_raw (hg _ _ eb) (.seq rfl)) ?_ (by rw [Array.length_toList] at za zb; rw [za, zb]; exact Nat.le_trans hz (by decide))
  have := post_list (T := s.toks) hg (RepAll.append ra rb)
  have e : (its.toList ++ its'.toList).toArray = its ++ its' := Array.ext' (by simp)
  rw [e] at this
  exact this

theorem flat_rep (k : Nat) (l : List Value) : (List.foldl (fun x1 x2 => x1 ++ x2) #[] (List.replicate k l.toArray)) = ((List.replicate k l).flatten).toArray := by
  have : ∀ (acc : Array Value), (List.foldl (fun x1 x2 => x1 ++ x2) acc (List.replicate k l.toArray)) = acc ++ ((List.replicate k l).flatten).toArray := by
    induction k with
    | zero => intro acc; simp
    | succ k ih => intro acc; rw [List.replicate_succ, List.foldl_cons, ih, List.replicate_succ, List.flatten_cons]; simp [Array.append_assoc]
  rw [this]; simp
theorem RepAll.reps {g : Gh} {xs : List D} {us : List Value} (h : RepAll Y g xs us) : ∀ k : Nat, RepAll Y g (List.replicate k xs).flatten (List.replicate k us).flatten
  | 0 => by simp [RepAll]
  | k + 1 => by rw [List.replicate_succ, List.replicate_succ, List.flatten_cons, List.flatten_cons]; exact RepAll.append h (RepAll.reps h k)

theorem op_mul_list {xs : List D} {i : Int} (h0 : 0 ≤ i) (h1 : i ≤ 100) (hx : xs ≠ []) (hz : xs.length ≤ 1000) : Op2 Y n (binaryOp .Mult) (.list xs) (.int i) (.list (List.replicate i.toNat xs).flatten) := by
  intro A g s u v hA _ hg ru rv
  simp only [Rep] at ru rv
  obtain ⟨a, its, rfl, ⟨j, ea⟩, ra⟩ := ru; obtain ⟨t, rfl⟩ := rv
  have za := RepAll.length ra
  rw [Array.length_toList] at za
  have hl := see_raw (hg _ _ ea) (.seq rfl)
  have hsz : its.size * i.toNat ≤ 2 ^ 24 := by
    have : its.size * i.toNat ≤ 1000 * 100 := Nat.mul_le_mul (by omega) (by omega)
    omega
  have hne : its.isEmpty = false := by
    cases hq : its.isEmpty with
    | false => rfl
    | true => simp at hq; subst hq; simp at za; exact absurd (List.length_eq_zero_iff.mp za.symm) hx
  refine wpAny_binaryOp_repeat_ref (T := "list") (U := "int") (by decide) ⟨_, hl, rfl⟩ (fun s' => typeIs_int s' i t) noFill_list_mul F.fills_int_mul F.slot_int_rmul repeat_list F.slot_int_index.lookup
    (call_meets F.slot_int_rmul (typeIs_int s i t) F.entry_int_rmul (F.args_int_rmul_2 _ _) (int___rmul___int_list i t a its j)
      ⟨hl, rfl, ⟨_, hl, rfl⟩, call_meets F.slot_list_mul ⟨_, hl, rfl⟩ F.entry_list_mul (F.args_list_mul_2 _ _)
        (AutoListH.list___mul___list_int_3 a its j i t (by simp [Builtin.List.listFitsIndex]; omega) (by omega) (by simp [Builtin.List.listTooLong, sizeLine]; omega))
        ⟨hl, ?_⟩⟩)
  have := post_list (T := s.toks) hg (RepAll.reps ra i.toNat)
  rw [hne]
  simp only [Bool.false_eq_true, if_false]
  have e : its = its.toList.toArray := by simp
  rw [e, flat_rep]
  exact this

mutual
noncomputable def Plain : D → Bool
  | .none => true
  | .bool _ => true
  | .int _ => true
  | .str _ => true
  | .list xs => PlainAll xs
  | _ => false
noncomputable def PlainAll : List D → Bool
  | [] => true
  | d :: ds => Plain d && PlainAll ds
end
mutual
noncomputable def deep : D → Nat
  | .list xs => deepAll xs + 1
  | _ => 0
noncomputable def deepAll : List D → Nat
  | [] => 0
  | d :: ds => max (deep d) (deepAll ds)
end

open SeqAt in
mutual
theorem eqAt_same : ∀ (d : D) (A : Around) (g : Gh) (s : Shared) (u v : Value), Plain d = true → Le g (Y.see s.heap) → A.units + deep d + 1 < cLine → Rep Y g d u → Rep Y g d v → EqAt A s u v true
  | .none, A, g, s, u, v, hp, hg, hu, ru, rv => by
    simp only [Rep] at ru rv; subst ru rv; exact EqAt.same _
  | .bool b, A, g, s, u, v, hp, hg, hu, ru, rv => by
    simp only [Rep] at ru rv; subst ru rv; exact EqAt.same _
  | .int i, A, g, s, u, v, hp, hg, hu, ru, rv => by
    simp only [Rep] at ru rv
    obtain ⟨t, rfl⟩ := ru; obtain ⟨t', rfl⟩ := rv
    have := EqAt.int_int (A := A) (s := s) i t i t'
    rwa [beq_self_eq_true] at this
  | .str x, A, g, s, u, v, hp, hg, hu, ru, rv => by
    simp only [Rep] at ru rv
    obtain ⟨t, rfl⟩ := ru; obtain ⟨t', rfl⟩ := rv
    have := EqAt.str_str (A := A) (s := s) x t x t'
    rwa [beq_self_eq_true] at this
  | .list xs, A, g, s, u, v, hp, hg, hu, ru, rv => by
    simp only [Rep] at ru rv
    obtain ⟨a, its, rfl, la, ra⟩ := ru; obtain ⟨b, its', rfl, lb, rb⟩ := rv
    by_cases hab : a = b
    · subst hab; exact EqAt.same _
    · have za := RepAll.length ra
      have zb := RepAll.length rb
      rw [Array.length_toList] at za zb
      simp only [Plain] at hp
      have := RcAt.lists (A := A) (s := s) (e := fun _ => true) (listG_heap hg la) (listG_heap hg lb) (by omega) (by omega) (fun j h1 h2 => by
        have h3 := eqAt_sames xs A.in1 g s its.toList its'.toList hp hg (by simp only [deep] at hu; simp only [Around.in1_units]; omega) ra rb j its[j] its'[j] (by simp [h1]) (by simp [h2])
        exact h3)
      have e : ((List.range its.size).all fun _ => true) = true := by simp
      rw [e] at this
      exact EqAt.of_refs hab this
  | .tup _, A, g, s, u, v, hp, hg, hu, ru, rv => by simp [Plain] at hp
  | .ent .., A, g, s, u, v, hp, hg, hu, ru, rv => by simp [Plain] at hp
  | .rule .., A, g, s, u, v, hp, hg, hu, ru, rv => by simp [Plain] at hp
  | .dict .., A, g, s, u, v, hp, hg, hu, ru, rv => by simp [Plain] at hp
  | .raw _, A, g, s, u, v, hp, hg, hu, ru, rv => by simp [Plain] at hp
theorem eqAt_sames : ∀ (ds : List D) (A : Around) (g : Gh) (s : Shared) (us vs : List Value), PlainAll ds = true → Le g (Y.see s.heap) → A.units + deepAll ds + 1 < cLine → RepAll Y g ds us → RepAll Y g ds vs →
    ∀ (j : Nat) (u v : Value), us[j]? = some u → vs[j]? = some v → EqAt A s u v true
  | [], A, g, s, us, vs, hp, hg, hu, ru, rv, j, u, v, eu, ev => by simp only [RepAll] at ru; subst ru; simp at eu
  | d :: ds, A, g, s, us, vs, hp, hg, hu, ru, rv, j, u, v, eu, ev => by
    simp only [RepAll] at ru rv
    obtain ⟨u', ru', rfl, h1, h2⟩ := ru
    obtain ⟨v', rv', rfl, h3, h4⟩ := rv
    simp only [PlainAll, Bool.and_eq_true] at hp
    simp only [deepAll] at hu
    cases j with
    | zero =>
      simp only [List.getElem?_cons_zero, Option.some.injEq] at eu ev
      subst eu ev
      exact eqAt_same d A g s _ _ hp.1 hg (by omega) h1 h3
    | succ j =>
      simp only [List.getElem?_cons_succ] at eu ev
      exact eqAt_sames ds A g s _ _ hp.2 hg (by omega) h2 h4 j u v eu ev
end

theorem op_eq_list_same {xs : List D} (hp : PlainAll xs = true) (hd : deepAll xs ≤ 100) : Op2 Y n (compareOp .Eq) (.list xs) (.list xs) (.bool true) := by
  intro A g s u v hA _ hg ru rv
  simp only [Rep] at ru rv
  obtain ⟨a, its, rfl, la, ra⟩ := ru; obtain ⟨b, its', rfl, lb, rb⟩ := rv
  have za := RepAll.length ra
  have zb := RepAll.length rb
  rw [Array.length_toList] at za zb
  have hu := hA.2.2.1
  have hc : cLine = 9900 := rfl
  refine SeqAt.eq_listAt (e := fun _ => true) (listG_heap hg la) (listG_heap hg lb) (by omega) (by omega) (fun j h1 h2 =>
    eqAt_sames xs A.in1 g s its.toList its'.toList hp hg (by simp only [Around.in1_units]; omega) ra rb j its[j] its'[j] (by simp [h1]) (by simp [h2])) (post_self hg ?_)
  simp [Rep]
theorem op_ne_list_same {xs : List D} (hp : PlainAll xs = true) (hd : deepAll xs ≤ 100) : Op2 Y n (compareOp .NotEq) (.list xs) (.list xs) (.bool false) := by
  intro A g s u v hA _ hg ru rv
  simp only [Rep] at ru rv
  obtain ⟨a, its, rfl, la, ra⟩ := ru; obtain ⟨b, its', rfl, lb, rb⟩ := rv
  have za := RepAll.length ra
  have zb := RepAll.length rb
  rw [Array.length_toList] at za zb
  have hu := hA.2.2.1
  have hc : cLine = 9900 := rfl
  refine SeqAt.RcNeAt.lists (A := A) (s := s) (e := fun _ => true) (listG_heap hg la) (listG_heap hg lb) (by omega) (by omega) (fun j h1 h2 =>
    eqAt_sames xs A.in1 g s its.toList its'.toList hp hg (by simp only [Around.in1_units]; omega) ra rb j its[j] its'[j] (by simp [h1]) (by simp [h2])) _ _ _ _ (post_self hg ?_)
  simp [Rep]
theorem op_eq_list_nil {x : D} {xs : List D} : Op2 Y n (compareOp .Eq) (.list (x :: xs)) (.list []) (.bool false) := by
  intro A g s u v hA _ hg ru rv
  simp only [Rep] at ru rv
  obtain ⟨a, its, rfl, la, ra⟩ := ru; obtain ⟨b, its', rfl, lb, rb⟩ := rv
  have za := RepAll.length ra
  have zb := RepAll.length rb
  rw [Array.length_toList] at za zb
  have hu := hA.2.2.1
  have hc : cLine = 9900 := rfl
  exact SeqAt.eq_list_lengthsAt (listG_heap hg la) (listG_heap hg lb) (by simp only [List.length_cons, List.length_nil] at za zb; simp only [bne_iff_ne, ne_eq]; omega) (by omega) (post_self hg (by simp [Rep]))

noncomputable def isText : D → Bool
  | .str _ => true
  | .none => true
  | _ => false
noncomputable def sameText : D → D → Bool
  | .str x, .str y => x == y
  | .none, .none => true
  | _, _ => false
noncomputable def eqText (d : D) (v : Value) : Bool := match d, v with
  | .str x, .str y _ => y == x
  | .none, .none => true
  | _, _ => false
open SeqAt in
theorem eqText_at {A : Around} {g : Gh} {s : Shared} {d e : D} {u v : Value} (hd : isText d = true) (he : isText e = true) (ru : Rep Y g d u) (rv : Rep Y g e v) : EqAt A s v u (eqText d v) ∧ eqText d v = sameText e d := by
  cases d <;> simp only [isText] at hd <;> try (exact absurd hd (by decide))
  · simp only [Rep] at ru; subst ru
    cases e <;> simp only [isText] at he <;> try (exact absurd he (by decide))
    · simp only [Rep] at rv; subst rv; exact ⟨EqAt.same _, rfl⟩
    · simp only [Rep] at rv; obtain ⟨t, rfl⟩ := rv; exact ⟨EqAt.str_none _ _, rfl⟩
  · simp only [Rep] at ru; obtain ⟨t', rfl⟩ := ru
    cases e <;> simp only [isText] at he <;> try (exact absurd he (by decide))
    · simp only [Rep] at rv; subst rv; exact ⟨EqAt.none_str _ _, rfl⟩
    · simp only [Rep] at rv; obtain ⟨t, rfl⟩ := rv; exact ⟨EqAt.str_str _ _ _ _, rfl⟩

theorem anyText {A : Around} {g : Gh} {s : Shared} {d : D} {u : Value} (hd : isText d = true) (ru : Rep Y g d u) : ∀ {xs : List D} {vs : List Value}, xs.all isText = true → RepAll Y g xs vs →
    (∀ v ∈ vs, SeqAt.EqAt A s v u (eqText d v)) ∧ vs.any (eqText d) = xs.any (sameText · d)
  | [], vs, hx, rv => by simp only [RepAll] at rv; subst rv; simp
  | x :: xs, vs, hx, rv => by
    simp only [RepAll] at rv
    obtain ⟨v, r, rfl, h1, h2⟩ := rv
    simp only [List.all_cons, Bool.and_eq_true] at hx
    obtain ⟨ih1, ih2⟩ := anyText (A := A) (s := s) hd ru hx.2 h2
    obtain ⟨a1, a2⟩ := eqText_at (A := A) (s := s) hd hx.1 ru h1
    refine ⟨fun w hw => ?_, ?_⟩
    · rcases List.mem_cons.mp hw with rfl | hw
      · exact a1
      · exact ih1 w hw
    · rw [List.any_cons, List.any_cons, ih2, a2]

theorem op_in_texts {xs : List D} {d : D} (hd : isText d = true) (hx : xs.all isText = true) : Op2 Y n (compareOp .In) d (.list xs) (.bool (xs.any (sameText · d))) := by
  intro A g s u v hA _ hg ru rv
  simp only [Rep] at rv
  obtain ⟨a, its, rfl, la, ra⟩ := rv
  obtain ⟨h1, h2⟩ := anyText (A := A.in1) (s := s) hd ru hx ra
  refine SeqAt.in_listAt (eqText d) (listG_heap hg la) (fun y hy => h1 y (by simpa using hy)) (post_self hg ?_)
  simp only [Rep]
  rw [← h2, Array.any_toList]
end Mine
end

section
open PySem
namespace Mine
variable {Y : Law} {n : Nat} {nm : Nm} {σ : Sto}

noncomputable def tyOf : D → String
  | .list _ => "list"
  | .tup _ => "tuple"
  | .str _ => "str"
  | .dict .. => "dict"
  | _ => "?"
theorem rep_type {g : Gh} {s : Shared} {d : D} {v : Value} (hg : Le g (Y.see s.heap)) (r : Rep Y g d v) (h : tyOf d ≠ "?") : s.TypeIs v (tyOf d) := by
  cases d <;> simp only [tyOf] at h <;> try exact absurd rfl h
  · simp only [Rep] at r; obtain ⟨t, rfl⟩ := r; rfl
  · simp only [Rep] at r; obtain ⟨a, its, rfl, ⟨i, e⟩, _⟩ := r; exact ⟨_, see_raw (hg _ _ e) (.seq rfl), rfl⟩
  · simp only [Rep] at r; obtain ⟨a, its, rfl, ⟨i, e⟩, _⟩ := r; exact ⟨_, see_raw (hg _ _ e) (.seq rfl), rfl⟩
  · simp only [Rep] at r; obtain ⟨a, es, i, rfl, e, _⟩ := r; exact ⟨_, see_raw (hg _ _ e) (.dict rfl), rfl⟩
theorem gets_type {d : D} (h : tyOf d = "list" ∨ tyOf d = "str" ∨ tyOf d = "dict") : ∃ id, typeLookup (.type (tyOf d)) "__getitem__" = pure (some (.builtin id)) := by
  rcases h with h | h | h <;> rw [h]
  · exact ⟨_, F.slot_list_getitem.lookup⟩
  · exact ⟨_, F.slot_str_getitem.lookup⟩
  · exact ⟨_, F.slot_dict_getitem.lookup⟩

theorem sub_core {A : Around} {env : Env} {s : Shared} {value slice : Expr} {pos : Pos} {Q : Value → Shared → Prop}
    (h : Tr Y A (eval value env) s (fun o s₁ => Tr Y A (eval slice env) s₁ (fun i s₂ => (∃ T id, typeLookup (.type T) "__getitem__" = pure (some (.builtin id)) ∧ s₂.TypeIs o T) ∧ Tr Y A (getItem o i) s₂ Q)))
    (hs : (∀ o i, subscripted slice false o i = operate [o, i] (getItem o i)) ∨ ∀ o i, subscripted slice false o i = operate [i, o] (getItem o i)) :
    Tr Y A (eval (.Subscript value slice pos) env) s Q := by
  rw [arm_eval_Subscript]
  refine wpAny_bind (h.mono fun o s₁ h₁ => wpAny_bind (wpAny_holding (h₁.mono fun i s₂ h₂ => wpAny_bind (wpAny_standAt ?_))))
  obtain ⟨⟨T, id, hl, hT⟩, hq⟩ := h₂
  refine wpAny_bind ?_
  rw [getitemInPython_of_ne hT.not_modules]
  refine wpAny_bind (wpAny_specialOf hT hl (wpAny_pure (wpAny_bind ?_)))
  rcases hs with hs | hs
  · rw [hs]
    exact wpAny_operating (hq.mono fun r s₃ h₃ => wpAny_bind (wpAny_letTemporaryGo (wpAny_pure h₃)))
  · rw [hs]
    exact wpAny_operating (hq.mono fun r s₃ h₃ => wpAny_bind (wpAny_letTemporaryGo (wpAny_pure h₃)))

theorem Ev_sub {value slice : Expr} {p : Pos} {o i d : D} (hv : Ev Y n nm σ value o) (hi : Ev Y n nm σ slice i) (ho : Op2 Y n getItem o i d)
    (hs : ∀ o i, subscripted slice false o i = operate [o, i] (getItem o i)) (ht : tyOf o = "list" ∨ tyOf o = "str" ∨ tyOf o = "dict") : Ev Y n nm σ (.Subscript value slice p) d := by
  intro A env k g s hA hE F
  refine sub_core ((hv A env k g s hA hE F).mono fun u s₁ h₁ => ?_) (.inl hs)
  have F₁ := F.grows h₁.1
  refine (hi A env k _ s₁ hA hE F₁).mono fun v s₂ h₂ => ?_
  have F₂ := F₁.grows h₂.1
  have ru := Rep.mono (le_grow (h' := s₂.heap) F₁.leg) _ _ h₁.2
  obtain ⟨id, hid⟩ := gets_type ht
  refine ⟨⟨_, id, hid, rep_type F₂.leg ru (by rcases ht with h | h | h <;> rw [h] <;> decide)⟩, ?_⟩
  exact (ho A _ s₂ u v hA F₂.top F₂.leg ru h₂.2).mono fun y s₃ h₃ => post_trans h₁.1 (post_trans h₂.1 h₃)

theorem op_item {xs : List D} {i : Int} {d : D} (h0 : 0 ≤ i) (h1 : i < 1000000) (hd : xs[i.toNat]? = some d) : Op2 Y n getItem (.list xs) (.int i) d := by
  intro A g s u v hA _ hg ru rv
  simp only [Rep] at ru rv
  obtain ⟨a, its, rfl, la, ra⟩ := ru; obtain ⟨t, rfl⟩ := rv
  obtain ⟨x, hx, rx⟩ := RepAll.get ra hd
  exact wpAny_getItem_list (listG_heap hg la) h0 (by omega) (by simpa using hx) (post_self hg rx)
theorem op_item_neg {xs : List D} {i : Int} {d : D} (h0 : i < 0) (h1 : -(xs.length : Int) ≤ i) (h2 : -1000000 < i) (hd : xs[(i + xs.length).toNat]? = some d) : Op2 Y n getItem (.list xs) (.int i) d := by
  intro A g s u v hA _ hg ru rv
  simp only [Rep] at ru rv
  obtain ⟨a, its, rfl, la, ra⟩ := ru; obtain ⟨t, rfl⟩ := rv
  obtain ⟨x, hx, rx⟩ := RepAll.get ra hd
  have za := RepAll.length ra
  rw [Array.length_toList] at za
  exact wpAny_getItem_list_neg (listG_heap hg la) h0 (by rw [za]; exact h1) (by omega) (by rw [za]; simpa using hx) (post_self hg rx)
theorem op_char {x : Str} {i : Int} {c : Nat} (h0 : -1000000 < i) (h1 : i < 1000000) (hc : (seqIndex? i x.length).bind (x.cps[·]?) = some c) : Op2 Y n getItem (.str x) (.int i) (.str ⟨#[c]⟩) := by
  intro A g s u v hA _ hg ru rv
  simp only [Rep] at ru rv
  obtain ⟨t, rfl⟩ := ru; obtain ⟨t', rfl⟩ := rv
  exact PyProof.Rows.getItem_str (by simp only [Bool.or_eq_false_iff, decide_eq_false_iff_not]; omega) hc (post_here hg (by simp [Rep]))

noncomputable def EvPart (Y : Law) (n : Nat) (nm : Nm) (σ : Sto) (x : Option Expr) (p : Option Int) : Prop :=
  match x, p with
  | none, none => True
  | some e, some i => Ev Y n nm σ e (.int i)
  | _, _ => False
theorem EvPart_none : EvPart Y n nm σ none none := trivial
theorem EvPart_some {e : Expr} {i : Int} (h : Ev Y n nm σ e (.int i)) : EvPart Y n nm σ (some e) (some i) := h

noncomputable def isPartI (v : Value) (p : Option Int) : Prop := ∃ q : Option (Int × Tok), v = partValue q ∧ q.map (·.1) = p
theorem part_ok {x : Option Expr} {p : Option Int} (h : EvPart Y n nm σ x p) {A : Around} {env : Env} {k g : Gh} {s : Shared} (hA : AOk n A) (hE : EnvOk nm env) (F : Frm Y env k g σ s.heap) :
    Tr Y A (evalPart x env) s (fun v s' => Kp Y s s' ∧ isPartI v p) := by
  cases x with
  | none =>
    cases p with
    | none => exact wpAny_evalPart_none ⟨keeps_refl s, none, rfl, rfl⟩
    | some i => exact h.elim
  | some e =>
    cases p with
    | none => exact h.elim
    | some i =>
      refine wpAny_evalPart_some ((h A env k g s hA hE F).mono fun v s' h' => ⟨h'.1, ?_⟩)
      have r := h'.2
      simp only [Rep] at r
      obtain ⟨t, rfl⟩ := r
      exact ⟨some (i, t), rfl, rfl⟩

noncomputable def lpick (xs : List D) (lo hi st : Option Int) : List D :=
  ((sliceRange (sliceBounds lo hi st xs.length).1 (sliceBounds lo hi st xs.length).2.1 (sliceBounds lo hi st xs.length).2.2).filterMap (xs[·]?))
noncomputable def spick (x : Str) (lo hi st : Option Int) : Str :=
  if (st.getD 1 == 1 && (Builtin.Str.strSliceIndices lo hi (st.getD 1) x.length).length == x.length) = true then x else ⟨((Builtin.Str.strSliceIndices lo hi (st.getD 1) x.length).filterMap (x.cps[·]?)).toArray⟩

theorem isPart_of {v : Value} {p : Option Int} (h : isPartI v p) : IsPart v p := by
  obtain ⟨q, rfl, rfl⟩ := h
  cases q with
  | none => exact .none
  | some q => exact .int _ _

theorem sub_slice {value : Expr} {lo hi st : Option Expr} {sp p : Pos} {o d : D} {l u t : Option Int} (hv : Ev Y n nm σ value o) (hl : EvPart Y n nm σ lo l) (hu : EvPart Y n nm σ hi u) (hst : EvPart Y n nm σ st t)
    (ht : tyOf o = "list" ∨ tyOf o = "str")
    (ho : ∀ (A : Around) (g : Gh) (s : Shared) (ov vl vu vs : Value) (sl : Addr), AOk n A → Le g (Y.see s.heap) → Rep Y g o ov → isPartI vl l → isPartI vu u → isPartI vs t → s.heap.get? sl = some { cls := .type "slice", data := .fields #[vl, vu, vs] } →
      Tr Y A (getItem ov (.ref sl)) s (Post Y g s d)) : Ev Y n nm σ (.Subscript value (.Slice lo hi st sp) p) d := by
  intro A env k g s hA hE F
  refine sub_core ((hv A env k g s hA hE F).mono fun ov s₁ h₁ => ?_) (by cases st with | none => exact .inr fun _ _ => rfl | some e => exact .inl fun _ _ => rfl)
  have F₁ := F.grows h₁.1
  refine wpAny_Slice ((part_ok hl hA hE F₁).mono fun vl s₂ h₂ => (part_ok hu hA hE (F₁.grows h₂.1)).mono fun vu s₃ h₃ => (part_ok hst hA hE ((F₁.grows h₂.1).grows h₃.1)).mono fun vs s₄ h₄ => ?_)
  have K2 := keeps_trans h₂.1 (keeps_trans h₃.1 h₄.1)
  have K3 := keeps_trans K2 (keeps_push s₄ { cls := .type "slice", data := .fields #[vl, vu, vs] } s₄.toks)
  have F₅ := F₁.grows K3
  have ru := Rep.mono (le_grow (h' := (s₄.heap.push { cls := .type "slice", data := .fields #[vl, vu, vs] })) F₁.leg) _ _ h₁.2
  obtain ⟨id, hid⟩ := gets_type (d := o) (by rcases ht with h | h <;> simp [h])
  refine ⟨⟨_, id, hid, rep_type F₅.leg ru (by rcases ht with h | h <;> rw [h] <;> decide)⟩, ?_⟩
  refine (ho A _ _ ov vl vu vs _ hA F₅.leg ru h₂.2 h₃.2 h₄.2 (Heap.get?_push_size _ rfl)).mono fun y s₆ h₆ => ?_
  exact post_trans h₁.1 (post_trans K3 h₆)

theorem Ev_slice_list {value : Expr} {lo hi st : Option Expr} {sp p : Pos} {xs : List D} {l u t : Option Int} (hv : Ev Y n nm σ value (.list xs)) (hl : EvPart Y n nm σ lo l) (hu : EvPart Y n nm σ hi u) (hst : EvPart Y n nm σ st t)
    (h0 : t ≠ some 0) (hz : xs.length ≤ 100000) : Ev Y n nm σ (.Subscript value (.Slice lo hi st sp) p) (.list (lpick xs l u t)) := by
  refine sub_slice hv hl hu hst (.inl rfl) ?_
  intro A g s ov vl vu vs sl hA hg ro pl pu ps hs
  simp only [Rep] at ro
  obtain ⟨a, its, rfl, la, ra⟩ := ro
  have za := RepAll.length ra
  rw [Array.length_toList] at za
  refine wpAny_getItem_list_slice (listG_heap hg la) ⟨_, hs, rfl, rfl⟩ (isPart_of pl) (isPart_of pu) (isPart_of ps) h0 ?_ (by rw [za]; exact Nat.le_trans hz (by decide))
  have := post_list (T := s.toks) hg (RepAll.picks ra (sliceRange (sliceBounds l u t xs.length).1 (sliceBounds l u t xs.length).2.1 (sliceBounds l u t xs.length).2.2))
  unfold slicePick lpick
  rw [za]
  simpa using this

theorem Ev_slice_str {value : Expr} {lo hi st : Option Expr} {sp p : Pos} {x : Str} {l u t : Option Int} (hv : Ev Y n nm σ value (.str x)) (hl : EvPart Y n nm σ lo l) (hu : EvPart Y n nm σ hi u) (hst : EvPart Y n nm σ st t)
    (h0 : t ≠ some 0) (hz : (spick x l u t).length ≤ sizeLine) : Ev Y n nm σ (.Subscript value (.Slice lo hi st sp) p) (.str (spick x l u t)) := by
  refine sub_slice hv hl hu hst (.inr rfl) ?_
  intro A g s ov vl vu vs sl hA hg ro pl pu ps hs
  simp only [Rep] at ro
  obtain ⟨tk, rfl⟩ := ro
  obtain ⟨q1, rfl, rfl⟩ := pl
  obtain ⟨q2, rfl, rfl⟩ := pu
  obtain ⟨q3, rfl, rfl⟩ := ps
  refine wpAny_getItem_str_slice (l := q1) (u := q2) (st := q3) ⟨_, hs, rfl, rfl⟩ (by cases q3 with | none => rfl | some q => simp only [Option.map_some, ne_eq, Option.some.injEq] at h0; simpa using h0) ?_
  unfold sliceMade slicePicked
  unfold spick at hz
  split
  · rename_i hc
    refine post_self hg ?_
    simp only [Rep]
    refine ⟨tk, ?_⟩
    unfold spick
    rw [if_pos hc]
  · rename_i hc
    rw [if_neg hc] at hz
    refine ⟨hz, post_here hg ?_⟩
    simp only [Rep]
    refine ⟨s.toks, ?_⟩
    unfold spick
    rw [if_neg hc]

inductive Callee (Y : Law) : Value → Prop
  | builtin (id : String) : Callee Y (.builtin id)
  | type (T : String) : Callee Y (.type T)
  | fn (a : Addr) (o : Obj) (fd : FuncData) : Y.top a = some o → o.data = .func fd → Callee Y (.ref a)

theorem starPlain_of {es : List Expr} {env : Env} {pos : Pos} (h : ∀ env, (starEach es env).any (·.1) = false) : (backTo pos (starEach es env)).any (·.1) = false := by
  unfold backTo
  rw [List.any_map]
  exact h env

theorem evalArgs_ok {f : Value} {ts : List (Bool × Sem Value)} {A : Around} {s : Shared} {Q : Args → Shared → Prop} (hp : ts.any (·.1) = false)
    (h : Tr Y A (spliced ts) s (fun vs s' => Q ⟨vs, []⟩ s')) : Tr Y A (evalArgs f true ts []) s Q := by
  cases ts with
  | nil =>
    intro Γ p hΓ
    exact evalArgs_none (h Γ p hΓ) Γ p hΓ
  | cons t r =>
    obtain ⟨b, t⟩ := t
    simp only [List.any_cons, Bool.or_eq_false_iff] at hp
    obtain ⟨rfl, _⟩ := hp
    exact Calls.evalArgs_plain h


theorem callWith_ok {f : Value} {pos : Pos} {es : List Expr} {first : List Value} {env : Env} {A : Around} {s : Shared} {Q : Value → Shared → Prop} (hc : Callee Y f) (hp : ∀ env, (starEach es env).any (·.1) = false)
    (h : Tr Y A (spliced (backTo pos (starEach es env))) s (fun vs s' => Le Y.top s'.heap.get? ∧ Tr Y A (call f (first ++ vs)) s' Q)) :
    Tr Y A (callWith pos f first (backTo pos (starEach es env)) []) s Q := by
  have hp' := starPlain_of (pos := pos) (env := env) hp
  cases hc with
  | builtin id => exact Calls.callWith_builtin hp' (evalArgs_ok hp' (h.mono fun vs s' h' => h'.2))
  | type T => exact callWith_type hp' (evalArgs_ok hp' (h.mono fun vs s' h' => h'.2))
  | fn a o fd e hd => exact Calls.callWith_function (o := o) (fd := fd) (evalArgs_ok hp' (h.mono fun vs s' h' => ⟨⟨h'.1 _ _ e, hd⟩, h'.2⟩))

theorem global_ok {x : Str} {p : Pos} {f : Value} {A : Around} {env : Env} {s : Shared} {Q : Value → Shared → Prop} (hE : EnvOk nm env) (hx : nm.lookup x = some .globalImplicit) (hf : Y.glo x = some f) (ht : Le Y.top s.heap.get?)
    (hd : (x == ("__debug__" : Str)) = false) (h : Q f s) : Tr Y A (eval (.Name x p) env) s Q := by
  refine wpAny_Name ?_ hd
  have hk : env.kindOf x = some .globalImplicit := by
    rcases hE.kinds _ _ hx with h | ⟨h, _⟩
    · exact h
    · cases h
  rw [PyProof.Rows.loadName_read hE.kind hk]
  obtain ⟨m, hm, hv | ⟨hn, mb, hmb, hv⟩⟩ := Y.gloOk s.heap ht x f hf
  · exact Calls.loadGlobal_global (by rw [hE.glob]; exact hm) hv h
  · exact Calls.loadGlobal_builtin (by rw [hE.glob]; exact hm) hn (by rw [hE.blt]; exact hmb) hv h

theorem Ev_call {x : Str} {np p : Pos} {es : List Expr} {ds : List D} {d : D} {f : Value} (hx : nm.lookup x = some .globalImplicit) (hf : Y.glo x = some f) (hd : (x == ("__debug__" : Str)) = false) (hc : Callee Y f)
    (hp : ∀ env, (starEach es env).any (·.1) = false) (ha : EvArgs Y n nm σ es ds) (hcall : CallD Y n f ds d) : Ev Y n nm σ (.Call (.Name x np) es [] p) d := by
  intro A env k g s hA hE F
  refine wpAny_Call_NameR (global_ok hE hx hf F.rawTop hd ?_)
  refine callWith_ok hc hp ((ha A env k g s p hA hE F).mono fun vs s₁ h₁ => ?_)
  have F₁ := F.grows h₁.1
  refine ⟨F₁.rawTop, ?_⟩
  exact (hcall A _ s₁ vs hA F₁.top F₁.leg h₁.2).mono fun v s₂ h₂ => post_trans h₁.1 h₂

noncomputable def MethD (Y : Law) (n : Nat) (o : D) (name : Str) (ds : List D) (d : D) : Prop :=
  ∃ T id, T = tyOf o ∧ T ≠ "?" ∧ PlainAttrs T ∧ Slot T name id ∧ typeOf (.builtin id) = pure (.type "method_descriptor") ∧ CallD Y n (.builtin id) (o :: ds) d

theorem Ev_meth {o : Expr} {name : Str} {ap p : Pos} {es : List Expr} {od : D} {ds : List D} {d : D} (ho : Ev Y n nm σ o od) (hp : ∀ env, (starEach es env).any (·.1) = false) (ha : EvArgs Y n nm σ es ds) (hm : MethD Y n od name ds d)
    (hbase : ∀ env, attributeBase o name env (eval o env) = eval o env)
    (hfew : ∀ env, ((backTo p (starEach es env)).all (fun x => !x.1) && (backToKw p (keywordEach [] env)).all (fun x => x.1.isSome)
      && decide (es.length + ([] : List Keyword).length + (if ([] : List Keyword).isEmpty then 0 else 1) < 30)) = true)
    (hline : (ap.endLine == p.line) = true) : Ev Y n nm σ (.Call (.Attribute o name ap) es [] p) d := by
  intro A env k g s hA hE F
  obtain ⟨T, id, rfl, hne, hpa, hsl, hty, hcall⟩ := hm
  refine wpAny_Call_method_lateS (hbase env) (hfew env) hline ((ho A env k g s hA hE F).mono fun ov s₁ h₁ => ?_)
  have F₁ := F.grows h₁.1
  refine ⟨_, id, hpa, hsl, hty, rep_type F₁.leg h₁.2 hne, ?_, ?_⟩
  · intro a e
    subst e
    have r := h₁.2
    cases od <;> simp only [tyOf] at hne <;> try exact absurd rfl hne
    · simp only [Rep] at r; obtain ⟨t, e⟩ := r; cases e
    · simp only [Rep] at r; obtain ⟨a', its, e, ⟨i, e'⟩, _⟩ := r; cases e; exact ⟨_, see_raw (F₁.leg _ _ e') (.seq rfl), rfl⟩
    · simp only [Rep] at r; obtain ⟨a', its, e, ⟨i, e'⟩, _⟩ := r; cases e; exact ⟨_, see_raw (F₁.leg _ _ e') (.seq rfl), rfl⟩
    · simp only [Rep] at r; obtain ⟨a', es, i, e, e', _⟩ := r; cases e; exact ⟨_, see_raw (F₁.leg _ _ e') (.dict rfl), rfl⟩
  · refine callWith_ok (.builtin id) hp ((ha A env k _ s₁ p hA hE F₁).mono fun vs s₂ h₂ => ?_)
    have F₂ := F₁.grows h₂.1
    refine ⟨F₂.rawTop, ?_⟩
    refine (hcall A _ s₂ (ov :: vs) hA F₂.top F₂.leg ?_).mono fun v s₃ h₃ => post_trans h₁.1 (post_trans h₂.1 h₃)
    simp only [RepAll]
    exact ⟨ov, vs, rfl, Rep.mono (le_grow F₁.leg) _ _ h₁.2, h₂.2⟩

theorem one_arg {g : Gh} {d : D} {vs : List Value} (h : RepAll Y g [d] vs) : ∃ v, vs = [v] ∧ Rep Y g d v := by
  simp only [RepAll] at h
  obtain ⟨v, r, rfl, h1, rfl⟩ := h
  exact ⟨v, rfl, h1⟩
theorem two_args {g : Gh} {d e : D} {vs : List Value} (h : RepAll Y g [d, e] vs) : ∃ v u, vs = [v, u] ∧ Rep Y g d v ∧ Rep Y g e u := by
  simp only [RepAll] at h
  obtain ⟨v, r, rfl, h1, u, r', rfl, h2, rfl⟩ := h
  exact ⟨v, u, rfl, h1, h2⟩

theorem call_len_l {xs : List D} (hz : xs.length ≤ 1000000) : CallD Y n (.builtin "len") [.list xs] (.int xs.length) := by
  intro A g s vs hA _ hg r
  obtain ⟨v, rfl, r1⟩ := one_arg r
  simp only [Rep] at r1
  obtain ⟨a, its, rfl, la, ra⟩ := r1
  have za := RepAll.length ra
  rw [Array.length_toList] at za
  refine Calls.call_len_list (listG_heap hg la) (by rw [za]; omega) (post_here hg ?_)
  simp only [Rep]
  exact ⟨_, by rw [za]⟩
theorem call_len_s {x : Str} (hz : x.length ≤ 1000000) : CallD Y n (.builtin "len") [.str x] (.int x.length) := by
  intro A g s vs hA _ hg r
  obtain ⟨v, rfl, r1⟩ := one_arg r
  simp only [Rep] at r1
  obtain ⟨t, rfl⟩ := r1
  exact PyProof.Rows.len_str (by omega) (post_here hg (by simp [Rep]))

theorem meth_startswith {x y : Str} : MethD Y n (.str x) "startswith" [.str y] (.bool (Txt.startswith x y)) := by
  refine ⟨"str", "str.startswith", rfl, by decide, F.plainAttrs_str, F.slot_str_startswith, F.type_str_startswith, ?_⟩
  intro A g s vs hA _ hg r
  obtain ⟨u, v, rfl, r1, r2⟩ := two_args r
  simp only [Rep] at r1 r2
  obtain ⟨t, rfl⟩ := r1; obtain ⟨t', rfl⟩ := r2
  exact SC.startswith (post_self hg (by simp [Rep]))
theorem texts_of {g : Gh} : ∀ {xs : List Str} {vs : List Value}, RepAll Y g (xs.map .str) vs → ∃ l : List (Str × Tok), vs = strValues l ∧ l.map (·.1) = xs
  | [], vs, h => by simp only [List.map_nil, RepAll] at h; subst h; exact ⟨[], rfl, rfl⟩
  | x :: xs, vs, h => by
    simp only [List.map_cons, RepAll, Rep] at h
    obtain ⟨v, r, rfl, ⟨t, rfl⟩, h2⟩ := h
    obtain ⟨l, rfl, rfl⟩ := texts_of h2
    exact ⟨(x, t) :: l, rfl, rfl⟩
theorem meth_join {x : Str} {ys : List Str} (hok : JoinOk x ys = true) : MethD Y n (.str x) "join" [.list (ys.map .str)] (.str (Txt.join x ys)) := by
  refine ⟨"str", "str.join", rfl, by decide, F.plainAttrs_str, F.slot_str_join, F.type_str_join, ?_⟩
  intro A g s vs hA _ hg r
  obtain ⟨u, v, rfl, r1, r2⟩ := two_args r
  simp only [Rep] at r1 r2
  obtain ⟨t, rfl⟩ := r1; obtain ⟨a, its, rfl, la, ra⟩ := r2
  obtain ⟨l, e, hl⟩ := texts_of ra
  have hl' : s.heap.IsList a (strValues l).toArray := by
    have := listG_heap hg la
    rw [← e]; simpa using this
  exact SC.join hl' hl hok (fun t k => post_here hg (by simp [Rep]))

theorem meth_index {xs : List Str} {x : Str} {j : Nat} (hj : j < xs.length) (hz : xs.length ≤ 1000) (hit : xs[j]? = some x) (hno : ∀ m, m < j → xs[m]? ≠ some x) : MethD Y n (.list (xs.map .str)) "index" [.str x] (.int j) := by
  refine ⟨"list", "list.index", rfl, by decide, F.plainAttrs_list, F.slot_list_index, F.type_list_index, ?_⟩
  intro A g s vs hA _ hg r
  obtain ⟨u, v, rfl, r1, r2⟩ := two_args r
  simp only [Rep] at r1 r2
  obtain ⟨t, rfl⟩ := r2; obtain ⟨a, its, rfl, ⟨i, la⟩, ra⟩ := r1
  obtain ⟨l, e, hl⟩ := texts_of ra
  have hsz : its.size = xs.length := by rw [← Array.length_toList, e, ← hl]; simp [strValues]
  have hat : ∀ (m : Nat) (hm : m < its.size), ∃ tk, its[m] = .str (xs[m]'(hsz ▸ hm)) tk := by
    intro m hm
    have h1 : its.toList[m]? = some its[m] := by simp [hm]
    rw [e] at h1
    have h2 : l[m]? = some (l[m]'(by rw [← hl] at hsz; simpa [hsz] using hm)) := by simp
    unfold strValues at h1
    rw [List.getElem?_map, h2] at h1
    simp only [Option.map_some, Option.some.injEq] at h1
    have h3 : xs[m]'(hsz ▸ hm) = (l[m]'(by rw [← hl] at hsz; simpa [hsz] using hm)).1 := by simp [← hl]
    exact ⟨(l[m]'(by rw [← hl] at hsz; simpa [hsz] using hm)).2, by rw [h3]; exact h1.symm⟩
  refine call_meets F.slot_list_index ⟨_, see_raw (hg _ _ la) (.seq rfl), rfl⟩ F.entry_list_index (F.args_list_index_2 _ _)
    (SeqAt.list_indexAt a its i none #[] (.str x t) (fun y => match y with | .str z _ => z == x | _ => false) j (by omega) (by omega) ?_ ?_) ⟨see_raw (hg _ _ la) (.seq rfl), ?_, ?_⟩
  · obtain ⟨tk, h⟩ := hat j (by omega)
    rw [h]
    have : xs[j] = x := by rw [List.getElem?_eq_getElem hj] at hit; exact Option.some.inj hit
    simp [this]
  · intro m hm hmj
    obtain ⟨tk, h⟩ := hat m hm
    rw [h]
    have h3 := hno m hmj
    rw [List.getElem?_eq_getElem (by omega)] at h3
    simp only [ne_eq, Option.some.injEq] at h3
    simpa using h3
  · intro y hy
    obtain ⟨m, hm, rfl⟩ := Array.mem_iff_getElem.mp hy
    obtain ⟨tk, h⟩ := hat m hm
    rw [h]
    exact SeqAt.EqAt.str_str _ _ _ _
  · exact post_here hg (by simp [Rep])

end Mine
end

section
open PySem
namespace Mine
variable {Y : Law} {n : Nat} {nm : Nm} {σ : Sto}

noncomputable def ShT (s s' : Shared) : Prop := ∃ h tk, s' = { s with heap := h, toks := tk }
theorem ShT.rfl {s : Shared} : ShT s s := ⟨s.heap, s.toks, by cases s; exact Eq.refl _⟩
theorem ShT.trans {a b c : Shared} (x : ShT a b) (y : ShT b c) : ShT a c := by
  obtain ⟨h, t, rfl⟩ := x; obtain ⟨h', t', rfl⟩ := y; exact ⟨h', t', Eq.refl _⟩
theorem keeps_sht {s s' : Shared} (K : Kp Y s s') : ShT s s' := let ⟨h, t, e, _⟩ := K; ⟨h, t, e⟩

noncomputable def MyAddr (nm : Nm) (env : Env) (b : Addr) : Prop := b = env.locals ∨ ∃ x, nm.lookup x = some .cell ∧ env.cells.lookup x = some b
theorem cell_kind {env : Env} {x : Str} (hE : EnvOk nm env) (h : nm.lookup x = some .cell) : env.kindOf x = some .cell := by
  rcases hE.kinds _ _ h with h | ⟨h, _⟩
  · exact h
  · cases h

theorem cell_ne {h : Heap} {a c : Addr} {m v} (x : h.Ns a m) (y : h.IsCell c v) : a ≠ c := by
  rintro rfl
  obtain ⟨o, es, ep, e, d, _⟩ := x
  obtain ⟨o', e', d'⟩ := y
  rw [e] at e'; cases e'; rw [d] at d'; cases d'
theorem plain_ne_ns {h : Heap} {a c : Addr} {m its} (x : h.Ns a m) (y : h.PlainList c its) : c ≠ a := by
  rintro rfl
  obtain ⟨o, es, ep, e, d, _⟩ := x
  obtain ⟨i, e'⟩ := y
  rw [e] at e'; cases e'; cases d
theorem plain_ne_cell {h : Heap} {a c : Addr} {v its} (x : h.IsCell a v) (y : h.PlainList c its) : c ≠ a := by
  rintro rfl
  obtain ⟨o, e, d⟩ := x
  obtain ⟨i, e'⟩ := y
  rw [e] at e'; cases e'; cases d

theorem lookup_inj : ∀ {cs : List (Str × Addr)} {x y : Str} {c : Addr}, (cs.Pairwise fun p q => p.2 ≠ q.2) → cs.lookup x = some c → cs.lookup y = some c → x = y
  | cs, x, y, c, hp, hx, hy => name_of_addr hp (mem_of_lookup hx) (mem_of_lookup hy)

noncomputable def Mine.Able (nm : Nm) (x : Str) : Prop := nm.lookup x = some .local ∨ nm.lookup x = some .cell
theorem store_okV {A : Around} {env : Env} {k g : Gh} {s : Shared} {x : Str} {v : Value} {sl : Sl} {Q : Unit → Shared → Prop} (hE : EnvOk nm env) (F : Frm Y env k g σ s.heap) (hx : Mine.Able nm x)
    (hs : SlRep Y k g s.heap sl v) (hown : ∀ ys a y zs, sl = .own ys → v = .ref a → σ.lookup y = some (.own zs) → VarIs env s.heap y (.ref a) → y = x)
    (h : ∀ s', ShT s s' → (∀ b, ¬ MyAddr nm env b → s'.heap.get? b = s.heap.get? b) → Frm Y env k g ((x, sl) :: σ) s'.heap → VarIs env s'.heap x v → (∀ y w, y ≠ x → VarIs env s.heap y w → VarIs env s'.heap y w) → Q () s') : Tr Y A (storeName env x v) s Q := by
  obtain ⟨m, hm⟩ := F.ns
  -- the frame, given how the heap turned
  have key : ∀ (h' : Heap) (B : Addr), MyAddr nm env B → Heap.SameBut B s.heap h' → (∃ m', h'.Ns env.locals m') → (∀ y c, env.kindOf y = some .cell → env.cells.lookup y = some c → ∃ w, h'.IsCell c w) →
      (∀ y c, env.kindOf y = some .free → env.cells.lookup y = some c → ∃ w, h'.IsCell c w) → VarIs env h' x v → (∀ y w, y ≠ x → VarIs env s.heap y w → VarIs env h' y w) → Frm Y env k g ((x, sl) :: σ) h' := by
    intro h' B hB hsb hns hcell hfree hvx hvo
    have hk : k B = none ∧ g B = none := by
      rcases hB with rfl | ⟨y, hy, hc⟩
      · exact ⟨F.kL, F.gL⟩
      · exact (F.cells y B (cell_kind hE hy) hc).2
    have hpl : ∀ a its, s.heap.PlainList a its → h'.PlainList a its := by
      intro a its hp
      have : a ≠ B := by
        rcases hB with rfl | ⟨y, hy, hc⟩
        · exact plain_ne_ns hm hp
        · obtain ⟨⟨w, hw⟩, _⟩ := F.cells y B (cell_kind hE hy) hc
          exact plain_ne_cell hw hp
      obtain ⟨i, e⟩ := hp
      exact ⟨i, (hsb.2 a this).trans e⟩
    have hsl : ∀ sl' w, SlRep Y k g s.heap sl' w → SlRep Y k g h' sl' w := by
      intro sl' w hw
      cases sl' with
      | val d => exact hw
      | own xs => obtain ⟨a, its, rfl, ka, ga, p, r⟩ := hw; exact ⟨a, its, rfl, ka, ga, hpl _ _ p, r⟩
    have hfix : ∀ o, s.heap.get? B = some o → ¬ Fixed o := fun o e hf => by
      obtain ⟨⟨vs, hf⟩, _⟩ := hf
      rcases hB with rfl | ⟨y, hy, hc⟩
      · obtain ⟨o', es, ep, e', d, _⟩ := hm
        rw [e] at e'; cases e'; rw [hf] at d; cases d
      · obtain ⟨⟨w, o', e', d⟩, _⟩ := F.cells y B (cell_kind hE hy) hc
        rw [e] at e'; cases e'; rw [hf] at d; cases d
    refine ⟨F.top.mono Le.rfl fun b o hf e => (hsb.2 b (fun hb => hfix o (hb ▸ e) hf)).trans e, ?_, ?_, hns, F.kL, F.gL, ?_, hfree, ?_, ?_⟩
    · intro a o e
      have : a ≠ B := by rintro rfl; rw [hk.1] at e; cases e
      exact see_same (fun o e => (hsb.2 a this).trans e) (F.lek _ _ e)
    · intro a o e
      have : a ≠ B := by rintro rfl; rw [hk.2] at e; cases e
      exact see_same (fun o e => (hsb.2 a this).trans e) (F.leg _ _ e)
    · intro y c hy hc
      exact ⟨hcell y c hy hc, (F.cells y c hy hc).2⟩
    · intro y sl' hy
      rw [List.lookup_cons] at hy
      cases hb : y == x with
      | true =>
        rw [hb] at hy; cases hy
        have : y = x := beq_iff_eq.mp hb
        subst this
        exact ⟨v, hvx, hsl _ _ hs⟩
      | false =>
        rw [hb] at hy
        obtain ⟨w, V, S⟩ := F.vars y sl' hy
        exact ⟨w, hvo y w (by simpa using hb) V, hsl _ _ S⟩
    · intro y z ys zs a hy hz Vy Vz
      have back : ∀ y w, y ≠ x → (∃ sl', σ.lookup y = some sl') → VarIs env h' y w → VarIs env s.heap y w := by
        intro y w hyx ⟨sl', hy'⟩ V
        obtain ⟨w', V', _⟩ := F.vars y sl' hy'
        have := VarIs.inj V (hvo y w' hyx V')
        subst this; exact V'
      rw [List.lookup_cons] at hy hz
      cases hby : y == x with
      | true =>
        have ey : y = x := beq_iff_eq.mp hby
        rw [hby] at hy; cases hy
        cases hbz : z == x with
        | true => rw [ey, beq_iff_eq.mp hbz]
        | false =>
          rw [hbz] at hz
          have hzx : z ≠ x := by simpa using hbz
          subst ey
          have ev := VarIs.inj Vy hvx
          exact (hown ys a z zs rfl ev.symm hz (back z _ hzx ⟨_, hz⟩ Vz)).symm
      | false =>
        rw [hby] at hy
        have hyx : y ≠ x := by simpa using hby
        cases hbz : z == x with
        | true =>
          have ez : z = x := beq_iff_eq.mp hbz
          rw [hbz] at hz; cases hz
          subst ez
          have ev := VarIs.inj Vz hvx
          exact hown zs a y ys rfl ev.symm hy (back y _ hyx ⟨_, hy⟩ Vy)
        | false =>
          rw [hbz] at hz
          have hzx : z ≠ x := by simpa using hbz
          exact F.own y z ys zs a hy hz (back y _ hyx ⟨_, hy⟩ Vy) (back z _ hzx ⟨_, hz⟩ Vz)
  rcases hx with hx | hx
  · have hx : env.kindOf x = some .local := by
      rcases hE.kinds _ _ hx with h | ⟨h, _⟩
      · exact h
      · cases h
    refine wpAny_storeName_local hx hm (fun h' hn' hsb => ?_) (by rw [hE.kind]; rfl)
    have hcl : ∀ c w, s.heap.IsCell c w → h'.IsCell c w := fun c w hw => hw.sameBut hsb (Ne.symm (cell_ne hm hw))
    have hvo : ∀ y w, y ≠ x → VarIs env s.heap y w → VarIs env h' y w := fun y w hyx V => by
      rcases V with ⟨a, m', b, c⟩ | ⟨a, c, b, d⟩
      · cases Ns.inj hm b
        exact .inl ⟨a, _, hn', by simp [hyx, c]⟩
      · exact .inr ⟨a, c, b, hcl _ _ d⟩
    refine h _ ⟨h', _, rfl⟩ (fun b hb => hsb.2 b (fun e => hb (.inl e))) (key h' env.locals (.inl rfl) hsb ⟨_, hn'⟩ (fun y c hy hc => ?_) (fun y c hy hc => let ⟨w, hw⟩ := F.frees y c hy hc; ⟨w, hcl _ _ hw⟩) (.inl ⟨hx, _, hn', by simp⟩) hvo) (.inl ⟨hx, _, hn', by simp⟩) hvo
    obtain ⟨⟨w, hw⟩, _⟩ := F.cells y c hy hc
    exact ⟨w, hcl _ _ hw⟩
  · have hxn := hx
    have hx : env.kindOf x = some .cell := cell_kind hE hx
    obtain ⟨c, hc⟩ := hE.clook x (.inl hx)
    obtain ⟨⟨w₀, hw₀⟩, _⟩ := F.cells x c hx hc
    refine wpAny_storeName_cell hE.kind hx hc hw₀ fun h' hc' hsb => ?_
    have hne := cell_ne hm hw₀
    have hvo : ∀ y w, y ≠ x → VarIs env s.heap y w → VarIs env h' y w := fun y w hyx V => by
      rcases V with ⟨a, m', b, d⟩ | ⟨a, c', b, d⟩
      · exact .inl ⟨a, m', b.sameBut hsb hne, d⟩
      · exact .inr ⟨a, c', b, d.sameBut hsb fun e => hyx (lookup_inj hE.apart b (e ▸ hc))⟩
    refine h _ ⟨h', _, rfl⟩ (fun b hb => hsb.2 b (fun e => hb (.inr ⟨x, hxn, e ▸ hc⟩))) (key h' c (.inr ⟨x, hxn, hc⟩) hsb ⟨m, hm.sameBut hsb hne⟩ (fun y c' hy hc'' => ?_) (fun y c' hy hc'' => ?_) (.inr ⟨.inl hx, c, hc, hc'⟩) hvo) (.inr ⟨.inl hx, c, hc, hc'⟩) hvo
    · by_cases e : c' = c
      · subst e; exact ⟨_, hc'⟩
      · obtain ⟨⟨w, hw⟩, _⟩ := F.cells y c' hy hc''
        exact ⟨w, hw.sameBut hsb e⟩
    · by_cases e : c' = c
      · subst e; exact ⟨_, hc'⟩
      · obtain ⟨w, hw⟩ := F.frees y c' hy hc''
        exact ⟨w, hw.sameBut hsb e⟩

theorem store_ok {A : Around} {env : Env} {k g : Gh} {s : Shared} {x : Str} {v : Value} {sl : Sl} {Q : Unit → Shared → Prop} (hE : EnvOk nm env) (F : Frm Y env k g σ s.heap) (hx : Mine.Able nm x)
    (hs : SlRep Y k g s.heap sl v) (hown : ∀ ys a y zs, sl = .own ys → v = .ref a → σ.lookup y = some (.own zs) → VarIs env s.heap y (.ref a) → y = x)
    (h : ∀ s', ShT s s' → (∀ b, ¬ MyAddr nm env b → s'.heap.get? b = s.heap.get? b) → Frm Y env k g ((x, sl) :: σ) s'.heap → Q () s') : Tr Y A (storeName env x v) s Q :=
  store_okV hE F hx hs hown fun s' a b c _ _ => h s' a b c

inductive Binds (nm : Nm) : Expr → D → List (Str × D) → Prop
  | name {x : Str} {p : Pos} {d : D} : Mine.Able nm x → Binds nm (.Name x p) d [(x, d)]
  | pair {x y : Str} {p q r : Pos} {i : Nat} {a b : D} : Mine.Able nm x → Mine.Able nm y → Binds nm (.Tuple [.Name x p, .Name y q] i r) (.tup [a, b]) [(x, a), (y, b)]

noncomputable def pushes (bs : List (Str × D)) (σ : Sto) : Sto := bs.foldl (fun σ b => (b.1, .val b.2) :: σ) σ

theorem assign_ok {A : Around} {env : Env} {k g : Gh} {s : Shared} {t : Expr} {d : D} {bs : List (Str × D)} {v : Value} {Q : Unit → Shared → Prop} (hA : A.handled = none) (hE : EnvOk nm env) (F : Frm Y env k g σ s.heap) (hb : Binds nm t d bs) (r : Rep Y g d v)
    (h : ∀ s', ShT s s' → (∀ b o, ¬ MyAddr nm env b → s.heap.get? b = some o → s'.heap.get? b = some o) → Frm Y env k g (pushes bs σ) s'.heap → Q () s') : Tr Y A (assign t env v) s Q := by
  cases hb with
  | name hx =>
    refine wpAny_assign_Name (store_ok hE F hx (sl := .val d) r (by intro _ _ _ _ h; cases h) fun s' hs hk F' => h s' hs (fun b o hb e => (hk b hb).trans e) F')
  | @pair x y p q rp i a b hx hy =>
    simp only [Rep, RepAll] at r
    obtain ⟨t, its, rfl, ht, u, r1, e1, ru, w, r2, rfl, rw_, rfl⟩ := r
    have e2 : its.toList = [u, w] := e1
    have hsz : its.size = 2 := by rw [← Array.length_toList, e2]; rfl
    refine wpAny_assign_Tuple hA (tupG_heap F.leg ht) (by rw [hsz]; rfl) rfl fun h' hext => ?_
    have hk : Le s.heap.get? h'.get? := fun b o e => hext b o (fun he => by rw [he, size_none] at e; cases e) e
    have K : Kp Y s { s with heap := h' } := keeps_same hk
    rw [e2]
    have F₁ : Frm Y env k g σ h' := by
      have F₂ := F.grows K
      refine ⟨F.top.mono Le.rfl (.of hk), F.lek.trans (see_le hk), F.leg.trans (see_le hk), F₂.ns, F.kL, F.gL, fun x c h1 h2 => ⟨(F₂.cells x c h1 h2).1, (F.cells x c h1 h2).2⟩, F₂.frees, fun x sl hx => ?_, F₂.own⟩
      obtain ⟨v, V, S⟩ := F.vars x sl hx
      exact ⟨v, V.le hk, SlRep.mono (see_le hk) Le.rfl (fun a o ga _ _ => ga) S⟩
    show Tr Y A (holding [w] (assign (.Name x p) env u) >>= fun _ => assignInOrder [assign (.Name y q) env] [w]) _ Q
    refine wpAny_bind (wpAny_holding (wpAny_assign_Name (store_ok (s := { s with heap := h' }) hE F₁ hx (sl := .val a) ru (by intro _ _ _ _ h; cases h) fun s₁ hs₁ hk₁ F₃ => ?_)))
    show Tr Y A (holding [] (assign (.Name y q) env w) >>= fun _ => assignInOrder [] []) _ Q
    refine wpAny_bind (wpAny_holding (wpAny_assign_Name (store_ok hE F₃ hy (sl := .val b) rw_ (by intro _ _ _ _ h; cases h) fun s₂ hs₂ hk₂ F₄ => ?_)))
    exact wpAny_pure (h s₂ (ShT.trans ⟨h', s.toks, rfl⟩ (hs₁.trans hs₂)) (fun b o hb e => (hk₂ b hb).trans ((hk₁ b hb).trans (hk _ _ e))) F₄)

end Mine
end

section
open PySem
namespace Mine
variable {Y : Law} {n : Nat} {nm : Nm} {σ : Sto}

noncomputable def FieldsAt (h : Heap) (b : Addr) : Prop := ∃ o vs, h.get? b = some o ∧ o.data = .fields vs ∧ o.cls ≠ .none ∧ ∀ q t, vs[1]? ≠ some (.str q t)
theorem fields_fix {h : Heap} {b : Addr} {o : Obj} (x : FieldsAt h b) (e : h.get? b = some o) (hf : Fixed o) : False := by
  obtain ⟨o', vs, e', d, c1, c2⟩ := x
  rw [e] at e'; cases e'
  rcases hf.2 with h | ⟨vs', q, t, d', h⟩
  · exact c1 h
  · rw [d] at d'; cases d'; exact c2 q t h
theorem fields_held {h : Heap} {b : Addr} {o : Obj} (x : FieldsAt h b) (e : h.get? b = some o) : Held Y b o := .no fun ⟨vs, q, t, d, hq⟩ => fields_fix x e ⟨⟨vs, d⟩, .inr ⟨vs, q, t, d, hq⟩⟩
theorem fields_ne_ns {h : Heap} {a b : Addr} {m} (x : h.Ns a m) (y : FieldsAt h b) : a ≠ b := by
  rintro rfl
  obtain ⟨o, es, ep, e, d, _⟩ := x
  obtain ⟨o', vs, e', d', _⟩ := y
  rw [e] at e'; cases e'; rw [d] at d'; cases d'
theorem fields_ne_cell {h : Heap} {a b : Addr} {v} (x : h.IsCell a v) (y : FieldsAt h b) : a ≠ b := by
  rintro rfl
  obtain ⟨o, e, d⟩ := x
  obtain ⟨o', vs, e', d', _⟩ := y
  rw [e] at e'; cases e'; rw [d] at d'; cases d'
theorem fields_ne_plain {h : Heap} {a b : Addr} {its} (x : h.PlainList a its) (y : FieldsAt h b) : a ≠ b := by
  rintro rfl
  obtain ⟨i, e⟩ := x
  obtain ⟨o', vs, e', d', _⟩ := y
  rw [e] at e'; cases e'; cases d'

noncomputable def Turns (wr : List Addr) (h h' : Heap) : Prop := ∀ b o, b ∉ wr → h.get? b = some o → h'.get? b = some o
theorem turns_grow {G : Gh} {h h' : Heap} {wr : List Addr} (ht : Turns wr h h') (hw : ∀ b ∈ wr, G b = none ∧ FieldsAt h b) (l : Le G (Y.see h)) : Le (grow Y G h h') (Y.see h') := fun a o e => by
  cases hh : h.get? a with
  | none => rw [grow_fresh hh] at e; exact e
  | some x =>
    by_cases hc : IsCode x ∧ a ≠ Y.tab
    · rw [grow_code hh hc.1 hc.2] at e; cases e
      refine see_ne hc.2 ▸ ht _ _ (fun hb => ?_) hh
      obtain ⟨vs, q, t, d, hq⟩ := hc.1
      exact fields_fix (hw _ hb).2 hh ⟨⟨vs, d⟩, .inr ⟨vs, q, t, d, hq⟩⟩
    · rw [grow_old hh hc] at e
      exact see_same (fun o e' => ht _ _ (fun hb => by rw [(hw _ hb).1] at e; cases e) e') (l _ _ e)

theorem Frm.move {env : Env} {k g g' : Gh} {h h' : Heap} {wr : List Addr} (F : Frm Y env k g σ h) (ht : Turns wr h h') (hw : ∀ b ∈ wr, k b = none ∧ g b = none ∧ FieldsAt h b) (hg : Le g g') (hg' : Le g' (Y.see h'))
    (hn : ∀ a o, h.get? a = some o → Held Y a o → g a = none → g' a = none) : Frm Y env k g' σ h' := by
  obtain ⟨m, hm⟩ := F.ns
  have hL : env.locals ∉ wr := fun hb => fields_ne_ns hm (hw _ hb).2.2 rfl
  have hns : ∀ m, h.Ns env.locals m → h'.Ns env.locals m := fun m hm => hm.at' fun o e => ht _ _ hL e
  have hcell : ∀ c v, h.IsCell c v → h'.IsCell c v := fun c v hv => by
    have hc : c ∉ wr := fun hb => fields_ne_cell hv (hw _ hb).2.2 rfl
    obtain ⟨o, e, d⟩ := hv
    exact ⟨o, ht _ _ hc e, d⟩
  have hpl : ∀ a its, h.PlainList a its → h'.PlainList a its := fun a its hp => by
    have hc : a ∉ wr := fun hb => fields_ne_plain hp (hw _ hb).2.2 rfl
    obtain ⟨i, e⟩ := hp
    exact ⟨i, ht _ _ hc e⟩
  have hV : ∀ x v, VarIs env h x v → VarIs env h' x v := fun x v V => by
    rcases V with ⟨a, m', b, c⟩ | ⟨a, c, b, d⟩
    · exact .inl ⟨a, m', hns _ b, c⟩
    · exact .inr ⟨a, c, b, hcell _ _ d⟩
  refine ⟨F.top.mono hg fun b o hf e => ht _ _ (fun hb => fields_fix (hw _ hb).2.2 e hf) e, ?_, hg', ⟨m, hns _ hm⟩, F.kL, ?_, ?_, fun x c h1 h2 => let ⟨v, hv⟩ := F.frees x c h1 h2; ⟨v, hcell _ _ hv⟩, ?_, ?_⟩
  · intro a o e
    exact see_same (fun o' e' => ht _ _ (fun hb => by rw [(hw _ hb).1] at e; cases e) e') (F.lek _ _ e)
  · obtain ⟨o, _, _, e, d, _⟩ := hm; exact hn _ _ e (.dict d) F.gL
  · intro x c h1 h2
    obtain ⟨⟨v, hv⟩, kc, gc⟩ := F.cells x c h1 h2
    refine ⟨⟨v, hcell _ _ hv⟩, kc, ?_⟩
    obtain ⟨o, e, d⟩ := hv; exact hn _ _ e (.cell d) gc
  · intro x sl hx
    obtain ⟨v, V, S⟩ := F.vars x sl hx
    refine ⟨v, hV _ _ V, ?_⟩
    cases sl with
    | val d => exact Rep.mono hg _ _ S
    | own xs =>
      obtain ⟨a, its, rfl, ka, ga, p, r⟩ := S
      refine ⟨a, its, rfl, ka, ?_, hpl _ _ p, RepAll.mono hg _ _ r⟩
      obtain ⟨i, e⟩ := p; exact hn _ _ e (.seq rfl) ga
  · intro x y xs ys a hx hy Vx Vy
    obtain ⟨vx, Vx', _⟩ := F.vars x _ hx
    obtain ⟨vy, Vy', _⟩ := F.vars y _ hy
    have e1 := VarIs.inj Vx (hV _ _ Vx')
    have e2 := VarIs.inj Vy (hV _ _ Vy')
    subst e1; subst e2
    exact F.own x y xs ys a hx hy Vx' Vy'

structure Wk (Y : Law) (A : Around) (I : Addr) (wr : List Addr) (tgt : Expr) (St : Gh → List D → Heap → Prop) : Prop where
  fields : ∀ g ds h, St g ds h → ∀ b ∈ wr, FieldsAt h b
  frame : ∀ g g' ds h h', St g ds h → Le g g' → Le g' (Y.see h') → (∀ b ∈ wr, ∀ o, h.get? b = some o → h'.get? b = some o) → St g' ds h'
  item : ∀ g d ds (s : Shared) (Q : Value → Shared → Prop), St g (d :: ds) s.heap → Le g (Y.see s.heap) →
    (∀ v h' tk, Turns wr s.heap h' → (∀ b ∈ wr, FieldsAt h' b) → Rep Y (grow Y g s.heap h') d v → (∀ g', Le g g' → Le g' (Y.see h') → St g' ds h') → Q v { s with heap := h', toks := tk }) →
    Tr Y A (pyNext (.ref I)) s (fun r s₁ => match r with | none => False | some v => Tr Y A (letOwnedTupleGo tgt (.ref I) v) s₁ (fun _ s₂ => Q v s₂))
  done : ∀ g (s : Shared) (Q : Shared → Prop), St g [] s.heap → Le g (Y.see s.heap) → (∀ h' tk, Turns wr s.heap h' → Q { s with heap := h', toks := tk }) →
    Tr Y A (pyNext (.ref I)) s (fun r s₁ => match r with | none => Q s₁ | some _ => False)
  self : ∀ g ds (s : Shared) (Q : Value → Shared → Prop), St g ds s.heap → Q (.ref I) s → Tr Y A (pyIter (.ref I)) s Q

noncomputable def Iters (Y : Law) (A : Around) (tgt : Expr) (g : Gh) (s : Shared) (ds : List D) (it : Value) (s₂ : Shared) : Prop :=
  Kp Y s s₂ ∧ ∃ I wr St g₂, it = .ref I ∧ Wk Y A I wr tgt St ∧ Le g g₂ ∧ Le g₂ (Y.see s₂.heap) ∧ St g₂ ds s₂.heap ∧
    (∀ b ∈ wr, s.heap.get? b = none ∧ g₂ b = none) ∧ (∀ a o, s.heap.get? a = some o → Held Y a o → g₂ a = g a)

noncomputable def EvIt (Y : Law) (n : Nat) (nm : Nm) (σ : Sto) (tgt e : Expr) (ds : List D) : Prop :=
  ∀ (A : Around) (env : Env) (k g : Gh) (s : Shared), AOk n A → EnvOk nm env → Frm Y env k g σ s.heap → Tr Y A (eval e env) s (fun x s₁ => Tr Y A (pyIter x) s₁ (Iters Y A tgt g s ds))

theorem ownedGo_name {x : Str} {p : Pos} {it v : Value} {A : Around} {s : Shared} {Q : Unit → Shared → Prop} (h : Q () s) : Tr Y A (letOwnedTupleGo (.Name x p) it v) s Q := wpAny_pure h

noncomputable def tgtOk : Expr → Bool
  | .Name .. => true
  | .Tuple .. => true
  | _ => false

theorem ownedGo_list {tgt : Expr} (ht : tgtOk tgt = true) {I l : Addr} {i : Nat} {v : Value} {A : Around} {s : Shared} {Q : Unit → Shared → Prop} (hit : s.heap.IsListIter I l i) (h : Q () s) : Tr Y A (letOwnedTupleGo tgt (.ref I) v) s Q := by
  cases tgt <;> simp only [tgtOk] at ht <;> try exact absurd ht (by decide)
  · exact wpAny_pure h
  · cases v with
    | ref T => exact wpAny_letOwnedTupleGo_listiter hit h
    | _ => exact wpAny_pure h

theorem listIter_fields {h : Heap} {I l : Addr} {i : Nat} (x : h.IsListIter I l i) : FieldsAt h I := by
  obtain ⟨o, e, c, d⟩ := x
  exact ⟨o, _, e, d, by rw [c]; exact nofun, fun _ _ h => by simp at h⟩

theorem drop_cons {g : Gh} {d : D} {ds : List D} {l : List Value} {i : Nat} (h : RepAll Y g (d :: ds) (l.drop i)) : ∃ v, l[i]? = some v ∧ Rep Y g d v ∧ RepAll Y g ds (l.drop (i + 1)) := by
  simp only [RepAll] at h
  obtain ⟨v, r, e, h1, h2⟩ := h
  have h3 : l[i]? = some v := by
    have := congrArg (·[0]?) e
    simpa using this
  refine ⟨v, h3, h1, ?_⟩
  have : l.drop (i + 1) = r := by rw [← List.drop_drop, e]; rfl
  rw [this]; exact h2
theorem drop_nil {g : Gh} {l : List Value} {i : Nat} (h : RepAll Y g [] (l.drop i)) : l[i]? = none := by
  simp only [RepAll, List.drop_eq_nil_iff] at h
  exact List.getElem?_eq_none h

theorem Wk.list {A : Around} (hA : A.handled = none) {tgt : Expr} (ht : tgtOk tgt = true) (I ax : Addr) (its : Array Value) :
    Wk Y A I [I] tgt (fun g ds h => ∃ i, h.IsListIter I ax i ∧ IsListG g ax its ∧ RepAll Y g ds (its.toList.drop i)) where
  fields := fun g ds h st b hb => by
    obtain ⟨i, hi, _⟩ := st
    rw [List.mem_singleton.mp hb]
    exact listIter_fields hi
  frame := fun g g' ds h h' st hg hg' hk => by
    obtain ⟨i, hi, ⟨j, hl⟩, hr⟩ := st
    refine ⟨i, ?_, ⟨j, hg _ _ hl⟩, RepAll.mono hg _ _ hr⟩
    obtain ⟨o, e, r⟩ := hi
    exact ⟨o, hk I (by simp) o e, r⟩
  item := fun g d ds s Q st hg hQ => by
    obtain ⟨i, hi, hl, hr⟩ := st
    obtain ⟨v, hv, r1, r2⟩ := drop_cons hr
    refine wpAny_pyNext_list_item hi (listG_heap hg hl) (x := v) (by simpa using hv) fun h' hit' hs' => ?_
    refine ownedGo_list ht hit' (hQ v h' s.toks (fun b o hb e => (hs'.2 b (by simpa using hb)).trans e) (fun b hb => by rw [List.mem_singleton.mp hb]; exact listIter_fields hit') (Rep.mono (le_grow hg) _ _ r1) fun g' hg' _ => ?_)
    obtain ⟨j, hl⟩ := hl
    exact ⟨i + 1, hit', ⟨j, hg' _ _ hl⟩, RepAll.mono hg' _ _ r2⟩
  done := fun g s Q st hg hQ => by
    obtain ⟨i, hi, hl, hr⟩ := st
    have hv := drop_nil hr
    refine wpAny_pyNext_list_end hA hi (listG_heap hg hl) (by simpa using hv) fun h' he' => ?_
    exact hQ h' s.toks fun b o hb e => he' b o (by simpa using hb) e
  self := fun g ds s Q st h => by
    obtain ⟨i, hi, _⟩ := st
    exact wpAny_pyIter_listiter hi h

noncomputable def rangeD (x step : Int) : Nat → List D
  | 0 => []
  | m + 1 => .int x :: rangeD (x + step) step m

theorem Wk.range {A : Around} (hA : A.handled = none) {x : Str} {p : Pos} (I : Addr) (step : Int) :
    Wk Y A I [I] (.Name x p) (fun _ ds h => ∃ a m, IsRangeIter h I a (m : Nat) step ∧ ds = rangeD a step m) where
  fields := fun g ds h st b hb => by
    obtain ⟨a, m, hi, _⟩ := st
    rw [List.mem_singleton.mp hb]
    exact ⟨_, _, hi, rfl, nofun, fun _ _ h => by simp [rawInt] at h⟩
  frame := fun g g' ds h h' st hg hg' hk => by
    obtain ⟨a, m, hi, e⟩ := st
    exact ⟨a, m, hk I (by simp) _ hi, e⟩
  item := fun g d ds s Q st hg hQ => by
    obtain ⟨a, m, hi, e⟩ := st
    cases m with
    | zero => cases e
    | succ m =>
      simp only [rangeD, List.cons.injEq] at e
      obtain ⟨rfl, rfl⟩ := e
      refine wpAny_pyNext_range_item hi (by omega) fun h' hit' hs' => ?_
      refine ownedGo_name (hQ _ h' _ (fun b o hb e => (hs'.2 b (by simpa using hb)).trans e) (fun b hb => by rw [List.mem_singleton.mp hb]; exact ⟨_, _, hit', rfl, nofun, fun _ _ h => by simp [rawInt] at h⟩) (by simp [Rep]) fun g' hg' _ => ⟨a + step, m, ?_, rfl⟩)
      have : (((m + 1 : Nat) : Int) - 1) = (m : Int) := by omega
      rw [← this]; exact hit'
  done := fun g s Q st hg hQ => by
    obtain ⟨a, m, hi, e⟩ := st
    cases m with
    | succ m => cases e
    | zero =>
      refine wpAny_pyNext_range_end hA hi (by omega) fun h' he' => ?_
      exact hQ h' s.toks fun b o hb e => he' b o (by simpa using hb) e
  self := fun g ds s Q st h => by
    obtain ⟨a, m, hi, e⟩ := st
    exact wpAny_pyIter_rangeiter hi h

noncomputable def enumD : Nat → List D → List D
  | _, [] => []
  | i, d :: ds => .tup [.int i, d] :: enumD (i + 1) ds

theorem Wk.enum {A : Around} (hA : A.handled = none) {elts : List Expr} {q : Nat} {p : Pos} (E I ax : Addr) (hne : E ≠ I) (its : Array Value) :
    Wk Y A E [E, I] (.Tuple elts q p) (fun g ds h => ∃ (i : Nat) (old : Value) (rest : List D), IsEnum h E I i old ∧ h.IsListIter I ax i ∧ IsListG g ax its ∧ RepAll Y g rest (its.toList.drop i) ∧ ds = enumD i rest) where
  fields := fun g ds h st b hb => by
    obtain ⟨i, old, rest, he, hi, _⟩ := st
    rcases List.mem_cons.mp hb with rfl | hb
    · exact ⟨_, _, he, rfl, nofun, fun _ _ h => by simp [rawInt] at h⟩
    · rw [List.mem_singleton.mp hb]; exact listIter_fields hi
  frame := fun g g' ds h h' st hg hg' hk => by
    obtain ⟨i, old, rest, he, hi, ⟨j, hl⟩, hr, e⟩ := st
    refine ⟨i, old, rest, hk E (by simp) _ he, ?_, ⟨j, hg _ _ hl⟩, RepAll.mono hg _ _ hr, e⟩
    obtain ⟨o, e, r⟩ := hi
    exact ⟨o, hk I (by simp) o e, r⟩
  item := fun g d ds s Q st hg hQ => by
    obtain ⟨i, old, rest, he, hi, hl, hr, e⟩ := st
    cases rest with
    | nil => cases e
    | cons d' rest =>
      simp only [enumD, List.cons.injEq] at e
      obtain ⟨rfl, rfl⟩ := e
      obtain ⟨v, hv, r1, r2⟩ := drop_cons hr
      refine wpAny_pyNext_enum_item he hi (listG_heap hg hl) (x := v) (by simpa using hv) hne fun h' ho hit' hnew _ hk' => ?_
      refine wpAny_letOwnedTupleGo_enum ho fun h'' he'' hs'' => ?_
      have hsE : s.heap.objs.size ≠ E := fun e => by
        have := Heap.lt_size he; rw [← e] at this; exact Nat.lt_irrefl _ this
      have hnew' : h''.get? s.heap.objs.size = some { cls := .type "tuple", data := .seq #[.int i s.toks, v] } := (hs''.2 _ hsE).trans hnew
      have hit'' : h''.IsListIter I ax (i + 1) := hit'.extBut hs''.extBut (Ne.symm hne)
      refine hQ _ h'' _ ?_ ?_ ?_ ?_
      · intro b o hb e
        simp only [List.mem_cons, List.not_mem_nil, or_false, not_or] at hb
        exact (hs''.2 b hb.1).trans (hk' b o hb.1 hb.2 e)
      · intro b hb
        rcases List.mem_cons.mp hb with rfl | hb
        · exact ⟨_, _, he'', rfl, nofun, fun _ _ h => by simp [rawInt] at h⟩
        · rw [List.mem_singleton.mp hb]; exact listIter_fields hit''
      · simp only [Rep, RepAll]
        refine ⟨_, _, rfl, ⟨0, grow_new (size_none _) hnew' (.seq rfl)⟩, .int i s.toks, [v], rfl, ⟨_, rfl⟩, v, [], rfl, Rep.mono (le_grow hg) _ _ r1, rfl⟩
      · intro g' hg' _
        obtain ⟨j, hl⟩ := hl
        exact ⟨i + 1, _, rest, he'', hit'', ⟨j, hg' _ _ hl⟩, RepAll.mono hg' _ _ r2, rfl⟩
  done := fun g s Q st hg hQ => by
    obtain ⟨i, old, rest, he, hi, hl, hr, e⟩ := st
    cases rest with
    | cons _ _ => cases e
    | nil =>
      have hv := drop_nil hr
      refine wpAny_pyNext_enum_end hA he hi (listG_heap hg hl) (by simpa using hv) fun h' he' => ?_
      exact hQ h' s.toks fun b o hb e => he' b o (fun h => hb (by simp [h])) e
  self := fun g ds s Q st h => by
    obtain ⟨i, old, rest, he, _⟩ := st
    exact wpAny_pyIter_enum he h

theorem EvIt_list {tgt e : Expr} {ds : List D} (ht : tgtOk tgt = true) (he : Ev Y n nm σ e (.list ds)) : EvIt Y n nm σ tgt e ds := by
  intro A env k g s hA hE F
  refine (he A env k g s hA hE F).mono fun v s₁ h₁ => ?_
  obtain ⟨K, r⟩ := h₁
  simp only [Rep] at r
  obtain ⟨a, its, rfl, hl, hr⟩ := r
  have F₁ := F.grows K
  refine wpAny_pyIter_list (listG_heap F₁.leg hl) ?_
  have hI : s.heap.get? s₁.heap.objs.size = none := by
    exact keeps_none K (size_none _)
  refine ⟨keeps_trans K (keeps_push _ _ _), s₁.heap.objs.size, [s₁.heap.objs.size], _, grow Y g s.heap s₁.heap, rfl, Wk.list hA.1 ht _ a its, le_grow F.leg, F₁.leg.trans (see_le (le_push _ _)), ?_, ?_, ?_⟩
  · exact ⟨0, ⟨_, Heap.get?_push_size _ rfl, rfl, rfl⟩, hl, by simpa using hr⟩
  · intro b hb
    rw [List.mem_singleton.mp hb]
    exact ⟨hI, by rw [grow_fresh hI]; exact see_none (size_none _)⟩
  · intro b o e hn; exact grow_old e hn

theorem EvIt_enum {x : Str} {np p q : Pos} {i : Nat} {elts : List Expr} {e : Expr} {ds : List D} (hx : nm.lookup x = some .globalImplicit) (hf : Y.glo x = some (.type "enumerate")) (hd : (x == ("__debug__" : Str)) = false)
    (hp : ∀ env, starEach [e] env = [(false, eval e env)]) (he : Ev Y n nm σ e (.list ds)) : EvIt Y n nm σ (.Tuple elts i q) (.Call (.Name x np) [e] [] p) (enumD 0 ds) := by
  intro A env k g s hA hE F
  refine wpAny_Call_NameR (global_ok hE hx hf F.rawTop hd ?_)
  refine callWith_ok (.type "enumerate") (fun env => by rw [hp]; rfl) ?_
  have ha := EvArgs_cons he (EvArgs_nil (Y := Y) (n := n) (nm := nm) (σ := σ)) (by intro env; rw [hp]; rfl)
  refine (ha A env k g s p hA hE F).mono fun vs s₁ h₁ => ?_
  obtain ⟨K, r⟩ := h₁
  have F₁ := F.grows K
  refine ⟨F₁.rawTop, ?_⟩
  obtain ⟨v, rfl, r1⟩ := one_arg r
  simp only [Rep] at r1
  obtain ⟨a, its, rfl, hl, hr⟩ := r1
  refine call_enumerate_list (listG_heap F₁.leg hl) fun h' he' hi' hsz' hk' => ?_
  have hI1 : ∀ b, s₁.heap.objs.size ≤ b → s₁.heap.get? b = none := fun b hb => by
    cases e : s₁.heap.get? b with
    | none => rfl
    | some o => exact absurd (Heap.lt_size e) (Nat.not_lt.mpr hb)
  have hI : ∀ b, s₁.heap.objs.size ≤ b → s.heap.get? b = none := fun b hb => keeps_none K (hI1 b hb)
  refine wpAny_pyIter_enum he' ?_
  refine ⟨keeps_trans K (keeps_same hk'), s₁.heap.objs.size + 1, [s₁.heap.objs.size + 1, s₁.heap.objs.size], _, grow Y g s.heap s₁.heap, rfl, Wk.enum hA.1 _ _ a (Nat.succ_ne_self _) its, le_grow F.leg, F₁.leg.trans (see_le hk'), ?_, ?_, ?_⟩
  · exact ⟨0, _, ds, he', hi', hl, by simpa using hr, rfl⟩
  · intro b hb
    have hb' : s₁.heap.objs.size ≤ b := by
      rcases List.mem_cons.mp hb with rfl | hb
      · exact Nat.le_succ _
      · rw [List.mem_singleton.mp hb]; exact Nat.le_refl _
    refine ⟨hI b hb', ?_⟩
    rw [grow_fresh (hI b hb')]
    exact see_none (hI1 b hb')
  · intro b o e hn; exact grow_old e hn

theorem range_it {A : Around} {g : Gh} {s s₁ : Shared} {x : Str} {p : Pos} {a b c : Int} {m : Nat} {t u v : Tok} (K : Kp Y s s₁) (hg : Le g (Y.see s.heap)) (hA : A.handled = none) {r : Addr} (hr : IsRange s₁.heap r a b c t u v)
    (hs : Builtin.Range.small a b c = true) (hm : Builtin.Range.rangeSize a b c = (m : Nat)) : Tr Y A (pyIter (.ref r)) s₁ (Iters Y A (.Name x p) g s (rangeD a c m)) := by
  refine wpAny_pyIter_range hr hs ?_
  have hI : s.heap.get? s₁.heap.objs.size = none := by
    exact keeps_none K (size_none _)
  refine ⟨keeps_trans K (keeps_push _ _ _), s₁.heap.objs.size, [s₁.heap.objs.size], _, grow Y g s.heap s₁.heap, rfl, Wk.range hA _ c, le_grow hg, (grow_le hg (keeps_le K)).trans (see_le (le_push _ _)), ?_, ?_, ?_⟩
  · refine ⟨a, m, ?_, rfl⟩
    have := Heap.get?_push_size s₁.heap (o := { cls := .type "range_iterator", data := .fields #[rawInt a, rawInt (Builtin.Range.rangeSize a b c), rawInt c] }) rfl
    rw [hm] at this ⊢
    exact this
  · intro b hb
    rw [List.mem_singleton.mp hb]
    exact ⟨hI, by rw [grow_fresh hI]; exact see_none (size_none _)⟩
  · intro b o e hn; exact grow_old e hn

theorem EvIt_range1 {x y : Str} {np p q : Pos} {e : Expr} {i : Int} {m : Nat} (hx : nm.lookup x = some .globalImplicit) (hf : Y.glo x = some (.type "range")) (hd : (x == ("__debug__" : Str)) = false)
    (hp : ∀ env, starEach [e] env = [(false, eval e env)]) (he : Ev Y n nm σ e (.int i)) (h0 : i = (m : Nat)) (h1 : m ≤ 100000) : EvIt Y n nm σ (.Name y q) (.Call (.Name x np) [e] [] p) (rangeD 0 1 m) := by
  intro A env k g s hA hE F
  refine wpAny_Call_NameR (global_ok hE hx hf F.rawTop hd ?_)
  refine callWith_ok (.type "range") (fun env => by rw [hp]; rfl) ?_
  have ha := EvArgs_cons he (EvArgs_nil (Y := Y) (n := n) (nm := nm) (σ := σ)) (by intro env; rw [hp]; rfl)
  refine (ha A env k g s p hA hE F).mono fun vs s₁ h₁ => ?_
  obtain ⟨K, r⟩ := h₁
  have F₁ := F.grows K
  refine ⟨F₁.rawTop, ?_⟩
  obtain ⟨v, rfl, r1⟩ := one_arg r
  simp only [Rep] at r1
  obtain ⟨t, rfl⟩ := r1
  refine call_range_1 ?_
  refine range_it (keeps_trans K (keeps_push _ _ _)) F.leg hA.1 (IsRange.new _ _ _ _ _ _ _) (small_one (by omega) (by omega) (by omega) (by omega)) ?_
  rw [rangeSize_one]; split <;> omega

theorem EvIt_range3 {x y : Str} {np p q : Pos} {e₁ e₂ e₃ : Expr} {a b c : Int} {m : Nat} (hx : nm.lookup x = some .globalImplicit) (hf : Y.glo x = some (.type "range")) (hd : (x == ("__debug__" : Str)) = false)
    (hp : ∀ env, starEach [e₁, e₂, e₃] env = [(false, eval e₁ env), (false, eval e₂ env), (false, eval e₃ env)]) (hp2 : ∀ env, starEach [e₂, e₃] env = [(false, eval e₂ env), (false, eval e₃ env)]) (hp3 : ∀ env, starEach [e₃] env = [(false, eval e₃ env)])
    (h₁ : Ev Y n nm σ e₁ (.int a)) (h₂ : Ev Y n nm σ e₂ (.int b)) (h₃ : Ev Y n nm σ e₃ (.int c))
    (hc : c ≠ 0) (hc' : c.natAbs < 1073741824) (hs : Builtin.Range.small a b c = true) (hm : Builtin.Range.rangeSize a b c = (m : Nat)) : EvIt Y n nm σ (.Name y q) (.Call (.Name x np) [e₁, e₂, e₃] [] p) (rangeD a c m) := by
  intro A env k g s hA hE F
  refine wpAny_Call_NameR (global_ok hE hx hf F.rawTop hd ?_)
  refine callWith_ok (.type "range") (fun env => by rw [hp]; rfl) ?_
  have ha := EvArgs_cons h₁ (EvArgs_cons h₂ (EvArgs_cons h₃ (EvArgs_nil (Y := Y) (n := n) (nm := nm) (σ := σ)) (by intro env; rw [hp3]; rfl)) (by intro env; rw [hp2, hp3])) (by intro env; rw [hp, hp2])
  refine (ha A env k g s p hA hE F).mono fun vs s₁ h₁ => ?_
  obtain ⟨K, r⟩ := h₁
  have F₁ := F.grows K
  refine ⟨F₁.rawTop, ?_⟩
  simp only [RepAll, Rep] at r
  obtain ⟨_, _, rfl, ⟨t, rfl⟩, _, _, rfl, ⟨t', rfl⟩, _, _, rfl, ⟨t'', rfl⟩, rfl⟩ := r
  refine call_range_3 hc ?_ (Or.inl (PyProof.noPylong_small hc'))
  exact range_it (keeps_trans K (keeps_push _ _ _)) F.leg hA.1 (IsRange.new _ _ _ _ _ _ _) hs hm

end Mine
end

section
open PySem
namespace Mine
variable {Y : Law} {n : Nat} {nm : Nm} {σ : Sto}

noncomputable def clos (cells : List (Str × Addr)) (names : Nm) : List (Str × Addr) := ((names.filter (·.2 == .free)).map fun p => (p.1, (cells.lookup p.1).getD 0)).reverse

theorem closureFor_eq {scope : Scope} {env : Env} (h : ∀ x, (x, NameKind.free) ∈ scope.names → ∃ c, env.cells.lookup x = some c) : closureFor scope env = pure (clos env.cells scope.names) := by
  have key : ∀ (names : Nm) (acc : List (Str × Addr)), (∀ x, (x, NameKind.free) ∈ names → ∃ c, env.cells.lookup x = some c) →
      (forIn names acc (fun (p : Str × NameKind) (cs : List (Str × Addr)) => (if p.2 == NameKind.free then (do let a ← cellOf env p.1; pure (ForInStep.yield ((p.1, a) :: cs))) else pure (ForInStep.yield cs) : Sem _)) : Sem _) = pure (clos env.cells names ++ acc) := by
    intro names
    induction names with
    | nil => intro acc _; rfl
    | cons p r ih =>
      intro acc hr
      obtain ⟨x, k⟩ := p
      have hr' : ∀ x, (x, NameKind.free) ∈ r → ∃ c, env.cells.lookup x = some c := fun x hx => hr x (List.mem_cons_of_mem _ hx)
      rw [List.forIn_cons]
      by_cases hk : k = .free
      · subst hk
        obtain ⟨c, hc⟩ := hr x List.mem_cons_self
        have e1 : cellOf env x = pure c := by unfold cellOf; rw [hc]
        simp only [beq_self_eq_true, if_true, e1, pure_bind]
        rw [ih _ hr']
        unfold clos
        simp [hc]
      · have hb : (k == NameKind.free) = false := by simpa using hk
        simp only [hb, Bool.false_eq_true, if_false, pure_bind]
        rw [ih _ hr']
        unfold clos
        simp [hb]
  have := key scope.names [] h
  rw [List.append_nil] at this
  unfold closureFor
  exact (bind_pure _).trans this

theorem cellsFrom_acc : ∀ (names : Nm) (m : Nat) (acc : List (Str × Addr)), cellsFrom m names acc = cellsFrom m names [] ++ acc
  | [], m, acc => rfl
  | (x, k) :: r, m, acc => by
    unfold cellsFrom
    split
    · rw [cellsFrom_acc r (m + 1) ((x, m) :: acc), cellsFrom_acc r (m + 1) [(x, m)]]; simp
    · exact cellsFrom_acc r m acc
theorem mem_cellsFrom : ∀ (names : Nm) (m : Nat) (x : Str) (c : Addr), (x, c) ∈ cellsFrom m names [] → (x, NameKind.cell) ∈ names
  | [], m, x, c, h => by simp [cellsFrom] at h
  | (y, k) :: r, m, x, c, h => by
    unfold cellsFrom at h
    split at h
    · rename_i hk
      rw [cellsFrom_acc] at h
      rcases List.mem_append.mp h with h | h
      · exact List.mem_cons_of_mem _ (mem_cellsFrom r _ x c h)
      · simp only [List.mem_singleton, Prod.mk.injEq] at h
        have : k = .cell := by simpa using hk
        subst this; rw [h.1]; exact List.mem_cons_self
    · exact List.mem_cons_of_mem _ (mem_cellsFrom r _ x c h)
theorem cellsFrom_has : ∀ (names : Nm) (m : Nat) (x : Str), (x, NameKind.cell) ∈ names → ∃ c, (cellsFrom m names []).lookup x = some c
  | [], m, x, h => by simp at h
  | (y, k) :: r, m, x, h => by
    unfold cellsFrom
    by_cases hr : (x, NameKind.cell) ∈ r
    · split
      · obtain ⟨c, hc⟩ := cellsFrom_has r (m + 1) x hr
        exact ⟨c, by rw [cellsFrom_acc, List.lookup_append, hc]; rfl⟩
      · exact cellsFrom_has r m x hr
    · rcases List.mem_cons.mp h with h | h
      · cases h
        simp only [beq_self_eq_true, if_true]
        rw [cellsFrom_acc, List.lookup_append]
        exact ⟨((List.lookup y (cellsFrom (m + 1) r [])).getD m), by simp⟩
      · exact absurd h hr

theorem lookup_of_mem {α : Type} : ∀ {l : List (Str × α)} {x : Str} {c : α}, (l.map (·.1)).Nodup → (x, c) ∈ l → l.lookup x = some c
  | (y, d) :: r, x, c, hn, h => by
    simp only [List.map_cons, List.nodup_cons] at hn
    rw [List.lookup_cons]
    rcases List.mem_cons.mp h with h | h
    · cases h; simp
    · have : (x == y) = false := by
        cases hb : x == y with
        | false => rfl
        | true => exact absurd (List.mem_map_of_mem (f := (·.1)) h) (by have := beq_iff_eq.mp hb; subst this; exact hn.1)
      rw [this]; exact lookup_of_mem hn.2 h
theorem lookup_none {α : Type} : ∀ {l : List (Str × α)} {x : Str}, (∀ c, (x, c) ∉ l) → l.lookup x = none
  | [], x, h => rfl
  | (y, d) :: r, x, h => by
    rw [List.lookup_cons]
    cases hb : x == y with
    | true => exact absurd List.mem_cons_self (by have := beq_iff_eq.mp hb; subst this; exact h d)
    | false => exact lookup_none fun c hc => h c (List.mem_cons_of_mem _ hc)

theorem clos_lookup {cells : List (Str × Addr)} {names : Nm} {x : Str} (h : (x, NameKind.free) ∈ names) : (clos cells names).lookup x = some ((cells.lookup x).getD 0) := by
  have hm : ∀ p ∈ clos cells names, p.2 = (cells.lookup p.1).getD 0 := by
    intro p hp
    unfold clos at hp
    simp only [List.mem_reverse, List.mem_map] at hp
    obtain ⟨q, _, rfl⟩ := hp; rfl
  have hx : ∃ c, (x, c) ∈ clos cells names := ⟨_, by
    unfold clos
    simp only [List.mem_reverse, List.mem_map]
    exact ⟨(x, .free), by simp [h], rfl⟩⟩
  cases e : (clos cells names).lookup x with
  | some c => rw [← hm _ (mem_of_lookup e)]
  | none =>
    obtain ⟨c, hc⟩ := hx
    exfalso
    have : ∀ {l : List (Str × Addr)}, l.lookup x = none → (x, c) ∈ l → False := by
      intro l
      induction l with
      | nil => intro _ h; simp at h
      | cons p r ih =>
        intro h1 h2
        rw [List.lookup_cons] at h1
        cases hb : x == p.1 with
        | true => rw [hb] at h1; cases h1
        | false =>
          rw [hb] at h1
          rcases List.mem_cons.mp h2 with h2 | h2
          · subst h2; simp at hb
          · exact ih h1 h2
    exact this e hc
theorem clos_mem {cells : List (Str × Addr)} {names : Nm} {x : Str} {c : Addr} (h : (x, c) ∈ clos cells names) : (x, NameKind.free) ∈ names ∧ c = (cells.lookup x).getD 0 := by
  unfold clos at h
  simp only [List.mem_reverse, List.mem_map, List.mem_filter, Prod.mk.injEq] at h
  obtain ⟨⟨y, k⟩, ⟨h1, h2⟩, rfl, rfl⟩ := h
  have : k = .free := by simpa using h2
  subst this
  exact ⟨h1, rfl⟩
theorem clos_apart {cells : List (Str × Addr)} {names : Nm} (ha : cells.Pairwise fun p q => p.2 ≠ q.2) (hn : (names.map (·.1)).Nodup) (hc : ∀ x, (x, NameKind.free) ∈ names → ∃ c, cells.lookup x = some c) :
    (clos cells names).Pairwise fun p q => p.2 ≠ q.2 := by
  unfold clos
  rw [List.pairwise_reverse, List.pairwise_map]
  have h1 : (names.filter (·.2 == .free)).Pairwise fun p q => p.1 ≠ q.1 := by
    have : names.Pairwise fun p q => p.1 ≠ q.1 := by
      rw [List.Nodup, List.pairwise_map] at hn; exact hn
    exact this.filter _
  refine List.Pairwise.imp_of_mem (fun {a b} ma mb hne => ?_) h1
  simp only [List.mem_filter, beq_iff_eq] at ma mb
  obtain ⟨xa, ka⟩ := a; obtain ⟨xb, kb⟩ := b
  simp only at ma mb hne ⊢
  obtain ⟨ca, ea⟩ := hc xa (by rw [← ma.2]; exact ma.1)
  obtain ⟨cb, eb⟩ := hc xb (by rw [← mb.2]; exact mb.1)
  rw [ea, eb]
  simp only [Option.getD_some]
  intro e
  subst e
  exact hne (lookup_inj ha ea eb)

theorem lookup_relabel {env : Env} : ∀ {names : Nm} {x : Str} {k : NameKind}, names.lookup x = some k →
    (names.map fun (n, k) => if (k == NameKind.free && env.scope.kind == .function && env.kindOf n == some .cell) then (n, NameKind.cell) else (n, k)).lookup x =
      some (if (k == NameKind.free && env.scope.kind == .function && env.kindOf x == some .cell) = true then .cell else k)
  | [], x, k, h => by simp at h
  | (y, j) :: r, x, k, h => by
    rw [List.lookup_cons] at h
    rw [List.map_cons, List.lookup_cons]
    cases hb : x == y with
    | true =>
      rw [hb] at h; cases h
      have : x = y := beq_iff_eq.mp hb
      subst this
      by_cases hc : (j == NameKind.free && env.scope.kind == .function && env.kindOf x == some .cell) = true
      · simp only [hc, if_true, beq_self_eq_true]
      · simp only [hc, Bool.false_eq_true, if_false, beq_self_eq_true]
    | false =>
      rw [hb] at h
      have ih := lookup_relabel (env := env) h
      by_cases hc : (j == NameKind.free && env.scope.kind == .function && env.kindOf y == some .cell) = true
      · simp only [hc, if_true, hb]; exact ih
      · simp only [hc, Bool.false_eq_true, if_false, hb]; exact ih

noncomputable def kept (nmc : Nm) (σ : Sto) : Sto := σ.filter fun p => nmc.lookup p.1 == some .free
theorem kept_lookup (nmc : Nm) : ∀ (σ : Sto) (x : Str) (sl : Sl), (kept nmc σ).lookup x = some sl → nmc.lookup x = some .free ∧ σ.lookup x = some sl
  | [], x, sl, h => by simp [kept] at h
  | (y, s) :: r, x, sl, h => by
    unfold kept at h
    rw [List.filter_cons] at h
    split at h
    · rename_i hy
      rw [List.lookup_cons] at h ⊢
      cases hb : x == y with
      | true =>
        rw [hb] at h
        have : x = y := beq_iff_eq.mp hb
        subst this
        exact ⟨by simpa using hy, h⟩
      | false => rw [hb] at h; exact kept_lookup nmc r x sl h
    · rename_i hy
      obtain ⟨h1, h2⟩ := kept_lookup nmc r x sl h
      refine ⟨h1, ?_⟩
      rw [List.lookup_cons]
      cases hb : x == y with
      | true =>
        have : x = y := beq_iff_eq.mp hb
        subst this
        rw [h1] at hy; simp at hy
      | false => exact h2

structure CompNm (nm nmc : Nm) : Prop where
  nodup : (nmc.map (·.1)).Nodup
  frees : ∀ x, nmc.lookup x = some .free → nm.lookup x = some .cell ∨ nm.lookup x = some .free

noncomputable def compEnvAt (scope : Scope) (env : Env) (C : Addr) : Env :=
  { scope := relabel scope env, locals := C, globals := env.globals, cells := cellsFrom (C + 1) scope.names (clos env.cells scope.names), qual := env.qual, func := none, code := env.code, frame := env.frame, builtins := env.builtins }

theorem newCompEnv {A : Around} {env : Env} {s : Shared} {scope : Scope} {cl : List (Str × Addr)} {Q : Env → Shared → Prop}
    (h : Q { scope := scope, locals := s.heap.objs.size, globals := env.globals, cells := cellsFrom (s.heap.objs.size + 1) scope.names cl, qual := env.qual, func := none, code := env.code, frame := env.frame, builtins := env.builtins }
      { s with heap := pushCells (s.heap.push { cls := .type "dict", data := .dict #[] }) scope.names }) : Tr Y A (newFunctionEnv scope env.globals cl [] env.qual none .none (some env)) s Q := by
  simp only [newFunctionEnv, Option.isSome_some, if_true]
  refine wpAny_bind (wpAny_alloc ?_)
  refine wpAny_bind (wpAny_layCells _ (fun name kind cells => by cases hkc : kind == NameKind.cell <;> simp [hkc]) _ _ _ _ ?_)
  rw [show ({ s with heap := s.heap.push { cls := .type "dict", data := .dict #[] } } : Shared).heap.objs.size = s.heap.objs.size + 1 from Heap.size_push ..]
  refine wpAny_bind ?_
  rw [List.forIn_nil]
  exact wpAny_pure (wpAny_pure h)

end Mine
end

section
open PySem
namespace Mine
variable {Y : Law} {n : Nat} {nm : Nm} {σ : Sto}

theorem comp_clook {env : Env} (hE : EnvOk nm env) {nmc : Nm} (hc : CompNm nm nmc) {x : Str} (hx : (x, NameKind.free) ∈ nmc) : ∃ c, env.cells.lookup x = some c := by
  have h1 := lookup_of_mem hc.nodup hx
  rcases hc.frees x h1 with h | h
  · rcases hE.kinds _ _ h with h | ⟨h, _⟩
    · exact hE.clook x (.inl h)
    · cases h
  · rcases hE.kinds _ _ h with h | ⟨_, h⟩
    · exact hE.clook x (.inr h)
    · exact hE.clook x (.inl h)

theorem comp_frm {env : Env} {k g : Gh} {h : Heap} {scope : Scope} (hE : EnvOk nm env) (F : Frm Y env k g σ h) (hk : scope.kind = .function) (hc : CompNm nm scope.names) :
    EnvOk scope.names (compEnvAt scope env h.objs.size) ∧ Frm Y (compEnvAt scope env h.objs.size) k g (kept scope.names σ) (pushCells (h.push { cls := .type "dict", data := .dict #[] }) scope.names) ∧
    Le h.get? (pushCells (h.push { cls := .type "dict", data := .dict #[] }) scope.names).get? ∧ ∀ b, MyAddr scope.names (compEnvAt scope env h.objs.size) b → h.objs.size ≤ b := by
  have hle : Le h.get? (pushCells (h.push { cls := .type "dict", data := .dict #[] }) scope.names).get? := fun b o e => pushCells_keeps _ _ b o (Heap.get?_push_of_some _ e)
  have hfree : ∀ x, (x, NameKind.free) ∈ scope.names → ∃ c, env.cells.lookup x = some c := fun x hx => comp_clook hE hc hx
  have ok := cellsFrom_ok scope.names (h.push { cls := .type "dict", data := .dict #[] }) (h.objs.size + 1) [] ⟨fun _ _ hm => (nomatch hm), List.Pairwise.nil⟩ (by rw [Heap.size_push]; exact Nat.le_refl _)
  rw [Heap.size_push] at ok
  have hcells : (compEnvAt scope env h.objs.size).cells = cellsFrom (h.objs.size + 1) scope.names [] ++ clos env.cells scope.names := by
    show cellsFrom _ _ _ = _
    rw [cellsFrom_acc]
  -- kinds
  have kinds : ∀ x j, scope.names.lookup x = some j → (compEnvAt scope env h.objs.size).kindOf x = some (if (j == NameKind.free && env.scope.kind == .function && env.kindOf x == some .cell) = true then .cell else j) :=
    fun x j hx => lookup_relabel hx
  have back : ∀ x j, (compEnvAt scope env h.objs.size).kindOf x = some j → ∃ j', scope.names.lookup x = some j' := by
    intro x j hx
    cases e : scope.names.lookup x with
    | some j' => exact ⟨j', rfl⟩
    | none =>
      exfalso
      have : ∀ {l : Nm}, l.lookup x = none → (l.map fun (n, k) => if (k == NameKind.free && env.scope.kind == .function && env.kindOf n == some .cell) then (n, NameKind.cell) else (n, k)).lookup x = none := by
        intro l
        induction l with
        | nil => intro _; rfl
        | cons p r ih =>
          intro h1
          obtain ⟨y, j⟩ := p
          rw [List.lookup_cons] at h1
          cases hb : x == y with
          | true => rw [hb] at h1; cases h1
          | false =>
            rw [hb] at h1
            rw [List.map_cons, List.lookup_cons]
            by_cases hcc : (j == NameKind.free && env.scope.kind == .function && env.kindOf y == some .cell) = true
            · simp only [hcc, if_true, hb]; exact ih h1
            · simp only [hcc, Bool.false_eq_true, if_false, hb]; exact ih h1
      have h2 : (compEnvAt scope env h.objs.size).kindOf x = none := this e
      rw [h2] at hx; cases hx
  have ownLook : ∀ x, scope.names.lookup x = some .cell → ∃ c, (compEnvAt scope env h.objs.size).cells.lookup x = some c ∧ (x, c) ∈ cellsFrom (h.objs.size + 1) scope.names [] := by
    intro x hx
    obtain ⟨c, hcc⟩ := cellsFrom_has scope.names (h.objs.size + 1) x (mem_of_lookup hx)
    exact ⟨c, by rw [hcells, List.lookup_append, hcc]; rfl, mem_of_lookup hcc⟩
  have freeLook : ∀ x, scope.names.lookup x = some .free → (compEnvAt scope env h.objs.size).cells.lookup x = env.cells.lookup x := by
    intro x hx
    have h1 : (cellsFrom (h.objs.size + 1) scope.names []).lookup x = none := lookup_none fun c hm => by
      have := lookup_of_mem hc.nodup (mem_cellsFrom _ _ _ _ hm)
      rw [hx] at this; cases this
    rw [hcells, List.lookup_append, h1, Option.none_or, clos_lookup (mem_of_lookup hx)]
    obtain ⟨c, e⟩ := hfree x (mem_of_lookup hx)
    rw [e]; rfl
  have cellAddr : ∀ x c, (compEnvAt scope env h.objs.size).kindOf x = some .cell → (compEnvAt scope env h.objs.size).cells.lookup x = some c →
      ((x, c) ∈ cellsFrom (h.objs.size + 1) scope.names []) ∨ (scope.names.lookup x = some .free ∧ env.kindOf x = some .cell ∧ env.cells.lookup x = some c) := by
    intro x c hx hcc
    obtain ⟨j, hj⟩ := back x _ hx
    have h2 := kinds x j hj
    rw [hx] at h2
    by_cases hcond : (j == NameKind.free && env.scope.kind == .function && env.kindOf x == some .cell) = true
    · simp only [Bool.and_eq_true, beq_iff_eq] at hcond
      obtain ⟨⟨rfl, _⟩, h3⟩ := hcond
      exact .inr ⟨hj, h3, by rw [← freeLook x hj]; exact hcc⟩
    · rw [if_neg hcond] at h2
      cases h2
      obtain ⟨c', h4, h5⟩ := ownLook x hj
      rw [hcc] at h4; cases h4
      exact .inl h5
  have fresh : ∀ b, h.objs.size ≤ b → h.get? b = none := fun b hb => by
    cases e : h.get? b with
    | none => rfl
    | some o => exact absurd (Heap.lt_size e) (Nat.not_lt.mpr hb)
  have kfresh : ∀ b, h.objs.size ≤ b → k b = none ∧ g b = none := fun b hb => by
    constructor
    · cases e : k b with
      | none => rfl
      | some o => have := F.lek _ _ e; rw [see_none (fresh b hb)] at this; cases this
    · cases e : g b with
      | none => rfl
      | some o => have := F.leg _ _ e; rw [see_none (fresh b hb)] at this; cases this
  have hEc : EnvOk scope.names (compEnvAt scope env h.objs.size) := by
    refine ⟨hk, fun x j hx => ?_, hE.glob, hE.blt, fun x hx => ?_, ?_⟩
    · rw [kinds x j hx]
      by_cases hcond : (j == NameKind.free && env.scope.kind == .function && env.kindOf x == some .cell) = true
      · rw [if_pos hcond]
        simp only [Bool.and_eq_true, beq_iff_eq] at hcond
        exact .inr ⟨hcond.1.1, rfl⟩
      · rw [if_neg hcond]; exact .inl rfl
    · have : ∃ j, (compEnvAt scope env h.objs.size).kindOf x = some j := by rcases hx with h | h <;> exact ⟨_, h⟩
      obtain ⟨j, hj⟩ := this
      obtain ⟨j', hj'⟩ := back x j hj
      have h2 := kinds x j' hj'
      by_cases hcond : (j' == NameKind.free && env.scope.kind == .function && env.kindOf x == some .cell) = true
      · simp only [Bool.and_eq_true, beq_iff_eq] at hcond
        obtain ⟨⟨rfl, _⟩, h3⟩ := hcond
        rw [freeLook x hj']
        exact hE.clook x (.inl h3)
      · rw [if_neg hcond] at h2
        rcases hx with hx | hx
        · rw [h2] at hx; cases hx
          obtain ⟨c, hcc, _⟩ := ownLook x hj'
          exact ⟨c, hcc⟩
        · rw [h2] at hx; cases hx
          rw [freeLook x hj']
          exact hfree x (mem_of_lookup hj')
    · rw [hcells, List.pairwise_append]
      refine ⟨ok.apart, clos_apart hE.apart hc.nodup hfree, fun p hp q hq e => ?_⟩
      have h1 := (ok.empty p.1 p.2 hp).2
      obtain ⟨h2, h3⟩ := clos_mem (x := q.1) (c := q.2) hq
      obtain ⟨c, hcc⟩ := hfree _ h2
      rw [hcc, Option.getD_some] at h3
      -- the outer cell is live, so below
      have live : ∃ o, h.get? c = some o := by
        have h4 := lookup_of_mem hc.nodup h2
        have hkk : env.kindOf q.1 = some .cell ∨ env.kindOf q.1 = some .free := by
          rcases hc.frees _ h4 with h | h
          · rcases hE.kinds _ _ h with h | ⟨h, _⟩
            · exact .inl h
            · cases h
          · rcases hE.kinds _ _ h with h | ⟨_, h⟩
            · exact .inr h
            · exact .inl h
        rcases hkk with hkk | hkk
        · obtain ⟨⟨v, o, e, _⟩, _⟩ := F.cells _ c hkk hcc
          exact ⟨o, e⟩
        · obtain ⟨v, o, e, _⟩ := F.frees _ c hkk hcc
          exact ⟨o, e⟩
      obtain ⟨o, e'⟩ := live
      have h6 : c < h.objs.size := Heap.lt_size e'
      have h7 : p.2 = c := e.trans h3
      have h8 : p.2 < h.objs.size := by rw [h7]; exact h6
      exact absurd (Nat.lt_of_lt_of_le h8 (Nat.le_of_succ_le h1)) (Nat.lt_irrefl _)
  have hC : h.get? h.objs.size = none := size_none h
  refine ⟨hEc, ?_, hle, ?_⟩
  · refine ⟨F.top.mono Le.rfl (.of hle), F.lek.trans (see_le hle), F.leg.trans (see_le hle), ?_, (kfresh _ (Nat.le_refl _)).1, (kfresh _ (Nat.le_refl _)).2, ?_, ?_, ?_, ?_⟩
    · exact ⟨_, (Heap.Ns.new h (.type "dict")).keeps (pushCells_keeps _ _)⟩
    · intro x c hx hcc
      rcases cellAddr x c hx hcc with h1 | ⟨h1, h2, h3⟩
      · obtain ⟨h4, h5⟩ := ok.empty x c h1
        exact ⟨⟨_, h4⟩, kfresh c (by omega)⟩
      · obtain ⟨⟨v, hv⟩, h4⟩ := F.cells x c h2 h3
        exact ⟨⟨v, hv.keeps hle⟩, h4⟩
    · intro x c hx hcc
      obtain ⟨j, hj⟩ := back x _ hx
      have h2 := kinds x j hj
      rw [hx] at h2
      by_cases hcond : (j == NameKind.free && env.scope.kind == .function && env.kindOf x == some .cell) = true
      · rw [if_pos hcond] at h2; cases h2
      · rw [if_neg hcond] at h2
        cases h2
        rw [freeLook x hj] at hcc
        rcases hc.frees x hj with h | h
        · rcases hE.kinds _ _ h with h | ⟨h, _⟩
          · obtain ⟨⟨v, hv⟩, _⟩ := F.cells x c h hcc
            exact ⟨v, hv.keeps hle⟩
          · cases h
        · rcases hE.kinds _ _ h with h | ⟨_, h⟩
          · obtain ⟨v, hv⟩ := F.frees x c h hcc
            exact ⟨v, hv.keeps hle⟩
          · obtain ⟨⟨v, hv⟩, _⟩ := F.cells x c h hcc
            exact ⟨v, hv.keeps hle⟩
    · intro x sl hx
      obtain ⟨hf, hx'⟩ := kept_lookup _ _ _ _ hx
      obtain ⟨v, V, S⟩ := F.vars x sl hx'
      refine ⟨v, ?_, ?_⟩
      · have hnl : env.kindOf x ≠ some .local := by
          intro hl
          rcases hc.frees x hf with h | h
          · rcases hE.kinds _ _ h with h | ⟨h, _⟩ <;> first | (rw [hl] at h; cases h) | cases h
          · rcases hE.kinds _ _ h with h | ⟨_, h⟩ <;> first | (rw [hl] at h; cases h) | cases h
        rcases V with ⟨a, _⟩ | ⟨a, c, b, d⟩
        · exact absurd a hnl
        · refine .inr ⟨?_, c, by rw [freeLook x hf]; exact b, d.keeps hle⟩
          have h2 := kinds x _ hf
          by_cases hcond : (NameKind.free == NameKind.free && env.scope.kind == .function && env.kindOf x == some .cell) = true
          · rw [if_pos hcond] at h2; exact .inl h2
          · rw [if_neg hcond] at h2; exact .inr h2
      · exact SlRep.mono (see_le hle) Le.rfl (fun a o ga _ _ => ga) S
    · intro x y xs ys a hx hy Vx Vy
      obtain ⟨hfx, hx'⟩ := kept_lookup _ _ _ _ hx
      obtain ⟨hfy, hy'⟩ := kept_lookup _ _ _ _ hy
      have toOld : ∀ z w, scope.names.lookup z = some .free → (∃ sl, σ.lookup z = some sl) → VarIs (compEnvAt scope env h.objs.size) (pushCells (h.push { cls := .type "dict", data := .dict #[] }) scope.names) z w → VarIs env h z w := by
        intro z w hz ⟨sl, hs⟩ V
        obtain ⟨w', V', _⟩ := F.vars z sl hs
        have hnl : env.kindOf z ≠ some .local := by
          intro hl
          rcases hc.frees z hz with h | h
          · rcases hE.kinds _ _ h with h | ⟨h, _⟩ <;> first | (rw [hl] at h; cases h) | cases h
          · rcases hE.kinds _ _ h with h | ⟨_, h⟩ <;> first | (rw [hl] at h; cases h) | cases h
        rcases V' with ⟨a, _⟩ | ⟨a, c, b, d⟩
        · exact absurd a hnl
        · rcases V with ⟨a', _⟩ | ⟨a', c', b', d'⟩
          · have h2 := kinds z _ hz
            rw [a'] at h2
            by_cases hcond : (NameKind.free == NameKind.free && env.scope.kind == .function && env.kindOf z == some .cell) = true
            · rw [if_pos hcond] at h2; cases h2
            · rw [if_neg hcond] at h2; cases h2
          · rw [freeLook z hz] at b'
            rw [b] at b'; cases b'
            obtain ⟨o, e, dd⟩ := d
            obtain ⟨o', e', dd'⟩ := d'
            have := hle _ _ e
            rw [e'] at this; cases this
            rw [dd] at dd'; cases dd'
            exact .inr ⟨a, c, b, o, e, dd⟩
      exact F.own x y xs ys a hx' hy' (toOld x _ hfx ⟨_, hx'⟩ Vx) (toOld y _ hfy ⟨_, hy'⟩ Vy)
  · intro b hb
    rcases hb with rfl | ⟨x, hx, hcc⟩
    · exact Nat.le_refl _
    · obtain ⟨c, h1, h2⟩ := ownLook x hx
      rw [hcc] at h1; cases h1
      exact Nat.le_of_succ_le (ok.empty x b h2).2

end Mine
end

section
open PySem
namespace Mine
variable {Y : Law} {n : Nat} {nm : Nm} {σ : Sto}

theorem Frm.sub {env : Env} {k g : Gh} {σ' : Sto} {h : Heap} (F : Frm Y env k g σ h) (hs : ∀ x sl, σ'.lookup x = some sl → σ.lookup x = some sl) : Frm Y env k g σ' h :=
  ⟨F.top, F.lek, F.leg, F.ns, F.kL, F.gL, F.cells, F.frees, fun x sl hx => F.vars x sl (hs x sl hx), fun x y xs ys a hx hy => F.own x y xs ys a (hs _ _ hx) (hs _ _ hy)⟩

noncomputable def setG (k : Gh) (D : Addr) (o : Obj) : Gh := fun b => if b = D then some o else k b
theorem setG_self (k : Gh) (D : Addr) (o : Obj) : setG k D o D = some o := by simp [setG]
theorem setG_ne {k : Gh} {D b : Addr} {o : Obj} (h : b ≠ D) : setG k D o b = k b := by simp [setG, h]

noncomputable abbrev listO (its : Array Value) (i : Nat) : Obj := { cls := .type "list", data := .seq its i }

theorem Frm.touch {env : Env} {k g : Gh} {h h' : Heap} {D : Addr} {its its' : Array Value} {i i' : Nat} (F : Frm Y env (setG k D (listO its i)) g σ h) (gD : g D = none) (hs : Heap.SameBut D h h') (ho : h'.get? D = some (listO its' i')) :
    Frm Y env (setG k D (listO its' i')) g σ h' := by
  have ne : ∀ b, setG k D (listO its i) b = none → b ≠ D := fun b hb e => by subst e; rw [setG_self] at hb; cases hb
  have hD : h.get? D = some (listO its i) := see_raw (F.lek _ _ (setG_self _ _ _)) (.seq rfl)
  obtain ⟨m, hm⟩ := F.ns
  have hL := ne _ F.kL
  have hset : ∀ b, b ≠ D → setG k D (listO its' i') b = setG k D (listO its i) b := fun b hb => by rw [setG_ne hb, setG_ne hb]
  have hnc : ∀ c v, h.IsCell c v → c ≠ D := fun c v hv e => by
    subst e
    obtain ⟨o, e, d⟩ := hv
    rw [hD] at e; cases e; cases d
  have hcell : ∀ c v, h.IsCell c v → h'.IsCell c v := fun c v hv => hv.sameBut hs (hnc c v hv)
  have hV : ∀ x v, VarIs env h x v → VarIs env h' x v := fun x v V => by
    rcases V with ⟨a, m', b, c⟩ | ⟨a, c, b, d⟩
    · exact .inl ⟨a, m', b.sameBut hs hL, c⟩
    · exact .inr ⟨a, c, b, hcell _ _ d⟩
  refine ⟨F.top.mono Le.rfl fun b o hf e => (hs.2 b (fun hb => by rw [hb, hD] at e; cases e; obtain ⟨⟨_, x⟩, _⟩ := hf; cases x)).trans e, ?_, ?_, ⟨m, hm.sameBut hs hL⟩, by rw [hset _ hL]; exact F.kL, F.gL, ?_, fun x c h1 h2 => let ⟨v, hv⟩ := F.frees x c h1 h2; ⟨v, hcell _ _ hv⟩, ?_, ?_⟩
  · intro a o e
    by_cases ha : a = D
    · subst ha; rw [setG_self] at e; cases e; exact see_of ho (.seq rfl)
    · rw [hset a ha] at e; exact see_same (fun o e => (hs.2 a ha).trans e) (F.lek _ _ e)
  · intro a o e
    by_cases ha : a = D
    · subst ha; rw [gD] at e; cases e
    · exact see_same (fun o e => (hs.2 a ha).trans e) (F.leg _ _ e)
  · intro x c h1 h2
    obtain ⟨⟨v, hv⟩, kc, gc⟩ := F.cells x c h1 h2
    exact ⟨⟨v, hcell _ _ hv⟩, by rw [hset _ (hnc c v hv)]; exact kc, gc⟩
  · intro x sl hx
    obtain ⟨v, V, S⟩ := F.vars x sl hx
    refine ⟨v, hV _ _ V, ?_⟩
    cases sl with
    | val d => exact S
    | own xs =>
      obtain ⟨a, is, rfl, ka, ga, ⟨j, p⟩, r⟩ := S
      have ha := ne _ ka
      exact ⟨a, is, rfl, by rw [hset _ ha]; exact ka, ga, ⟨j, (hs.2 a ha).trans p⟩, r⟩
  · intro x y xs ys a hx hy Vx Vy
    obtain ⟨vx, Vx', _⟩ := F.vars x _ hx
    obtain ⟨vy, Vy', _⟩ := F.vars y _ hy
    have e1 := VarIs.inj Vx (hV _ _ Vx')
    have e2 := VarIs.inj Vy (hV _ _ Vy')
    subst e1; subst e2
    exact F.own x y xs ys a hx hy Vx' Vy'

theorem Frm.keep {env : Env} {k g : Gh} {h : Heap} {D : Addr} {o : Obj} (F : Frm Y env k g σ h) (ho : h.get? D = some o) (hno : NoTab o) (hL : D ≠ env.locals) (hc : ∀ v, ¬ h.IsCell D v) (hown : ∀ x xs, σ.lookup x = some (.own xs) → ¬ VarIs env h x (.ref D)) :
    Frm Y env (setG k D o) g σ h := by
  refine ⟨F.top, ?_, F.leg, F.ns, by rw [setG_ne (Ne.symm hL)]; exact F.kL, F.gL, ?_, F.frees, ?_, F.own⟩
  · intro a o' e
    by_cases ha : a = D
    · subst ha; rw [setG_self] at e; cases e; exact see_of ho hno
    · rw [setG_ne ha] at e; exact F.lek _ _ e
  · intro x c h1 h2
    obtain ⟨⟨v, hv⟩, kc, gc⟩ := F.cells x c h1 h2
    exact ⟨⟨v, hv⟩, by rw [setG_ne (fun e => by subst e; exact hc v hv)]; exact kc, gc⟩
  · intro x sl hx
    obtain ⟨v, V, S⟩ := F.vars x sl hx
    refine ⟨v, V, ?_⟩
    cases sl with
    | val d => exact S
    | own xs =>
      obtain ⟨a, is, rfl, ka, ga, p, r⟩ := S
      exact ⟨a, is, rfl, by rw [setG_ne (fun e => by subst e; exact hown x xs hx V)]; exact ka, ga, p, r⟩
theorem Frm.lessK {env : Env} {k k' g : Gh} {h : Heap} (F : Frm Y env k g σ h) (hk : Le k' k) : Frm Y env k' g σ h := by
  have hn : ∀ a, k a = none → k' a = none := fun a ha => by
    cases e : k' a with
    | none => rfl
    | some o => rw [hk _ _ e] at ha; cases ha
  refine ⟨F.top, hk.trans F.lek, F.leg, F.ns, hn _ F.kL, F.gL, fun x c h1 h2 => let ⟨a, b, c⟩ := F.cells x c h1 h2; ⟨a, hn _ b, c⟩, F.frees, ?_, F.own⟩
  intro x sl hx
  obtain ⟨v, V, S⟩ := F.vars x sl hx
  refine ⟨v, V, ?_⟩
  cases sl with
  | val d => exact S
  | own xs =>
    obtain ⟨a, is, rfl, ka, ga, p, r⟩ := S
    exact ⟨a, is, rfl, hn _ ka, ga, p, r⟩

noncomputable def Tests (Y : Law) (n : Nat) (nm : Nm) (σ : Sto) (ifs : List Expr) (b : Bool) : Prop :=
  ∀ (A : Around) (env : Env) (k g : Gh) (s : Shared), AOk n A → EnvOk nm env → Frm Y env k g σ s.heap →
    Tr Y A (forIn ifs true fun c r => if r = true then do let ok ← isTrue c env (eval c env); pure (ForInStep.yield ok) else pure (ForInStep.yield r)) s (fun ok s' => ok = b ∧ Kp Y s s')
theorem Tests_nil : Tests Y n nm σ [] true := by
  intro A env k g s hA hE F
  exact wpAny_tests_nil ⟨rfl, keeps_refl s⟩
theorem Tests_one {e : Expr} {b : Bool} (h : EvT Y n nm σ e b) : Tests Y n nm σ [e] b := by
  intro A env k g s hA hE F
  exact wpAny_tests_one ((h A env k g s hA hE F).mono fun c s' h' => ⟨h'.2, h'.1⟩)

noncomputable def CompBody (Y : Law) (n : Nat) (nmc : Nm) (σc : Sto) (t : Expr) (ifs : List Expr) (elt : Expr) (d : D) (out : Option D) : Prop :=
  ∃ bs, Binds nmc t d bs ∧ Tests Y n nmc (pushes bs σc) ifs out.isSome ∧ ∀ o, out = some o → Ev Y n nmc (pushes bs σc) elt o

theorem binds_able {t : Expr} {d : D} {bs : List (Str × D)} (h : Binds nm t d bs) : ∀ p ∈ bs, Mine.Able nm p.1 := by
  cases h with
  | name h => intro p hp; rw [List.mem_singleton.mp hp]; exact h
  | pair h1 h2 =>
    intro p hp
    rcases List.mem_cons.mp hp with rfl | hp
    · exact h1
    · rw [List.mem_singleton.mp hp]; exact h2
theorem pushes_lookup : ∀ (bs : List (Str × D)) (σ : Sto) (x : Str), (∀ p ∈ bs, p.1 ≠ x) → (pushes bs σ).lookup x = σ.lookup x
  | [], σ, x, h => rfl
  | b :: bs, σ, x, h => by
    show (pushes bs ((b.1, .val b.2) :: σ)).lookup x = _
    rw [pushes_lookup bs _ x fun p hp => h p (List.mem_cons_of_mem _ hp), List.lookup_cons]
    have : (x == b.1) = false := by
      cases hb : x == b.1 with
      | false => rfl
      | true => exact absurd (beq_iff_eq.mp hb).symm (h b List.mem_cons_self)
    rw [this]

theorem comp_loop {A : Around} {cenv : Env} {k g₀ : Gh} {nmc : Nm} {σc : Sto} {s : Shared} {D₀ I : Addr} {wr : List Addr} {t iter elt : Expr} {ifs : List Expr} {scope : Scope} {pos : Pos} {St : Gh → List D → Heap → Prop} {R : Result → Shared → Prop}
    (hA : AOk n A) (W : Wk Y A I wr t St) (hE : EnvOk nmc cenv) (hσ : ∀ x sl, σc.lookup x = some sl → nmc.lookup x = some .free)
    (F : D → Option D) (ds : List D) (hb : ∀ d ∈ ds, CompBody Y n nmc σc t ifs elt d (F d)) (hlen : ds.length ≤ 100000)
    (F₀ : Frm Y cenv (setG k D₀ (listO #[] 0)) g₀ σc s.heap) (st : St g₀ ds s.heap) (hw : ∀ b ∈ wr, k b = none ∧ g₀ b = none ∧ b ≠ D₀) (gD : g₀ D₀ = none)
    (hR : ∀ s' G ys i, ShT s s' → Y.tabInv s'.heap → (∀ b o, b ∉ wr → b ≠ D₀ → ¬ MyAddr nmc cenv b → Y.see s.heap b = some o → Y.see s'.heap b = some o) → Le g₀ G → Le G (Y.see s'.heap) → (∀ a o, s.heap.get? a = some o → Held Y a o → G a = g₀ a) →
      s'.heap.get? D₀ = some (listO ys i) → RepAll Y G (ds.filterMap F) ys.toList → (∃ m, s'.heap.Ns cenv.locals m) → R (.ok .next) s') :
    codeAny (model Y.prog Y.w) A (.compLoop (.ListComp elt [⟨t, iter, ifs, 0⟩] scope pos) 0 (.ref I) (.ref D₀) cenv) R s := by
  refine codeAny_loop rfl (fun m s' => ∃ done rem G ys i, ds = done ++ rem ∧ m = rem.length ∧ ShT s s' ∧ (∀ b o, b ∉ wr → b ≠ D₀ → ¬ MyAddr nmc cenv b → Y.see s.heap b = some o → Y.see s'.heap b = some o) ∧
    (∀ b o, s.heap.get? b = some o → ∃ o', s'.heap.get? b = some o' ∧ (Held Y b o → Held Y b o')) ∧ Le g₀ G ∧ (∀ a o, s.heap.get? a = some o → Held Y a o → G a = g₀ a) ∧ RepAll Y G (done.filterMap F) ys.toList ∧ ys.size ≤ done.length ∧
    Frm Y cenv (setG k D₀ (listO ys i)) G σc s'.heap ∧ St G rem s'.heap) (fun m s' hI => ?_) ds.length
    ⟨[], ds, g₀, #[], 0, rfl, rfl, ShT.rfl, fun b o _ _ _ e => e, fun b o e => ⟨o, e, id⟩, Le.rfl, fun _ _ _ _ => rfl, by simp [RepAll], by simp, F₀, st⟩
  obtain ⟨done, rem, G, ys, i, hds, rfl, hsh, hkeep, hlive, hgG, hGold, hrep, hsz, Fr₁, hst⟩ := hI
  have hD : s.heap.get? D₀ = some (listO #[] 0) := see_raw (F₀.lek _ _ (setG_self _ _ _)) (.seq rfl)
  have wlive : ∀ b ∈ wr, ∃ o, s.heap.get? b = some o := fun b hb => let ⟨o, _, e, _⟩ := W.fields _ _ _ st b hb; ⟨o, e⟩
  have Gw : ∀ b ∈ wr, G b = none := fun b hb => by
    obtain ⟨o, e⟩ := wlive b hb
    rw [hGold _ _ e (fields_held (W.fields _ _ _ st b hb) e)]; exact (hw b hb).2.1
  have GD : G D₀ = none := by rw [hGold _ _ hD (.seq rfl)]; exact gD
  show wpAny _ _ ((compTurn (.ListComp elt [⟨t, iter, ifs, 0⟩] scope pos) 0 (.ref I) (.ref D₀) cenv).onRaise (fun x => do noteFrame x cenv; theTreesLotGoes x)) _ _ s'
  refine wpAny_noted (Tr.any (E := _) ?_)
  rw [compTurn_list]
  refine wpAny_bind (wpAny_standAt ?_)
  cases rem with
  | nil =>
    refine wpAny_bind ((W.done G s' (fun s₁ => R (.ok .next) s₁) hst Fr₁.leg fun h₁ tk₁ ht => ?_).mono fun r s₁ h => ?_)
    · have F₂ := Fr₁.move (g' := G) ht (fun b hb => ⟨by rw [setG_ne (hw b hb).2.2]; exact (hw b hb).1, Gw b hb, W.fields _ _ _ hst b hb⟩) Le.rfl
        (fun a o e => see_same (fun o e' => ht _ _ (fun hb => by rw [Gw a hb] at e; cases e) e') (Fr₁.leg _ _ e)) (fun a o _ _ ga => ga)
      refine hR _ G ys i (hsh.trans ⟨h₁, tk₁, rfl⟩) F₂.top.2 (fun b o h1 h2 h3 e => see_same (fun o e => ht _ _ h1 e) (hkeep b o h1 h2 h3 e)) hgG F₂.leg hGold (see_raw (F₂.lek _ _ (setG_self _ _ _)) (.seq rfl)) ?_ F₂.ns
      rw [List.append_nil] at hds
      rw [hds]; exact hrep
    · cases r with
      | none => exact wpAny_pure h
      | some v => exact h.elim
  | cons d rem =>
    obtain ⟨bs, hbs, htests, helt⟩ := hb d (by rw [hds]; simp)
    refine wpAny_bind ((W.item G d rem s' (fun v s₁ => ∃ h₁ tk₁, s₁ = { s' with heap := h₁, toks := tk₁ } ∧ Turns wr s'.heap h₁ ∧ (∀ b ∈ wr, FieldsAt h₁ b) ∧ Rep Y (grow Y G s'.heap h₁) d v ∧ ∀ g', Le G g' → Le g' (Y.see h₁) → St g' rem h₁) hst Fr₁.leg
      fun v h₁ tk₁ ht hf hrd hst' => ⟨h₁, tk₁, rfl, ht, hf, hrd, hst'⟩).mono fun r s₁ h => ?_)
    cases r with
    | none => exact h.elim
    | some v =>
      refine wpAny_bind (h.mono fun _ s₂ hq => ?_)
      obtain ⟨h₁, tk₁, rfl, ht, hf, hrd, hst'⟩ := hq
      have hlt : Le (grow Y G s'.heap h₁) (Y.see h₁) := turns_grow ht (fun b hb => ⟨Gw b hb, W.fields _ _ _ hst b hb⟩) Fr₁.leg
      have F₂ := Fr₁.move (g' := grow Y G s'.heap h₁) ht (fun b hb => ⟨by rw [setG_ne (hw b hb).2.2]; exact (hw b hb).1, Gw b hb, W.fields _ _ _ hst b hb⟩) (le_grow Fr₁.leg) hlt (fun a o e hn ga => by rw [grow_old e hn]; exact ga)
      refine wpAny_bind (assign_ok (s := { s' with heap := h₁, toks := tk₁ }) hA.1 hE F₂ hbs hrd fun s₃ hs₃ hk₃ F₃ => ?_)
      refine wpAny_bind ((htests A cenv _ _ s₃ hA hE F₃).mono fun ok s₄ h₄ => ?_)
      obtain ⟨rfl, K₄⟩ := h₄
      have F₄ := F₃.grows K₄
      have hbn : ∀ x, nmc.lookup x = some .free → ∀ p ∈ bs, p.1 ≠ x := fun x hx p hp e => by
        rcases binds_able hbs p hp with h | h <;> · rw [e, hx] at h; cases h
      have hsub : ∀ x sl, σc.lookup x = some sl → (pushes bs σc).lookup x = some sl := fun x sl hx => by rw [pushes_lookup bs σc x (hbn x (hσ x sl hx))]; exact hx
      -- what stands from the turn's start to any later state
      have live₁ : ∀ b o, s.heap.get? b = some o → ∃ o', h₁.get? b = some o' ∧ (Held Y b o → Held Y b o') := fun b o e => by
        obtain ⟨o', e', hl⟩ := hlive b o e
        by_cases hb : b ∈ wr
        · obtain ⟨o'', _, e'', _⟩ := id (hf b hb); exact ⟨o'', e'', fun _ => fields_held (hf b hb) e''⟩
        · exact ⟨o', ht _ _ hb e', hl⟩
      have hmy : ∀ b, MyAddr nmc cenv b → ∃ o, s₃.heap.get? b = some o ∧ Held Y b o := fun b hb => by
        rcases hb with rfl | ⟨x, hx, hc⟩
        · obtain ⟨m, o, _, _, e, d, _⟩ := F₃.ns; exact ⟨o, e, .dict d⟩
        · obtain ⟨⟨v, o, e, d⟩, _⟩ := F₃.cells x b (cell_kind hE hx) hc; exact ⟨o, e, .cell d⟩
      have live₃ : ∀ b o, s.heap.get? b = some o → ∃ o', s₃.heap.get? b = some o' ∧ (Held Y b o → Held Y b o') := fun b o e => by
        by_cases hb : MyAddr nmc cenv b
        · obtain ⟨o', e', h'⟩ := hmy b hb; exact ⟨o', e', fun _ => h'⟩
        · obtain ⟨o', e', hl⟩ := live₁ b o e
          exact ⟨o', hk₃ b o' hb e', hl⟩
      have nmy : ∀ b ∈ wr, ¬ MyAddr nmc cenv b := fun b hb hmb => by
        obtain ⟨m, hm⟩ := F₂.ns
        rcases hmb with rfl | ⟨x, hx, hc⟩
        · exact fields_ne_ns hm (hf _ hb) rfl
        · obtain ⟨⟨v, hv⟩, _⟩ := F₂.cells x b (cell_kind hE hx) hc
          exact fields_ne_cell hv (hf _ hb) rfl
      have keep₄ : ∀ b o, b ∉ wr → b ≠ D₀ → ¬ MyAddr nmc cenv b → Y.see s.heap b = some o → Y.see s₄.heap b = some o := fun b o h1 h2 h3 e => keeps_le K₄ _ _ (see_same (fun o e => hk₃ b o h3 e) (see_same (fun o e => ht _ _ h1 e) (hkeep b o h1 h2 h3 e)))
      have wrn : ∀ b ∈ wr, ∀ o, h₁.get? b = some o → NoTab o := fun b hb o e => by
        obtain ⟨o', vs, e', _, c, _⟩ := hf b hb
        rw [e] at e'; cases e'; exact .ne c
      have wr₄ : ∀ b ∈ wr, ∀ o, h₁.get? b = some o → s₄.heap.get? b = some o := fun b hb o e => keeps_raw K₄ (hk₃ b o (nmy b hb) e) (wrn b hb o e)
      have G₄old : ∀ a o, s.heap.get? a = some o → Held Y a o → grow Y (grow Y G s'.heap h₁) s₃.heap s₄.heap a = g₀ a := fun a o e hn => by
        obtain ⟨o', e', hl'⟩ := hlive a o e
        obtain ⟨o₃, e₃, hl₃⟩ := live₃ a o e
        rw [grow_old e₃ (hl₃ hn), grow_old e' (hl' hn)]; exact hGold a o e hn
      have gG₄ : Le G (grow Y (grow Y G s'.heap h₁) s₃.heap s₄.heap) := (le_grow Fr₁.leg).trans (le_grow F₃.leg)
      have hds' : ds = (done ++ [d]) ++ rem := by rw [hds]; simp
      cases ho : F d with
      | none =>
        simp only [ho, Option.isSome_none, Bool.false_eq_true, if_false]
        refine wpAny_pure ⟨rfl, rem.length, by simp, done ++ [d], rem, _, ys, i, hds', rfl, hsh.trans (ShT.trans ⟨h₁, tk₁, rfl⟩ (hs₃.trans (keeps_sht K₄))), keep₄, fun b o e => ?_, hgG.trans gG₄, G₄old, ?_, ?_, F₄.sub hsub, ?_⟩
        · obtain ⟨o', e', hl⟩ := live₃ b o e
          obtain ⟨o₄, e₄, hl₄⟩ := keeps_liveH K₄ e'
          exact ⟨o₄, e₄, fun z => hl₄ (hl z)⟩
        · rw [List.filterMap_append]; simp only [List.filterMap_cons, ho, List.filterMap_nil, List.append_nil]; exact RepAll.mono gG₄ _ _ hrep
        · simp; omega
        · exact W.frame _ _ _ _ _ (hst' _ (le_grow Fr₁.leg) hlt) (le_grow F₃.leg) F₄.leg wr₄
      | some o =>
        simp only [ho, Option.isSome_some, if_true]
        refine wpAny_bind (wpAny_bind (((helt o ho) A cenv _ _ s₄ hA hE F₄).mono fun y s₅ h₅ => ?_))
        obtain ⟨K₅, ry⟩ := h₅
        have F₅ := F₄.grows K₅
        have hD₅ : s₅.heap.PlainList D₀ ys := ⟨i, see_raw (F₅.lek _ _ (setG_self _ _ _)) (.seq rfl)⟩
        have hDG : grow Y (grow Y (grow Y G s'.heap h₁) s₃.heap s₄.heap) s₄.heap s₅.heap D₀ = none := by
          have e4 : s₄.heap.get? D₀ = some (listO ys i) := see_raw (F₄.lek _ _ (setG_self _ _ _)) (.seq rfl)
          rw [grow_old e4 (.seq rfl), G₄old _ _ hD (.seq rfl)]; exact gD
        have hsz' : done.length ≤ 100000 := by rw [hds] at hlen; simp at hlen; omega
        refine wpAny_bind (wpAny_list_append_plain hD₅ (fun h₆ hp₆ hs₆ => ?_) (by have : ys.size ≤ 100000 := by omega
                                                                                  exact Nat.le_trans this (by decide)))
        obtain ⟨i', e₆⟩ := hp₆
        refine wpAny_pure (wpAny_pure ⟨rfl, rem.length, by simp, done ++ [d], rem, grow Y (grow Y (grow Y G s'.heap h₁) s₃.heap s₄.heap) s₄.heap s₅.heap, ys.push y, i', hds', rfl, hsh.trans (ShT.trans ⟨h₁, tk₁, rfl⟩ (hs₃.trans ((keeps_sht K₄).trans ((keeps_sht K₅).trans ⟨h₆, _, rfl⟩)))), ?_, fun b o e => ?_, hgG.trans (gG₄.trans (le_grow F₄.leg)), ?_, ?_, ?_, ?_, ?_⟩)
        · intro b o h1 h2 h3 e
          exact see_same (fun o e => (hs₆.2 b h2).trans e) (keeps_le K₅ _ _ (keep₄ b o h1 h2 h3 e))
        · by_cases hb : b = D₀
          · subst hb; exact ⟨_, e₆, fun _ => .seq rfl⟩
          · obtain ⟨o', e', hl⟩ := live₃ b o e
            obtain ⟨o₄, e₄, hl₄⟩ := keeps_liveH K₄ e'
            obtain ⟨o₅, e₅, hl₅⟩ := keeps_liveH K₅ e₄
            exact ⟨o₅, (hs₆.2 b hb).trans e₅, fun z => hl₅ (hl₄ (hl z))⟩
        · intro a o e hn
          obtain ⟨o₃, e₃, hl₃⟩ := live₃ a o e
          obtain ⟨o₄, e₄, hl₄⟩ := keeps_liveH K₄ e₃
          rw [grow_old e₄ (hl₄ (hl₃ hn))]; exact G₄old a o e hn
        · rw [List.filterMap_append]
          simp only [List.filterMap_cons, ho, List.filterMap_nil]
          rw [Array.toList_push]
          refine RepAll.append (RepAll.mono (gG₄.trans (le_grow F₄.leg)) _ _ hrep) ?_
          simp only [RepAll]
          exact ⟨y, [], rfl, ry, rfl⟩
        · simp; omega
        · exact (F₅.touch hDG hs₆ e₆).sub hsub
        · refine W.frame _ _ _ _ _ (hst' _ (le_grow Fr₁.leg) hlt) ((le_grow F₃.leg).trans (le_grow F₄.leg)) ((F₅.touch hDG hs₆ e₆).leg) fun b hb o e => ?_
          exact (hs₆.2 b (hw b hb).2.2).trans (keeps_raw K₅ (wr₄ b hb o e) (wrn b hb o e))

end Mine
end

section
open PySem
namespace Mine
variable {Y : Law} {n : Nat} {nm : Nm} {σ : Sto}

noncomputable def Foreign (env : Env) (h : Heap) (b : Addr) : Prop := b ≠ env.locals ∧ (∀ v, ¬ h.IsCell b v) ∧ (∀ its, ¬ h.PlainList b its) ∧ ∀ o, h.get? b = some o → ¬ Fixed o

theorem Frm.alter {env : Env} {k g g' : Gh} {h h' : Heap} {wr : List Addr} (F : Frm Y env k g σ h) (ht : Turns wr h h') (hw : ∀ b ∈ wr, k b = none ∧ g b = none ∧ Foreign env h b) (hg : Le g g') (hg' : Le g' (Y.see h'))
    (hn : ∀ a o, h.get? a = some o → Held Y a o → g a = none → g' a = none) : Frm Y env k g' σ h' := by
  obtain ⟨m, hm⟩ := F.ns
  have hL : env.locals ∉ wr := fun hb => (hw _ hb).2.2.1 rfl
  have hns : ∀ m, h.Ns env.locals m → h'.Ns env.locals m := fun m hm => hm.at' fun o e => ht _ _ hL e
  have hcell : ∀ c v, h.IsCell c v → h'.IsCell c v := fun c v hv => by
    have hc : c ∉ wr := fun hb => (hw _ hb).2.2.2.1 v hv
    obtain ⟨o, e, d⟩ := hv
    exact ⟨o, ht _ _ hc e, d⟩
  have hpl : ∀ a its, h.PlainList a its → h'.PlainList a its := fun a its hp => by
    have hc : a ∉ wr := fun hb => (hw _ hb).2.2.2.2.1 its hp
    obtain ⟨i, e⟩ := hp
    exact ⟨i, ht _ _ hc e⟩
  have hV : ∀ x v, VarIs env h x v → VarIs env h' x v := fun x v V => by
    rcases V with ⟨a, m', b, c⟩ | ⟨a, c, b, d⟩
    · exact .inl ⟨a, m', hns _ b, c⟩
    · exact .inr ⟨a, c, b, hcell _ _ d⟩
  refine ⟨F.top.mono hg fun b o hf e => ht _ _ (fun hb => (hw _ hb).2.2.2.2.2 o e hf) e, ?_, hg', ⟨m, hns _ hm⟩, F.kL, ?_, ?_, fun x c h1 h2 => let ⟨v, hv⟩ := F.frees x c h1 h2; ⟨v, hcell _ _ hv⟩, ?_, ?_⟩
  · intro a o e
    exact see_same (fun o' e' => ht _ _ (fun hb => by rw [(hw _ hb).1] at e; cases e) e') (F.lek _ _ e)
  · obtain ⟨o, _, _, e, d, _⟩ := hm; exact hn _ _ e (.dict d) F.gL
  · intro x c h1 h2
    obtain ⟨⟨v, hv⟩, kc, gc⟩ := F.cells x c h1 h2
    refine ⟨⟨v, hcell _ _ hv⟩, kc, ?_⟩
    obtain ⟨o, e, d⟩ := hv; exact hn _ _ e (.cell d) gc
  · intro x sl hx
    obtain ⟨v, V, S⟩ := F.vars x sl hx
    refine ⟨v, hV _ _ V, ?_⟩
    cases sl with
    | val d => exact Rep.mono hg _ _ S
    | own xs =>
      obtain ⟨a, its, rfl, ka, ga, p, r⟩ := S
      refine ⟨a, its, rfl, ka, ?_, hpl _ _ p, RepAll.mono hg _ _ r⟩
      obtain ⟨i, e⟩ := p; exact hn _ _ e (.seq rfl) ga
  · intro x y xs ys a hx hy Vx Vy
    obtain ⟨vx, Vx', _⟩ := F.vars x _ hx
    obtain ⟨vy, Vy', _⟩ := F.vars y _ hy
    have e1 := VarIs.inj Vx (hV _ _ Vx')
    have e2 := VarIs.inj Vy (hV _ _ Vy')
    subst e1; subst e2
    exact F.own x y xs ys a hx hy Vx' Vy'

theorem Frm.freshS {env : Env} {k g g' : Gh} {h h' : Heap} (F : Frm Y env k g σ h) (hk : Le (Y.see h) (Y.see h')) (hT : Y.tabInv h') (hg : Le g g') (hg' : Le g' (Y.see h')) (hn : ∀ a o, h.get? a = some o → Held Y a o → g' a = g a) : Frm Y env k g' σ h' := by
  refine ⟨⟨F.top.1.trans hg, hT⟩, F.lek.trans hk, hg', ?_, F.kL, ?_, ?_, fun x c h1 h2 => let ⟨v, hv⟩ := F.frees x c h1 h2; ⟨v, IsCell.see hv hk⟩, ?_, ?_⟩
  · obtain ⟨m, hm⟩ := F.ns; exact ⟨m, Ns.see hm hk⟩
  · obtain ⟨m, hm⟩ := F.ns
    obtain ⟨o, _, _, e, d, _⟩ := hm
    rw [hn _ _ e (.dict d)]; exact F.gL
  · intro x c h1 h2
    obtain ⟨⟨v, hv⟩, kc, gc⟩ := F.cells x c h1 h2
    refine ⟨⟨v, IsCell.see hv hk⟩, kc, ?_⟩
    obtain ⟨o, e, d⟩ := hv
    rw [hn _ _ e (.cell d)]; exact gc
  · intro x sl hx
    obtain ⟨v, V, S⟩ := F.vars x sl hx
    exact ⟨v, V.see hk, SlRep.mono hk hg (fun a o ga e hh => by rw [hn _ _ e hh]; exact ga) S⟩
  · intro x y xs ys a hx hy Vx Vy
    obtain ⟨vx, Vx', _⟩ := F.vars x _ hx
    obtain ⟨vy, Vy', _⟩ := F.vars y _ hy
    have e1 := VarIs.inj Vx (Vx'.see hk)
    have e2 := VarIs.inj Vy (Vy'.see hk)
    subst e1; subst e2
    exact F.own x y xs ys a hx hy Vx' Vy'
theorem Frm.fresh {env : Env} {k g g' : Gh} {h h' : Heap} (F : Frm Y env k g σ h) (hk : Le h.get? h'.get?) (hg : Le g g') (hg' : Le g' (Y.see h')) (hn : ∀ a o, h.get? a = some o → Held Y a o → g' a = g a) : Frm Y env k g' σ h' :=
  F.freshS (see_le hk) (Y.tabKeep _ _ (.of hk) F.top.2) hg hg' hn
theorem Frm.freshK {env : Env} {k g g' : Gh} {s s' : Shared} (F : Frm Y env k g σ s.heap) (K : Kp Y s s') (hg : Le g g') (hg' : Le g' (Y.see s'.heap)) (hn : ∀ a o, s.heap.get? a = some o → Held Y a o → g' a = g a) : Frm Y env k g' σ s'.heap :=
  F.freshS (keeps_le K) (keeps_inv K F.top.2) hg hg' hn

theorem get_above {h : Heap} {b : Addr} (hb : h.objs.size ≤ b) : h.get? b = none := by
  cases e : h.get? b with
  | none => rfl
  | some o => exact absurd (Heap.lt_size e) (Nat.not_lt.mpr hb)

theorem hnames_of {nmc : Nm} (h : (nmc.map (·.1)).Nodup) : ∀ x ∈ nmc, x.2 = .local → nmc.lookup x.1 = some .local := fun x hx hl => lookup_of_mem h (by rw [← hl]; exact hx)

theorem comp_any {A : Around} {env : Env} {k g : Gh} {s : Shared} {t iter elt : Expr} {ifs : List Expr} {scope : Scope} {pos p : Pos} {use : Option (Value → Sem Unit)} {Q : Value → Shared → Prop} {F : D → Option D} {ds : List D}
    (hA : AOk n A) (hE : EnvOk nm env) (F₀ : Frm Y env k g σ s.heap) (hk : scope.kind = .function) (hc : CompNm nm scope.names) (hit : EvIt Y n nm σ t iter ds) (hs : ∀ x, foldedSetIterable iter env x = pure x)
    (hb : ∀ d ∈ ds, CompBody Y n scope.names (kept scope.names σ) t ifs elt d (F d)) (hlen : ds.length ≤ 100000)
    (hQ : ∀ s' G a C its i, Kp Y s s' → Le g G → Le G (Y.see s'.heap) → (∀ b o, s.heap.get? b = some o → Held Y b o → G b = g b) → s.heap.get? a = none → s'.heap.get? a = some (listO its i) → G a = none → RepAll Y G (ds.filterMap F) its.toList →
      s.heap.get? C = none → G C = none → C ≠ a → (∃ m, s'.heap.Ns C m) → compPost (model Y.prog Y.w) A (fun _ _ => False) use Q (.ref a) C (.ok .next) s') :
    Tr Y A (comprehension (.ListComp elt [⟨t, iter, ifs, 0⟩] scope pos) scope env p (newList []) false (eval iter env) use) s Q := by
  refine wpAny_comprehension_free (g := ⟨t, iter, ifs, 0⟩) (gs := []) rfl hs (closureFor_eq fun x hx => comp_clook hE hc hx) hk (hnames_of hc.nodup) ?_
  refine (hit A env k g s hA hE F₀).mono fun x s₁ h₁ => h₁.mono fun it s₂ h₂ => ?_
  obtain ⟨K₂, I, wr, St, g₂, rfl, W, hg₂, hl₂, hst, hwr, hold⟩ := h₂
  have F₂ : Frm Y env k g₂ σ s₂.heap := F₀.freshK K₂ hg₂ hl₂ hold
  refine wpAny_newList ?_ (by decide)
  have F₃ : Frm Y env k g₂ σ (s₂.heap.push (listO #[] 0)) := F₂.fresh (le_push _ _) Le.rfl (F₂.leg.trans (see_le (le_push _ _))) fun _ _ _ _ => rfl
  have hD₃ : (s₂.heap.push (listO #[] 0)).get? s₂.heap.objs.size = some (listO #[] 0) := Heap.get?_push_size _ rfl
  have hsz : (s₂.heap.push (listO #[] 0)).objs.size = s₂.heap.objs.size + 1 := Heap.size_push ..
  have g₂D : g₂ s₂.heap.objs.size = none := by
    cases e : g₂ s₂.heap.objs.size with
    | none => rfl
    | some o => have := F₂.leg _ _ e; rw [see_none (size_none _)] at this; cases this
  have kfree : ∀ b, s.heap.get? b = none → k b = none := fun b hb => by
    cases e : k b with
    | none => rfl
    | some o => have := F₀.lek _ _ e; rw [see_none hb] at this; cases this
  have hs2 : ∀ b, s₂.heap.get? b = none → s.heap.get? b = none := fun b hb => keeps_none K₂ hb
  -- the list of what is brought is kept by the comprehension's frame
  have F₃k : Frm Y env (setG k s₂.heap.objs.size (listO #[] 0)) g₂ σ (s₂.heap.push (listO #[] 0)) := by
    refine F₃.keep hD₃ (.seq rfl) ?_ ?_ ?_
    · intro e
      obtain ⟨m, o, _, _, e', _⟩ := F₂.ns
      rw [← e, size_none] at e'; cases e'
    · rintro v ⟨o, e, d⟩
      rw [hD₃] at e; cases e; cases d
    · intro x xs hx V
      obtain ⟨v', V', a, its, rfl, _, _, ⟨j, e⟩, _⟩ := F₂.vars x _ hx
      have := VarIs.inj V (V'.le (le_push _ _))
      cases this
      rw [size_none] at e; cases e
  refine newCompEnv ?_
  obtain ⟨hEc, F₅, hle₄, hmy⟩ := comp_frm hE F₃k hk hc
  have hst₄ : St g₂ ds (pushCells ((s₂.heap.push (listO #[] 0)).push { cls := .type "dict", data := .dict #[] }) scope.names) :=
    W.frame _ _ _ _ _ hst Le.rfl F₅.leg fun b hb o e => hle₄ _ _ (Heap.get?_push_of_some _ e)
  have hwr' : ∀ b ∈ wr, k b = none ∧ g₂ b = none ∧ b ≠ s₂.heap.objs.size := fun b hb => by
    refine ⟨kfree b (hwr b hb).1, (hwr b hb).2, fun e => ?_⟩
    obtain ⟨o, _, e', _⟩ := W.fields _ _ _ hst b hb
    rw [e, size_none] at e'; cases e'
  have loop : ∀ s₄ : Shared, s₄ = { s₂ with heap := pushCells ((s₂.heap.push (listO #[] 0)).push { cls := .type "dict", data := .dict #[] }) scope.names } →
      codeAny (model Y.prog Y.w) A (.compLoop (.ListComp elt [⟨t, iter, ifs, 0⟩] scope pos) 0 (.ref I) (.ref s₂.heap.objs.size) (compEnvAt scope env (s₂.heap.push (listO #[] 0)).objs.size))
        (compPost (model Y.prog Y.w) A (fun _ _ => False) use Q (.ref s₂.heap.objs.size) (s₂.heap.push (listO #[] 0)).objs.size) s₄ := by
    rintro s₄ rfl
    refine comp_loop hA W hEc (fun x sl hx => (kept_lookup _ _ _ _ hx).1) F ds hb hlen F₅ hst₄ hwr' g₂D ?_
    intro s' G ys i hsh hti hkeep hgG hGl hGold hys hrep hns
    have oldkeep : Le (Y.see s.heap) (Y.see s'.heap) := fun b o e => by
      have e2 := keeps_le K₂ _ _ e
      refine hkeep b o (fun hb => by rw [see_none (hwr b hb).1] at e; cases e) (fun h => by rw [h, see_none (size_none _)] at e2; cases e2) (fun hm => ?_) (see_le (fun b o e => hle₄ _ _ (Heap.get?_push_of_some _ e)) _ _ e2)
      have h1 := hmy b hm
      rw [hsz] at h1
      rw [see_none (get_above (Nat.le_of_succ_le h1))] at e2; cases e2
    obtain ⟨h', tk, rfl⟩ := hsh
    have K₂' := K₂
    obtain ⟨h₂', t₂, e₂, _⟩ := K₂
    refine hQ _ G s₂.heap.objs.size (s₂.heap.push (listO #[] 0)).objs.size ys i ?_ (hg₂.trans hgG) hGl ?_ (hs2 _ (size_none _)) hys ?_ hrep ?_ ?_ ?_ hns
    · exact ⟨h', tk, by rw [e₂], oldkeep, fun _ => hti⟩
    · intro b o e hh
      obtain ⟨o', e2, hl⟩ := keeps_liveH K₂' e
      rw [hGold b _ (hle₄ _ _ (Heap.get?_push_of_some _ e2)) (hl hh)]
      exact hold b o e hh
    · rw [hGold _ _ (hle₄ _ _ hD₃) (.seq rfl)]; exact g₂D
    · exact hs2 _ (get_above (by rw [hsz]; exact Nat.le_succ _))
    · obtain ⟨m, o, _, _, e, d, _⟩ := F₅.ns
      have e0 : G (s₂.heap.push (listO #[] 0)).objs.size = g₂ (s₂.heap.push (listO #[] 0)).objs.size := hGold _ _ e (.dict d)
      rw [e0]
      cases e' : g₂ (s₂.heap.push (listO #[] 0)).objs.size with
      | none => rfl
      | some o =>
        have := F₂.leg _ _ e'
        rw [see_none (get_above (by rw [hsz]; exact Nat.le_succ _))] at this; cases this
    · rw [hsz]; exact Nat.succ_ne_self _
  refine codeAny_compStart_list (loop _ rfl) ?_
  exact Tr.any (W.self g₂ ds _ _ hst₄ (loop _ rfl))

theorem eval_listComp {elt : Expr} {gens : List Comprehension} {scope : Scope} {pos : Pos} {env : Env} : eval (.ListComp elt gens scope pos) env =
    comprehension (.ListComp elt gens scope pos) scope env (firstIterPos gens pos) (newList []) (firstAsync gens) (firstIter gens env) := rfl

theorem Ev_comp {t iter elt : Expr} {ifs : List Expr} {scope : Scope} {pos : Pos} {F : D → Option D} {ds : List D} (hk : scope.kind = .function) (hc : CompNm nm scope.names) (hit : EvIt Y n nm σ t iter ds) (hs : ∀ env x, foldedSetIterable iter env x = pure x)
    (hb : ∀ d ∈ ds, CompBody Y n scope.names (kept scope.names σ) t ifs elt d (F d)) (hlen : ds.length ≤ 100000) : Ev Y n nm σ (.ListComp elt [⟨t, iter, ifs, 0⟩] scope pos) (.list (ds.filterMap F)) := by
  intro A env k g s hA hE F₀
  rw [eval_listComp]
  refine comp_any (use := none) hA hE F₀ hk hc hit (hs env) hb hlen ?_
  intro s' G a C its i K hgG hGl hGold ha ha' hGa hrep hC hGC hCa hns
  obtain ⟨m, hm⟩ := hns
  refine ⟨m, hm, fun h' hsb => ?_⟩
  have hk' : Le (Y.see s.heap) (Y.see h') := fun b o e => see_same (fun o' e' => (hsb.2 b (fun h => by rw [h, see_none hC] at e; cases e)).trans e') (keeps_le K _ _ e)
  have hti : Y.tabInv s.heap → Y.tabInv h' := fun z => Y.tabKeep _ _ (fun b o hf e => (hsb.2 b (fun h => by
    obtain ⟨o', es, ep, e', d, _⟩ := hm
    rw [h, e'] at e; cases e
    obtain ⟨⟨vs, hf⟩, _⟩ := hf
    rw [hf] at d; cases d)).trans e) (keeps_inv K z)
  have hgl : Le G (Y.see h') := fun b o e => see_same (fun o' e' => (hsb.2 b (fun h => by rw [h, hGC] at e; cases e)).trans e') (hGl _ _ e)
  have hin := grow_in hgl hk' hGold
  obtain ⟨h₁, t₁, rfl, _⟩ := K
  refine ⟨⟨h', t₁, rfl, hk', hti⟩, ?_⟩
  simp only [Rep]
  exact ⟨a, its, rfl, ⟨i, grow_new ha ((hsb.2 a (Ne.symm hCa)).trans ha') (.seq rfl)⟩, RepAll.mono hin _ _ hrep⟩

end Mine
end

section
open PySem
namespace Mine
variable {Y : Law} {n : Nat} {nm : Nm} {σ : Sto}

inductive Fl where
  | next
  | ret (d : D)
noncomputable def FlIs (Y : Law) (g : Gh) : Fl → Flow → Prop
  | .next, f => f = .next
  | .ret d, f => ∃ v, f = .ret v ∧ Rep Y g d v

noncomputable def Ends (Y : Law) (env : Env) (k g : Gh) (s : Shared) (φ : Fl) (σ' : Sto) : Flow → Shared → Prop := fun f s' =>
  ShT s s' ∧ ∃ g', Le g g' ∧ (∀ a o, k a = some o → Held Y a o → g a = none → g' a = none) ∧ Frm Y env k g' σ' s'.heap ∧ FlIs Y g' φ f

noncomputable def Ex (Y : Law) (n : Nat) (nm : Nm) (σ : Sto) (ss : List Stmt) (φ : Fl) (σ' : Sto) : Prop :=
  ∀ (A : Around) (env : Env) (k g : Gh) (s : Shared), AOk n A → EnvOk nm env → Frm Y env k g σ s.heap → Tr Y A (execs ss env) s (Ends Y env k g s φ σ')
noncomputable def Ex1 (Y : Law) (n : Nat) (nm : Nm) (σ : Sto) (st : Stmt) (φ : Fl) (σ' : Sto) : Prop :=
  ∀ (A : Around) (env : Env) (k g : Gh) (s : Shared), AOk n A → EnvOk nm env → Frm Y env k g σ s.heap → Tr Y A (exec st env) s (Ends Y env k g s φ σ')

theorem Ends.trans {env : Env} {k g g₁ : Gh} {s s₁ : Shared} {φ : Fl} {σ' : Sto} {f : Flow} {s₂ : Shared} (hs : ShT s s₁) (hg : Le g g₁) (hk : ∀ a o, k a = some o → Held Y a o → g a = none → g₁ a = none) (h : Ends Y env k g₁ s₁ φ σ' f s₂) : Ends Y env k g s φ σ' f s₂ := by
  obtain ⟨h1, g', h2, h3, h4, h5⟩ := h
  exact ⟨hs.trans h1, g', hg.trans h2, fun a o e hh ga => h3 a o e hh (hk a o e hh ga), h4, h5⟩

theorem Ex_nil : Ex Y n nm σ [] .next σ := by
  intro A env k g s hA hE F
  exact wpAny_execs_nil ⟨ShT.rfl, g, Le.rfl, fun _ _ _ _ h => h, F, rfl⟩
theorem Ex_cons {st : Stmt} {rest : List Stmt} {σ₁ σ' : Sto} {φ : Fl} (h : Ex1 Y n nm σ st .next σ₁) (hr : Ex Y n nm σ₁ rest φ σ') : Ex Y n nm σ (st :: rest) φ σ' := by
  intro A env k g s hA hE F
  refine wpAny_execs_cons ((h A env k g s hA hE F).mono fun f s₁ h₁ => ?_)
  obtain ⟨hs, g', hg, hk, F', hf⟩ := h₁
  have : f = .next := hf
  subst this
  exact (hr A env k g' s₁ hA hE F').mono fun f s₂ h₂ => Ends.trans hs hg hk h₂
theorem Ex_cons_ret {st : Stmt} {rest : List Stmt} {σ₁ : Sto} {d : D} (h : Ex1 Y n nm σ st (.ret d) σ₁) : Ex Y n nm σ (st :: rest) (.ret d) σ₁ := by
  intro A env k g s hA hE F
  refine wpAny_execs_cons ((h A env k g s hA hE F).mono fun f s₁ h₁ => ?_)
  obtain ⟨hs, g', hg, hk, F', v, rfl, r⟩ := h₁
  exact ⟨hs, g', hg, hk, F', v, rfl, r⟩

noncomputable def Sub (σ' σ : Sto) : Prop := ∀ x sl, σ'.lookup x = some sl → σ.lookup x = some sl
theorem Sub.rfl {σ : Sto} : Sub σ σ := fun _ _ h => h
theorem Sub.nil : Sub [] σ := fun x sl h => by cases h
theorem Sub.cons {x : Str} {sl : Sl} {σ' : Sto} (h : σ.lookup x = some sl) (hr : Sub σ' σ) : Sub ((x, sl) :: σ') σ := fun y s hy => by
  rw [List.lookup_cons] at hy
  cases hb : y == x with
  | true => rw [hb] at hy; cases hy; rw [beq_iff_eq.mp hb]; exact h
  | false => rw [hb] at hy; exact hr y s hy
theorem Ex_post {ss : List Stmt} {φ : Fl} {σ₁ σ' : Sto} (h : Ex Y n nm σ ss φ σ₁) (hs : Sub σ' σ₁) : Ex Y n nm σ ss φ σ' := by
  intro A env k g s hA hE F
  refine (h A env k g s hA hE F).mono fun f s₁ h₁ => ?_
  obtain ⟨a, g', b, c, d, e⟩ := h₁
  exact ⟨a, g', b, c, d.sub hs, e⟩
theorem Ex1_post {ss : Stmt} {φ : Fl} {σ₁ σ' : Sto} (h : Ex1 Y n nm σ ss φ σ₁) (hs : Sub σ' σ₁) : Ex1 Y n nm σ ss φ σ' := by
  intro A env k g s hA hE F
  refine (h A env k g s hA hE F).mono fun f s₁ h₁ => ?_
  obtain ⟨a, g', b, c, d, e⟩ := h₁
  exact ⟨a, g', b, c, d.sub hs, e⟩
theorem Ex_pre {ss : List Stmt} {φ : Fl} {σ₀ σ' : Sto} (h : Ex Y n nm σ₀ ss φ σ') (hs : Sub σ₀ σ) : Ex Y n nm σ ss φ σ' := by
  intro A env k g s hA hE F
  exact h A env k g s hA hE (F.sub hs)
theorem Frm.freeze {env : Env} {k g : Gh} {h : Heap} {x : Str} {xs : List D} (F : Frm Y env k g σ h) (hx : σ.lookup x = some (.own xs)) :
    ∃ g', Le g g' ∧ (∀ a o, k a = some o → Held Y a o → g a = none → g' a = none) ∧ Frm Y env k g' ((x, .val (.list xs)) :: σ) h ∧ ∀ b, (∀ o, h.get? b = some o → b ≠ b) → True := by
  obtain ⟨v, V, a, its, rfl, ka, ga, ⟨i, e⟩, r⟩ := F.vars x _ hx
  have hg : Le g (setG g a (listO its i)) := fun b o eb => by
    rw [setG_ne (fun h => by subst h; rw [ga] at eb; cases eb)]; exact eb
  obtain ⟨m, hm⟩ := F.ns
  have hLa : env.locals ≠ a := fun e' => (plain_ne_ns hm ⟨i, e⟩) e'.symm
  have hca : ∀ c v, h.IsCell c v → c ≠ a := fun c v hv e' => (plain_ne_cell hv ⟨i, e⟩) e'.symm
  refine ⟨setG g a (listO its i), hg, fun b o eb _ gb => by rw [setG_ne (fun h => by subst h; rw [ka] at eb; cases eb)]; exact gb, ?_, fun _ _ => trivial⟩
  refine ⟨⟨F.top.1.trans hg, F.top.2⟩, F.lek, ?_, F.ns, F.kL, by rw [setG_ne hLa]; exact F.gL, fun y c h1 h2 => ?_, F.frees, fun y sl hy => ?_, fun y z ys zs b hy hz Vy Vz => ?_⟩
  · intro b o eb
    by_cases hb : b = a
    · subst hb; rw [setG_self] at eb; cases eb; exact see_of e (.seq rfl)
    · rw [setG_ne hb] at eb; exact F.leg _ _ eb
  · obtain ⟨⟨w, hw⟩, kc, gc⟩ := F.cells y c h1 h2
    exact ⟨⟨w, hw⟩, kc, by rw [setG_ne (hca c w hw)]; exact gc⟩
  · rw [List.lookup_cons] at hy
    cases hb : y == x with
    | true =>
      rw [hb] at hy; cases hy
      rw [beq_iff_eq.mp hb]
      refine ⟨_, V, ?_⟩
      show Rep Y _ (.list xs) (.ref a)
      simp only [Rep]
      exact ⟨a, its, rfl, ⟨i, setG_self _ _ _⟩, RepAll.mono hg _ _ r⟩
    | false =>
      rw [hb] at hy
      obtain ⟨w, W, S⟩ := F.vars y sl hy
      refine ⟨w, W, ?_⟩
      cases sl with
      | val d => exact Rep.mono hg _ _ S
      | own ys =>
        obtain ⟨b, its', rfl, kb, gb, p, r'⟩ := S
        have hne : b ≠ a := fun e' => by
          subst e'
          have := F.own y x ys xs b hy hx W V
          rw [this] at hb; simp at hb
        exact ⟨b, its', rfl, kb, by rw [setG_ne hne]; exact gb, p, RepAll.mono hg _ _ r'⟩
  · rw [List.lookup_cons] at hy hz
    cases hby : y == x with
    | true => rw [hby] at hy; cases hy
    | false =>
      rw [hby] at hy
      cases hbz : z == x with
      | true => rw [hbz] at hz; cases hz
      | false => rw [hbz] at hz; exact F.own y z ys zs b hy hz Vy Vz
theorem Ex_freeze {x : Str} {xs : List D} {ss : List Stmt} {φ : Fl} {σ' : Sto} (hx : σ.lookup x = some (.own xs)) (h : Ex Y n nm ((x, .val (.list xs)) :: σ) ss φ σ') : Ex Y n nm σ ss φ σ' := by
  intro A env k g s hA hE F
  obtain ⟨g', hg, hk, F', _⟩ := F.freeze hx
  exact (h A env k g' s hA hE F').mono fun f s₂ h₂ => Ends.trans ShT.rfl hg hk h₂
theorem held_see {h : Heap} {a : Addr} {o o' : Obj} (e : Y.see h a = some o) (e' : h.get? a = some o') (hh : Held Y a o) : Held Y a o' := by
  by_cases ha : a = Y.tab
  · subst ha; exact .tab
  · rw [see_ne ha, e'] at e; cases e; exact hh
theorem sep_grow {k g : Gh} {s s' : Shared} (hk : Le k (Y.see s.heap)) : ∀ a o, k a = some o → Held Y a o → g a = none → grow Y g s.heap s'.heap a = none := fun a o e hh ga => by
  obtain ⟨o', e'⟩ := see_live (hk _ _ e)
  rw [grow_old e' (held_see (hk _ _ e) e' hh)]; exact ga

theorem Ex1_ret {e : Expr} {p : Pos} {d : D} (h : Ev Y n nm σ e d) : Ex1 Y n nm σ (.Return (some e) p) (.ret d) σ := by
  intro A env k g s hA hE F
  refine wpAny_Return_some ((h A env k g s hA hE F).mono fun v s' h' => ?_)
  exact ⟨keeps_sht h'.1, _, le_grow F.leg, sep_grow F.lek, F.grows h'.1, v, rfl, h'.2⟩
theorem Ex1_if {t : Expr} {b e : List Stmt} {p : Pos} {c : Bool} {φ : Fl} {σ' : Sto} (ht : EvT Y n nm σ t c) (hb : c = true → Ex Y n nm σ b φ σ') (he : c = false → Ex Y n nm σ e φ σ') : Ex1 Y n nm σ (.If t b e p) φ σ' := by
  intro A env k g s hA hE F
  refine wpAny_If ((ht A env k g s hA hE F).mono fun x s₁ h₁ => ?_)
  obtain ⟨K, rfl⟩ := h₁
  cases x with
  | true => exact ((hb rfl) A env k _ s₁ hA hE (F.grows K)).mono fun f s₂ h₂ => Ends.trans (keeps_sht K) (le_grow F.leg) (sep_grow F.lek) h₂
  | false => exact ((he rfl) A env k _ s₁ hA hE (F.grows K)).mono fun f s₂ h₂ => Ends.trans (keeps_sht K) (le_grow F.leg) (sep_grow F.lek) h₂

theorem Ex1_assign {x : Str} {p p' : Pos} {e : Expr} {d : D} (hx : Mine.Able nm x) (h : Ev Y n nm σ e d) (hs : ∀ env, EnvOk nm env → swapsWith e (some (.Name x p)) p'.line env = pure false) : Ex1 Y n nm σ (.Assign [.Name x p] e p') .next ((x, .val d) :: σ) := by
  intro A env k g s hA hE F
  refine wpAny_Assign_Name ((h A env k g s hA hE F).mono fun v s₁ h₁ => ?_) (hs env hE)
  have F₁ := F.grows h₁.1
  refine store_ok hE F₁ hx (sl := .val d) h₁.2 (by intro _ _ _ _ h; cases h) fun s₂ hs₂ _ F₂ => ?_
  exact ⟨(keeps_sht h₁.1).trans hs₂, _, le_grow F.leg, sep_grow F.lek, F₂, rfl⟩
theorem swaps_cell {x : Str} {p : Pos} {elt : Expr} {gens : List Comprehension} {scope : Scope} {pos : Pos} {l : Nat} {env : Env} (hE : EnvOk nm env) (hx : nm.lookup x = some .cell) : swapsWith (.ListComp elt gens scope pos) (some (.Name x p)) l env = pure false := by
  have hk := cell_kind hE hx
  show (pure (env.blockKind == .function && env.kindOf x == some .local && _ && _) : Sem Bool) = _
  have h2 : (some NameKind.cell == some NameKind.local) = false := by decide
  rw [hk, h2, Bool.and_false, Bool.false_and, Bool.false_and]
end Mine
end

section
open PySem
namespace Mine
variable {Y : Law} {n : Nat} {nm : Nm} {σ : Sto}

theorem plain_isList {h : Heap} {a : Addr} {its : Array Value} (x : h.PlainList a its) : h.IsList a its := by
  obtain ⟨i, e⟩ := x
  exact ⟨_, e, rfl, i, rfl⟩

theorem own_sub {x : Str} {xp p : Pos} {slice : Expr} {xs : List D} {i d : D} (hx : σ.lookup x = some (.own xs)) (hd : (x == ("__debug__" : Str)) = false) (hc : (x == ("__classdict__" : Str)) = false) (hi : Ev Y n nm σ slice i)
    (hs : ∀ o i, subscripted slice false o i = operate [o, i] (getItem o i))
    (ho : ∀ (A : Around) (g : Gh) (s : Shared) (a : Addr) (its : Array Value) (v : Value), AOk n A → Le g (Y.see s.heap) → s.heap.IsList a its → RepAll Y g xs its.toList → Rep Y g i v → Tr Y A (getItem (.ref a) v) s (Post Y g s d)) :
    Ev Y n nm σ (.Subscript (.Name x xp) slice p) d := by
  intro A env k g s hA hE F
  obtain ⟨v, V, a, its, rfl, ka, ga, hp, hr⟩ := F.vars x _ hx
  refine sub_core (wpAny_Name (load_ok hE.kind V ?_ hc) hd) (.inl hs)
  refine (hi A env k g s hA hE F).mono fun u s₂ h₂ => ?_
  have F₂ := F.grows h₂.1
  have hl := plain_isList (PlainList.see (keeps_le h₂.1) hp)
  refine ⟨⟨"list", _, (gets_type (d := .list []) (.inl rfl)).choose_spec, hl.typeIs⟩, ?_⟩
  exact (ho A _ s₂ a its u hA F₂.leg hl (RepAll.mono (le_grow F.leg) _ _ hr) h₂.2).mono fun y s₃ h₃ => post_trans h₂.1 h₃

theorem Ev_own_item {x : Str} {xp p : Pos} {slice : Expr} {xs : List D} {i : Int} {d : D} (hx : σ.lookup x = some (.own xs)) (hd : (x == ("__debug__" : Str)) = false) (hc : (x == ("__classdict__" : Str)) = false) (hi : Ev Y n nm σ slice (.int i))
    (hs : ∀ o i, subscripted slice false o i = operate [o, i] (getItem o i)) (h0 : 0 ≤ i) (h1 : i < 1000000) (hdd : xs[i.toNat]? = some d) : Ev Y n nm σ (.Subscript (.Name x xp) slice p) d := by
  refine own_sub hx hd hc hi hs ?_
  intro A g s a its v hA hg hl hr rv
  simp only [Rep] at rv
  obtain ⟨t, rfl⟩ := rv
  obtain ⟨y, hy, ry⟩ := RepAll.get hr hdd
  exact wpAny_getItem_list hl h0 (by omega) (by simpa using hy) (post_self hg ry)
theorem Ev_own_item_neg {x : Str} {xp p : Pos} {slice : Expr} {xs : List D} {i : Int} {d : D} (hx : σ.lookup x = some (.own xs)) (hd : (x == ("__debug__" : Str)) = false) (hc : (x == ("__classdict__" : Str)) = false) (hi : Ev Y n nm σ slice (.int i))
    (hs : ∀ o i, subscripted slice false o i = operate [o, i] (getItem o i)) (h0 : i < 0) (h1 : -(xs.length : Int) ≤ i) (h2 : -1000000 < i) (hdd : xs[(i + xs.length).toNat]? = some d) : Ev Y n nm σ (.Subscript (.Name x xp) slice p) d := by
  refine own_sub hx hd hc hi hs ?_
  intro A g s a its v hA hg hl hr rv
  simp only [Rep] at rv
  obtain ⟨t, rfl⟩ := rv
  obtain ⟨y, hy, ry⟩ := RepAll.get hr hdd
  have za := RepAll.length hr
  rw [Array.length_toList] at za
  exact wpAny_getItem_list_neg hl h0 (by rw [za]; exact h1) (by omega) (by rw [za]; simpa using hy) (post_self hg ry)

theorem Frm.turn {env : Env} {k g : Gh} {h h' : Heap} {x : Str} {a : Addr} {its' : Array Value} {xs ys : List D} (F : Frm Y env k g σ h) (hx : σ.lookup x = some (.own xs)) (V : VarIs env h x (.ref a)) (hs : Heap.SameBut a h h') (hp : h'.PlainList a its') (r : RepAll Y g ys its'.toList) :
    Frm Y env k g ((x, .own ys) :: σ) h' := by
  obtain ⟨v, V', a', its, rfl, ka, ga, ⟨i, e⟩, _⟩ := F.vars x _ hx
  have := VarIs.inj V V'
  cases this
  have ht : Turns [a] h h' := fun b o hb e => (hs.2 b (by simpa using hb)).trans e
  obtain ⟨m, hm⟩ := F.ns
  have hL : env.locals ≠ a := fun e' => (plain_ne_ns hm ⟨i, e⟩) e'.symm
  have hca : ∀ c v, h.IsCell c v → c ≠ a := fun c v hv e' => (plain_ne_cell hv ⟨i, e⟩) e'.symm
  have hcell : ∀ c v, h.IsCell c v → h'.IsCell c v := fun c v hv => hv.sameBut hs (hca c v hv)
  have hV : ∀ x v, VarIs env h x v → VarIs env h' x v := fun x v V => by
    rcases V with ⟨a, m', b, c⟩ | ⟨a, c, b, d⟩
    · exact .inl ⟨a, m', b.sameBut hs hL, c⟩
    · exact .inr ⟨a, c, b, hcell _ _ d⟩
  refine ⟨F.top.mono Le.rfl fun b o hf e' => (hs.2 b (fun hb => by rw [hb, e] at e'; cases e'; obtain ⟨⟨_, x⟩, _⟩ := hf; cases x)).trans e', ?_, ?_, ⟨m, hm.sameBut hs hL⟩, F.kL, F.gL, fun y c h1 h2 => ?_, fun x c h1 h2 => let ⟨v, hv⟩ := F.frees x c h1 h2; ⟨v, hcell _ _ hv⟩, fun y sl hy => ?_, fun y z us zs b hy hz Vy Vz => ?_⟩
  · intro b o eb
    have hb : b ≠ a := fun h => by subst h; rw [ka] at eb; cases eb
    exact see_same (fun o e => (hs.2 b hb).trans e) (F.lek _ _ eb)
  · intro b o eb
    have hb : b ≠ a := fun h => by subst h; rw [ga] at eb; cases eb
    exact see_same (fun o e => (hs.2 b hb).trans e) (F.leg _ _ eb)
  · obtain ⟨⟨w, hw⟩, kc, gc⟩ := F.cells y c h1 h2
    exact ⟨⟨w, hcell _ _ hw⟩, kc, gc⟩
  · rw [List.lookup_cons] at hy
    cases hb : y == x with
    | true =>
      rw [hb] at hy; cases hy
      rw [beq_iff_eq.mp hb]
      exact ⟨_, hV _ _ V, a, its', rfl, ka, ga, hp, r⟩
    | false =>
      rw [hb] at hy
      obtain ⟨w, W, S⟩ := F.vars y sl hy
      refine ⟨w, hV _ _ W, ?_⟩
      cases sl with
      | val d => exact S
      | own zs =>
        obtain ⟨b, its₂, rfl, kb, gb, ⟨j, p⟩, r'⟩ := S
        have hne : b ≠ a := fun e' => by
          subst e'
          have := F.own y x zs xs b hy hx W V
          rw [this] at hb; simp at hb
        exact ⟨b, its₂, rfl, kb, gb, ⟨j, (hs.2 b hne).trans p⟩, r'⟩
  · have back : ∀ y zs b, (((x, Sl.own ys) :: σ : Sto).lookup y = some (.own zs)) → VarIs env h' y (.ref b) → ∃ zs', σ.lookup y = some (.own zs') ∧ VarIs env h y (.ref b) := by
      intro y zs b hy W
      rw [List.lookup_cons] at hy
      cases hb : y == x with
      | true =>
        have e1 := beq_iff_eq.mp hb
        subst e1
        have := VarIs.inj W (hV _ _ V)
        rw [this]
        exact ⟨_, hx, V⟩
      | false =>
        rw [hb] at hy
        obtain ⟨w, W', _⟩ := F.vars y _ hy
        have := VarIs.inj W (hV _ _ W')
        rw [this]
        exact ⟨_, hy, W'⟩
    obtain ⟨y1, h1, V1⟩ := back y _ b hy Vy
    obtain ⟨z1, h2, V2⟩ := back z _ b hz Vz
    exact F.own y z _ _ b h1 h2 V1 V2

theorem Ex1_append {x : Str} {xp ap cp p : Pos} {e : Expr} {xs : List D} {d : D} (hx : σ.lookup x = some (.own xs)) (hd : (x == ("__debug__" : Str)) = false) (hc : (x == ("__classdict__" : Str)) = false) (he : Ev Y n nm σ e d)
    (hbase : ∀ env, attributeBase (.Name x xp) "append" env (eval (.Name x xp) env) = eval (.Name x xp) env)
    (hfew : ∀ env, ((backTo cp (starEach [e] env)).all (fun x => !x.1) && (backToKw cp (keywordEach [] env)).all (fun x => x.1.isSome)
      && decide (([e] : List Expr).length + ([] : List Keyword).length + (if ([] : List Keyword).isEmpty then 0 else 1) < 30)) = true)
    (hline : (ap.endLine == cp.line) = true)
    (htrees : ∀ env, backTo cp (starEach [e] env) = [(false, eval e env)]) (hint : ∀ env, EnvOk nm env → interactive env = false)
    (hz : xs.length ≤ 100000) :
    Ex1 Y n nm σ (.Expr (.Call (.Attribute (.Name x xp) "append" ap) [e] [] cp) p) .next ((x, .own (xs ++ [d])) :: σ) := by
  intro A env k g s hA hE F
  obtain ⟨v, V, a, its, rfl, ka, ga, hp, hr⟩ := F.vars x _ hx
  refine wpAny_Expr (wpAny_Call_append (hbase env) (hfew env) hline (htrees env) (wpAny_Name (load_ok hE.kind V ?_ hc) hd)) (hint env hE) rfl
  refine ⟨a, its, rfl, ?_, ?_⟩
  · obtain ⟨i, e⟩ := hp; exact ⟨_, i, e, rfl, rfl, rfl⟩
  refine (he A env k g s hA hE F).mono fun u s₂ h₂ => ?_
  have F₂ := F.grows h₂.1
  have zl := RepAll.length hr
  rw [Array.length_toList] at zl
  refine wpAny_list_append_plain (PlainList.see (keeps_le h₂.1) hp) (fun h' hp' hs' => ?_) (by rw [zl]; exact Nat.le_trans hz (by decide))
  show Ends Y env k g s Fl.next _ Flow.next _
  refine ⟨(keeps_sht h₂.1).trans ⟨h', s₂.toks, rfl⟩, grow Y g s.heap s₂.heap, le_grow F.leg, sep_grow F.lek, ?_, rfl⟩
  refine F₂.turn hx (V.see (keeps_le h₂.1)) hs' hp' ?_
  rw [Array.toList_push]
  refine RepAll.append (RepAll.mono (le_grow F.leg) _ _ hr) ?_
  simp only [RepAll]
  exact ⟨u, [], rfl, h₂.2, rfl⟩

noncomputable def isOwn : Sl → Bool
  | .own _ => true
  | _ => false
noncomputable def SlNew (Y : Law) (g : Gh) (h h' : Heap) : Sl → Value → Prop
  | .val d, v => Rep Y g d v
  | .own xs, v => ∃ a its, v = .ref a ∧ h.get? a = none ∧ g a = none ∧ h'.PlainList a its ∧ RepAll Y g xs its.toList
inductive SlsNew (Y : Law) (g : Gh) (h h' : Heap) : List Sl → List Value → Prop
  | nil : SlsNew Y g h h' [] []
  | cons {sl v sls vs} : SlNew Y g h h' sl v → (∀ p ∈ sls.zip vs, isOwn sl = true → isOwn p.1 = true → p.2 ≠ v) → SlsNew Y g h h' sls vs → SlsNew Y g h h' (sl :: sls) (v :: vs)

noncomputable def SlsPost (Y : Law) (g : Gh) (s : Shared) (sls : List Sl) : List Value → Shared → Prop := fun vs s' =>
  Kp Y s s' ∧ ∃ g', Le g g' ∧ Le g' (Y.see s'.heap) ∧ (∀ a o, s.heap.get? a = some o → Held Y a o → g' a = g a) ∧ SlsNew Y g' s.heap s'.heap sls vs

noncomputable def EvSls (Y : Law) (n : Nat) (nm : Nm) (σ : Sto) (es : List Expr) (sls : List Sl) : Prop :=
  ∀ (A : Around) (env : Env) (k g : Gh) (s : Shared) (pos : Pos), AOk n A → EnvOk nm env → Frm Y env k g σ s.heap → Tr Y A (spliced (backTo pos (starEach es env))) s (SlsPost Y g s sls)

theorem SlNew.less {g g' : Gh} {h₀ h h' h'' : Heap} {sl : Sl} {v : Value} (hg : Le g g') (hn : ∀ a o, h'.get? a = some o → Held Y a o → g' a = g a) (hk : Le (Y.see h') (Y.see h'')) (h0 : ∀ b, h.get? b = none → h₀.get? b = none) (x : SlNew Y g h h' sl v) : SlNew Y g' h₀ h'' sl v := by
  cases sl with
  | val d => exact Rep.mono hg _ _ x
  | own xs =>
    obtain ⟨a, its, rfl, ha, ga, hp, r⟩ := x
    refine ⟨a, its, rfl, h0 _ ha, ?_, PlainList.see hk hp, RepAll.mono hg _ _ r⟩
    · obtain ⟨i, e⟩ := hp; rw [hn _ _ e (.seq rfl)]; exact ga
theorem SlsNew.less {g : Gh} {h₀ h h' : Heap} {sls : List Sl} {vs : List Value} (h0 : ∀ b, h.get? b = none → h₀.get? b = none) (x : SlsNew Y g h h' sls vs) : SlsNew Y g h₀ h' sls vs := by
  induction x with
  | nil => exact .nil
  | cons a b _ ih => exact .cons (a.less Le.rfl (fun _ _ _ _ => rfl) Le.rfl h0) b ih
theorem SlsNew.own_new {g : Gh} {h h' : Heap} {sls : List Sl} {vs : List Value} (x : SlsNew Y g h h' sls vs) : ∀ p ∈ sls.zip vs, isOwn p.1 = true → ∃ a, p.2 = .ref a ∧ h.get? a = none := by
  induction x with
  | nil => intro p hp; simp at hp
  | @cons sl v sls vs a _ _ ih =>
    intro p hp ho
    rw [List.zip_cons_cons] at hp
    rcases List.mem_cons.mp hp with rfl | hp
    · cases sl with
      | val d => cases ho
      | own xs => obtain ⟨a, its, e, ha, _⟩ := a; exact ⟨a, e, ha⟩
    · exact ih p hp ho

theorem EvSls_nil : EvSls Y n nm σ [] [] := by
  intro A env k g s pos hA hE F
  exact wpAny_items_nil ⟨keeps_refl s, g, Le.rfl, F.leg, fun _ _ _ _ => rfl, .nil⟩
theorem slsPost_cons {g g₁ : Gh} {s s₁ s₂ : Shared} {sl : Sl} {sls : List Sl} {v : Value} {vs : List Value} (K : Kp Y s s₁) (hg : Le g g₁) (hold : ∀ a o, s.heap.get? a = some o → Held Y a o → g₁ a = g a) (hv : SlNew Y g₁ s.heap s₁.heap sl v) (P : SlsPost Y g₁ s₁ sls vs s₂) :
    SlsPost Y g s (sl :: sls) (v :: vs) s₂ := by
  obtain ⟨K₂, g₂, hg₂, hl₂, hold₂, hn⟩ := P
  refine ⟨keeps_trans K K₂, g₂, hg.trans hg₂, hl₂, fun a o e hh => (let ⟨o', e', hl⟩ := keeps_liveH K e; hold₂ a o' e' (hl hh)).trans (hold a o e hh), .cons (hv.less hg₂ hold₂ (keeps_le K₂) fun _ h => h) ?_ (hn.less fun _ h => keeps_none K h)⟩
  intro p hp h1 h2 e
  obtain ⟨a, ea, ha⟩ := hn.own_new p hp h2
  cases sl with
  | val d => cases h1
  | own xs =>
    obtain ⟨b, its, rfl, _, _, ⟨i, eb⟩, _⟩ := hv
    rw [e] at ea; cases ea
    rw [ha] at eb; cases eb
theorem EvSls_val {e : Expr} {es : List Expr} {d : D} {sls : List Sl} (he : Ev Y n nm σ e d) (hes : EvSls Y n nm σ es sls) (hs : ∀ env, starEach (e :: es) env = (false, eval e env) :: starEach es env) : EvSls Y n nm σ (e :: es) (.val d :: sls) := by
  intro A env k g s pos hA hE F
  refine wpAny_items_cons ((he A env k g s hA hE F).mono fun v s₁ h₁ => ?_) (hs env)
  have F₁ := F.grows h₁.1
  exact (hes A env k _ s₁ pos hA hE F₁).mono fun vs s₂ h₂ => slsPost_cons h₁.1 (le_grow F.leg) (fun a o e hh => grow_old e hh) h₁.2 h₂
theorem EvSls_own {fs : List Expr} {lp : Pos} {es : List Expr} {ds : List D} {sls : List Sl} (he : EvArgs Y n nm σ fs ds) (hz : ds.length ≤ 1000) (hes : EvSls Y n nm σ es sls)
    (hs : ∀ env, starEach (.List fs lp :: es) env = (false, eval (.List fs lp) env) :: starEach es env) : EvSls Y n nm σ (.List fs lp :: es) (.own ds :: sls) := by
  intro A env k g s pos hA hE F
  refine wpAny_items_cons (wpAny_List ((he A env k g s lp hA hE F).mono fun ws s₁ h₁ => ⟨?_, ?_⟩)) (hs env)
  · rw [RepAll.length h₁.2]; exact Nat.le_trans hz (by decide)
  have F₁ := F.grows h₁.1
  have K₂ : Kp Y s₁ _ := keeps_push s₁ { cls := .type "list", data := .seq ws.toArray } s₁.toks
  have F₂ : Frm Y env k (grow Y g s.heap s₁.heap) σ (s₁.heap.push { cls := .type "list", data := .seq ws.toArray }) :=
    F₁.freshK K₂ Le.rfl (F₁.leg.trans (keeps_le K₂)) fun _ _ _ _ => rfl
  refine (hes A env k _ _ pos hA hE F₂).mono fun vs s₂ h₂ => slsPost_cons (keeps_trans h₁.1 K₂) (le_grow F.leg) (fun a o e hh => grow_old e hh) ?_ h₂
  have hn : s.heap.get? s₁.heap.objs.size = none := by
    exact keeps_none h₁.1 (size_none _)
  exact ⟨_, ws.toArray, rfl, hn, by rw [grow_fresh hn]; exact see_none (size_none _), ⟨0, Heap.get?_push_size _ rfl⟩, by simpa using h₁.2⟩

noncomputable def pushSl (bs : List (Str × Sl)) (σ : Sto) : Sto := bs.foldl (fun σ b => b :: σ) σ

theorem stores_ok {env : Env} {k g : Gh} {A : Around} (hE : EnvOk nm env) : ∀ (xs : List Str) (sls : List Sl) (vs : List Value) (acts : List (Value → Sem Unit)) (σ : Sto) (s : Shared) (Q : Unit → Shared → Prop),
    Frm Y env k g σ s.heap → xs.length = sls.length → sls.length = vs.length → acts.length = vs.length →
    (∀ p ∈ xs.zip acts, ∀ (v : Value) (s : Shared) (Q : Unit → Shared → Prop), Tr Y A (storeName env p.1 v) s Q → Tr Y A (p.2 v) s Q) → (∀ x ∈ xs, Mine.Able nm x) →
    (∀ p ∈ sls.zip vs, SlRep Y k g s.heap p.1 p.2) → ((sls.zip vs).Pairwise fun p q => isOwn p.1 = true → isOwn q.1 = true → p.2 ≠ q.2) →
    (∀ p ∈ sls.zip vs, isOwn p.1 = true → ∀ y zs b, σ.lookup y = some (.own zs) → VarIs env s.heap y (.ref b) → p.2 ≠ .ref b) →
    (∀ s', ShT s s' → Frm Y env k g (pushSl (xs.zip sls) σ) s'.heap → Q () s') → Tr Y A (assignInOrder acts vs) s Q
  | [], sls, vs, acts, σ, s, Q, F, h1, h2, h3, _, _, _, _, _, hQ => by
    have : sls = [] := by simpa using h1.symm
    subst this
    have : vs = [] := by simpa using h2.symm
    subst this
    have : acts = [] := by simpa using h3
    subst this
    exact wpAny_pure (hQ s ShT.rfl F)
  | x :: xs, [], _, _, _, _, _, _, h1, _, _, _, _, _, _, _, _ => by simp at h1
  | x :: xs, sl :: sls, [], _, _, _, _, _, _, h2, _, _, _, _, _, _, _ => by simp at h2
  | x :: xs, sl :: sls, v :: vs, [], _, _, _, _, _, _, h3, _, _, _, _, _, _ => by simp at h3
  | x :: xs, sl :: sls, v :: vs, act :: acts, σ, s, Q, F, h1, h2, h3, ha, hx, hr, hp, ho, hQ => by
    show Tr Y A (do holding vs (act v); assignInOrder acts vs) s Q
    refine wpAny_bind (wpAny_holding (ha (x, act) (by simp) v s _ ?_))
    have hsl := hr (sl, v) (by simp)
    rw [List.zip_cons_cons, List.pairwise_cons] at hp
    refine store_okV hE F (hx x (by simp)) hsl (fun ys a y zs e1 e2 hy Vy => ?_) fun s' hs' hk' F' hvx hvo => ?_
    · exact absurd e2 (ho (sl, v) (by simp) (by rw [e1]; rfl) y zs a hy Vy)
    · have hpl : ∀ a its, s.heap.PlainList a its → s'.heap.PlainList a its := by
        intro a its hpa
        have : ¬ MyAddr nm env a := by
          rintro (rfl | ⟨y, hy, hc⟩)
          · obtain ⟨m, hm⟩ := F.ns; exact plain_ne_ns hm hpa rfl
          · obtain ⟨⟨w, hw⟩, _⟩ := F.cells y a (cell_kind hE hy) hc
            exact plain_ne_cell hw hpa rfl
        obtain ⟨i, e⟩ := hpa
        exact ⟨i, (hk' a this).trans e⟩
      refine stores_ok hE xs sls vs acts _ s' Q F' (by simpa using h1) (by simpa using h2) (by simpa using h3) (fun p hp => ha p (by rw [List.zip_cons_cons]; exact List.mem_cons_of_mem _ hp)) (fun y hy => hx y (List.mem_cons_of_mem _ hy)) (fun p hpm => ?_) hp.2 (fun p hpm hop y zs b hy Vy => ?_) fun s'' hs'' F'' => hQ s'' (hs'.trans hs'') F''
      · have := hr p (by rw [List.zip_cons_cons]; exact List.mem_cons_of_mem _ hpm)
        obtain ⟨sl', v'⟩ := p
        cases sl' with
        | val d => exact this
        | own zs => obtain ⟨a, its, e, ka, ga, pl, r⟩ := this; exact ⟨a, its, e, ka, ga, hpl _ _ pl, r⟩
      · rw [List.lookup_cons] at hy
        cases hb : y == x with
        | true =>
          rw [hb] at hy; cases hy
          have e1 := beq_iff_eq.mp hb
          subst e1
          have e2 := VarIs.inj Vy hvx
          rw [e2]
          exact fun e => hp.1 p hpm rfl hop e.symm
        | false =>
          rw [hb] at hy
          obtain ⟨w, Vw, _⟩ := F.vars y _ hy
          have e2 := VarIs.inj Vy (hvo y w (by simpa using hb) Vw)
          rw [← e2] at Vw
          exact ho p (by rw [List.zip_cons_cons]; exact List.mem_cons_of_mem _ hpm) hop y zs b hy Vw

theorem pairwise_of {Y : Law} {g : Gh} {h h' : Heap} {sls : List Sl} {vs : List Value} (x : SlsNew Y g h h' sls vs) : (sls.zip vs).Pairwise fun p q => isOwn p.1 = true → isOwn q.1 = true → p.2 ≠ q.2 := by
  induction x with
  | nil => exact List.Pairwise.nil
  | @cons sl v sls vs a b _ ih =>
    rw [List.zip_cons_cons, List.pairwise_cons]
    exact ⟨fun p hp h1 h2 e => b p hp h1 h2 e.symm, ih⟩
theorem SlsNew.length {g : Gh} {h h' : Heap} {sls : List Sl} {vs : List Value} (x : SlsNew Y g h h' sls vs) : sls.length = vs.length := by
  induction x with
  | nil => rfl
  | cons _ _ _ ih => simp [ih]
theorem SlsNew.rep {k g : Gh} {h h' : Heap} {sls : List Sl} {vs : List Value} (hk : Le k (Y.see h)) (x : SlsNew Y g h h' sls vs) : ∀ p ∈ sls.zip vs, SlRep Y k g h' p.1 p.2 := by
  induction x with
  | nil => intro p hp; simp at hp
  | @cons sl v sls vs a _ _ ih =>
    intro p hp
    rw [List.zip_cons_cons] at hp
    rcases List.mem_cons.mp hp with rfl | hp
    · cases sl with
      | val d => exact a
      | own xs =>
        obtain ⟨a, its, rfl, ha, ga, hp, r⟩ := a
        refine ⟨a, its, rfl, ?_, ga, hp, r⟩
        cases e : k a with
        | none => rfl
        | some o => obtain ⟨o', e'⟩ := see_live (hk _ _ e); rw [e'] at ha; cases ha
    · exact ih p hp

theorem tuple_stores {A : Around} {env : Env} {k g : Gh} {s : Shared} {es : List Expr} {q : Nat} {p : Pos} {sls : List Sl} {Q : Value → Shared → Prop} (hA : AOk n A) (hE : EnvOk nm env) (F : Frm Y env k g σ s.heap) (he : EvSls Y n nm σ es sls) (hz : sls.length ≤ 1000)
    (h : ∀ (t : Addr) (vs : List Value) (s' : Shared) (g' : Gh), ShT s s' → Le g g' → (∀ a o, k a = some o → Held Y a o → g a = none → g' a = none) → Frm Y env k g' σ s'.heap → s'.heap.IsTuple t vs.toArray → vs.length = sls.length →
      (∀ p ∈ sls.zip vs, SlRep Y k g' s'.heap p.1 p.2) → ((sls.zip vs).Pairwise fun p q => isOwn p.1 = true → isOwn q.1 = true → p.2 ≠ q.2) →
      (∀ p ∈ sls.zip vs, isOwn p.1 = true → ∀ y zs b, σ.lookup y = some (.own zs) → VarIs env s'.heap y (.ref b) → p.2 ≠ .ref b) → Q (.ref t) s') : Tr Y A (eval (.Tuple es q p) env) s Q := by
  rw [arm_eval_Tuple]
  refine wpAny_bind (wpAny_standAt (wpAny_bind ((he A env k g s p hA hE F).mono fun vs s₁ h₁ => ?_)))
  obtain ⟨K, g', hg, hl, hold, hn⟩ := h₁
  have hlen := hn.length
  refine wpAny_newTuple ?_ (by rw [← hlen]; exact Nat.le_trans hz (by decide))
  have K₂ := keeps_trans K (keeps_push s₁ { cls := .type "tuple", data := .seq vs.toArray } s₁.toks)
  have hle := keeps_le (Y := Y) (keeps_push s₁ { cls := .type "tuple", data := .seq vs.toArray } s₁.toks)
  have F₂ : Frm Y env k g' σ (s₁.heap.push { cls := .type "tuple", data := .seq vs.toArray }) := F.freshK K₂ hg (hl.trans hle) hold
  refine h _ vs _ g' (keeps_sht K₂) hg (fun a o e hh ga => by obtain ⟨o', e'⟩ := see_live (F.lek _ _ e); rw [hold a o' e' (held_see (F.lek _ _ e) e' hh)]; exact ga) F₂ ⟨_, Heap.get?_push_size _ rfl, rfl, 0, rfl⟩ hlen.symm (fun p hp => ?_) (pairwise_of hn) fun p hp ho y zs b hy Vy e => ?_
  · have := hn.rep F.lek p hp
    obtain ⟨sl, v⟩ := p
    cases sl with
    | val d => exact this
    | own xs => obtain ⟨a, its, e, ka, ga, pl, r⟩ := this; exact ⟨a, its, e, ka, ga, PlainList.see hle pl, r⟩
  · obtain ⟨a, ea, ha⟩ := hn.own_new p hp ho
    rw [e] at ea; cases ea
    obtain ⟨w, Vw, b', its, rfl, _, _, ⟨i, eb⟩, _⟩ := F.vars y _ hy
    have := VarIs.inj Vy (Vw.see (keeps_le K₂))
    cases this
    rw [eb] at ha; cases ha

theorem extBut_keeps {s : Shared} {h' : Heap} (hx : Heap.ExtBut s.heap.objs.size s.heap h') : Le s.heap.get? h'.get? := fun b o e => hx b o (fun hb => by rw [hb, size_none] at e; cases e) e

inductive TgtNames : List Expr → List Str → Prop
  | nil : TgtNames [] []
  | cons {x : Str} {p : Pos} {ts : List Expr} {ys : List Str} : TgtNames ts ys → TgtNames (.Name x p :: ts) (x :: ys)
theorem tgt_acts {env : Env} : ∀ {ts : List Expr} {xs : List Str}, TgtNames ts xs → (assignEach ts env).length = xs.length ∧ (assignEach ts env).findIdx? (·.1) = none ∧
    ∀ p ∈ xs.zip ((assignEach ts env).map (·.2)), ∀ (v : Value) (s : Shared) (A : Around) (Q : Unit → Shared → Prop), Tr Y A (storeName env p.1 v) s Q → Tr Y A (p.2 v) s Q := by
  intro ts xs h
  induction h with
  | nil => exact ⟨rfl, rfl, by intro p hp; simp at hp⟩
  | @cons x q ts ys h ih =>
    obtain ⟨h1, h2, h3⟩ := ih
    have e : assignEach (.Name x q :: ts) env = (false, assign (.Name x q) env) :: assignEach ts env := rfl
    refine ⟨by rw [e]; simp [h1], by rw [e]; simpa using h2, ?_⟩
    intro p hp v s A Q hq
    rw [e, List.map_cons, List.zip_cons_cons] at hp
    rcases List.mem_cons.mp hp with rfl | hp
    · exact wpAny_assign_Name hq
    · exact h3 p hp v s A Q hq

theorem Ex1_tuple {ts es : List Expr} {i q : Nat} {tp vp p : Pos} {xs : List Str} {sls : List Sl} (ht : TgtNames ts xs) (hx : ∀ x ∈ xs, Mine.Able nm x) (he : EvSls Y n nm σ es sls) (hl : xs.length = sls.length) (hz : sls.length ≤ 1000)
    (hs : ∀ env, swapsWithSole [.Tuple ts i tp] (.Tuple es q vp) p.line env = pure false) (hw : ∀ env, EnvOk nm env → swappedStores [.Tuple ts i tp] (.Tuple es q vp) env = pure none) :
    Ex1 Y n nm σ (.Assign [.Tuple ts i tp] (.Tuple es q vp) p) .next (pushSl (xs.zip sls) σ) := by
  intro A env k g s hA hE F
  refine PyProof.Rows.Assign_Tuple (tuple_stores hA hE F he hz fun t vs s' g' hsh hg hk F' hT hlen hr hp ho => ?_) (hs env) (hw env hE)
  obtain ⟨h1, h2, h3⟩ := tgt_acts (Y := Y) (env := env) ht
  refine wpAny_assign_Tuple hA.1 hT (by rw [h1, hl, ← hlen]; simp) h2 fun h' hext => ?_
  have hle0 := extBut_keeps hext
  have hle : Le (Y.see s'.heap) (Y.see h') := see_le hle0
  have F'' : Frm Y env k g' σ h' := F'.fresh hle0 Le.rfl (F'.leg.trans hle) fun _ _ _ _ => rfl
  refine stores_ok hE xs sls vs _ σ { s' with heap := h' } _ F'' hl hlen.symm (by simp [h1, hl, hlen]) (fun p hp v s Q hq => h3 p hp v s A Q hq) hx (fun p hp => ?_) hp (fun p hp hop y zs b hy Vy => ?_) fun s'' hs'' F₃ => ?_
  · have := hr p hp
    obtain ⟨sl, v⟩ := p
    cases sl with
    | val d => exact this
    | own xs => obtain ⟨a, its, e, ka, ga, pl, r⟩ := this; exact ⟨a, its, e, ka, ga, PlainList.see hle pl, r⟩
  · obtain ⟨w, Vw, _⟩ := F'.vars y _ hy
    have := VarIs.inj Vy (Vw.see hle)
    subst this
    exact ho p hp hop y zs b hy Vw
  · exact ⟨hsh.trans (ShT.trans ⟨h', s'.toks, rfl⟩ hs''), g', hg, hk, F₃, rfl⟩

theorem rev_zip {α β : Type} : ∀ {xs : List α} {ys : List β}, xs.length = ys.length → (xs.zip ys).reverse = xs.reverse.zip ys.reverse
  | [], [], _ => rfl
  | x :: xs, y :: ys, h => by
    have h' : xs.length = ys.length := by simpa using h
    rw [List.zip_cons_cons, List.reverse_cons, rev_zip h', List.reverse_cons, List.reverse_cons, List.zip_append (by simpa using h')]
    rfl

theorem Ex1_swapped {ts es : List Expr} {i q : Nat} {tp vp p : Pos} {xs : List Str} {sls : List Sl} (hx : ∀ x ∈ xs, Mine.Able nm x) (he : EvSls Y n nm σ es sls) (hl : xs.length = sls.length) (hz : sls.length ≤ 1000)
    (hs : ∀ env, swapsWithSole [.Tuple ts i tp] (.Tuple es q vp) p.line env = pure false) (hw : ∀ env, EnvOk nm env → swappedStores [.Tuple ts i tp] (.Tuple es q vp) env = pure (some xs)) :
    Ex1 Y n nm σ (.Assign [.Tuple ts i tp] (.Tuple es q vp) p) .next (pushSl (xs.zip sls).reverse σ) := by
  intro A env k g s hA hE F
  refine PyProof.Rows.Assign_Tuple_swapped (tuple_stores hA hE F he hz fun t vs s' g' hsh hg hk F' hT hlen hr hp ho => ?_) (hs env) (hw env hE)
  have hnv : xs.length = vs.toArray.size := by rw [hl, ← hlen]; simp
  rw [hnv]
  refine wpAny_unpackItems_tuple hA.1 hT fun h' hext => ?_
  have hle0 := extBut_keeps hext
  have hle : Le (Y.see s'.heap) (Y.see h') := see_le hle0
  have F'' : Frm Y env k g' σ h' := F'.fresh hle0 Le.rfl (F'.leg.trans hle) fun _ _ _ _ => rfl
  have hzr : sls.reverse.zip vs.reverse = (sls.zip vs).reverse := (rev_zip hlen.symm).symm
  have hzx : xs.reverse.zip sls.reverse = (xs.zip sls).reverse := (rev_zip hl).symm
  have hm : ∀ p, p ∈ sls.reverse.zip vs.reverse ↔ p ∈ sls.zip vs := fun p => by rw [hzr, List.mem_reverse]
  refine stores_ok hE xs.reverse sls.reverse vs.reverse _ σ { s' with heap := h' } _ F'' (by simpa using hl) (by simpa using hlen.symm) (by simp [hl, hlen]) (fun p hp v s Q hq => ?_) (fun x h => hx x (by simpa using h)) (fun p hp => ?_) ?_ (fun p hp hop y zs b hy Vy => ?_) fun s'' hs'' F₃ => ?_
  · rw [show xs.reverse.zip (xs.reverse.map fun n => bindName env n) = xs.reverse.map fun n => (n, bindName env n) from by
      induction xs.reverse with
      | nil => rfl
      | cons a l ih => simp [ih]] at hp
    obtain ⟨y, _, rfl⟩ := List.mem_map.mp hp
    exact wpAny_bindName hq
  · have := hr p ((hm p).mp hp)
    obtain ⟨sl, v⟩ := p
    cases sl with
    | val d => exact this
    | own xs => obtain ⟨a, its, e, ka, ga, pl, r⟩ := this; exact ⟨a, its, e, ka, ga, PlainList.see hle pl, r⟩
  · rw [hzr, List.pairwise_reverse]
    exact hp.imp fun h a b e => h b a e.symm
  · obtain ⟨w, Vw, _⟩ := F'.vars y _ hy
    have := VarIs.inj Vy (Vw.see hle)
    subst this
    exact ho p ((hm p).mp hp) hop y zs b hy Vw
  · rw [hzx] at F₃
    exact ⟨hsh.trans (ShT.trans ⟨h', s'.toks, rfl⟩ hs''), g', hg, hk, F₃, rfl⟩

theorem Ex1_own {x : Str} {q lp p : Pos} {es : List Expr} {ds : List D} (hx : Mine.Able nm x) (he : EvArgs Y n nm σ es ds) (hz : ds.length ≤ 1000) (hs : ∀ env, swapsWith (.List es lp) (some (.Name x q)) p.line env = pure false) :
    Ex1 Y n nm σ (.Assign [.Name x q] (.List es lp) p) .next ((x, .own ds) :: σ) := by
  intro A env k g s hA hE F
  refine wpAny_Assign_Name (wpAny_List ((he A env k g s lp hA hE F).mono fun ws s₁ h₁ => ⟨?_, ?_⟩)) (hs env)
  · rw [RepAll.length h₁.2]; exact Nat.le_trans hz (by decide)
  have F₁ := F.grows h₁.1
  have K₂ : Kp Y s₁ _ := keeps_push s₁ { cls := .type "list", data := .seq ws.toArray } s₁.toks
  have F₂ : Frm Y env k (grow Y g s.heap s₁.heap) σ (s₁.heap.push { cls := .type "list", data := .seq ws.toArray }) :=
    F₁.freshK K₂ Le.rfl (F₁.leg.trans (keeps_le K₂)) fun _ _ _ _ => rfl
  have hn : s.heap.get? s₁.heap.objs.size = none := by
    exact keeps_none h₁.1 (size_none _)
  have hk : k s₁.heap.objs.size = none := by
    cases e : k s₁.heap.objs.size with
    | none => rfl
    | some o => have := F.lek _ _ e; rw [see_none hn] at this; cases this
  refine store_ok (s := { s₁ with heap := s₁.heap.push { cls := .type "list", data := .seq ws.toArray } }) hE F₂ hx (sl := .own ds) ?_ (fun ys a y zs _ e2 hy Vy => ?_) fun s₂ hs₂ _ F₃ => ?_
  · exact ⟨_, ws.toArray, rfl, hk, by rw [grow_fresh hn]; exact see_none (size_none _), ⟨0, Heap.get?_push_size _ rfl⟩, by simpa using h₁.2⟩
  · cases e2
    obtain ⟨w, Vw, b', its, rfl, _, _, ⟨i, eb⟩, _⟩ := F₁.vars y _ hy
    have := VarIs.inj Vy (Vw.see (keeps_le K₂))
    cases this
    rw [size_none] at eb; cases eb
  · exact ⟨(keeps_sht (keeps_trans h₁.1 K₂)).trans hs₂, _, le_grow F.leg, sep_grow F.lek, F₃, rfl⟩

end Mine
end

section
open PySem
namespace Mine
variable {Y : Law} {n : Nat} {nm : Nm} {σ : Sto}

noncomputable def keepL (k : Gh) (wr : List Addr) (h : Heap) : Gh := fun b => if b ∈ wr then h.get? b else k b
theorem keepL_in {k : Gh} {wr : List Addr} {h : Heap} {b : Addr} (hb : b ∈ wr) : keepL k wr h b = h.get? b := by simp [keepL, hb]
theorem keepL_out {k : Gh} {wr : List Addr} {h : Heap} {b : Addr} (hb : b ∉ wr) : keepL k wr h b = k b := by simp [keepL, hb]

theorem Frm.keepL {env : Env} {k g : Gh} {h : Heap} {wr : List Addr} (F : Frm Y env k g σ h) (hw : ∀ b ∈ wr, FieldsAt h b) : Frm Y env (keepL k wr h) g σ h := by
  obtain ⟨m, hm⟩ := F.ns
  have hL : env.locals ∉ wr := fun hb => fields_ne_ns hm (hw _ hb) rfl
  refine ⟨F.top, ?_, F.leg, F.ns, by rw [keepL_out hL]; exact F.kL, F.gL, ?_, F.frees, ?_, F.own⟩
  · intro a o e
    by_cases ha : a ∈ wr
    · rw [keepL_in ha] at e
      obtain ⟨o', vs, e', _, c, _⟩ := hw a ha
      rw [e] at e'; cases e'
      exact see_of e (.ne c)
    · rw [keepL_out ha] at e; exact F.lek _ _ e
  · intro x c h1 h2
    obtain ⟨⟨v, hv⟩, kc, gc⟩ := F.cells x c h1 h2
    exact ⟨⟨v, hv⟩, by rw [keepL_out (fun hb => fields_ne_cell hv (hw _ hb) rfl)]; exact kc, gc⟩
  · intro x sl hx
    obtain ⟨v, V, S⟩ := F.vars x sl hx
    refine ⟨v, V, ?_⟩
    cases sl with
    | val d => exact S
    | own xs =>
      obtain ⟨a, is, rfl, ka, ga, p, r⟩ := S
      exact ⟨a, is, rfl, by rw [keepL_out (fun hb => fields_ne_plain p (hw _ hb) rfl)]; exact ka, ga, p, r⟩

theorem fields_no {h : Heap} {b : Addr} {o : Obj} (x : FieldsAt h b) (e : h.get? b = some o) : NoTab o := by
  obtain ⟨o', vs, e', _, c, _⟩ := x
  rw [e] at e'; cases e'
  exact .ne c
noncomputable def LoopEx (Y : Law) (n : Nat) (nm : Nm) (t : Expr) (body : List Stmt) : Sto → List D → Fl → Sto → Prop
  | τ, [], φ, τ' => φ = .next ∧ τ' = τ
  | τ, d :: ds, φ, τ' => (∃ bs τ₁, Binds nm t d bs ∧ Ex Y n nm (pushes bs τ) body .next τ₁ ∧ LoopEx Y n nm t body τ₁ ds φ τ') ∨ (∃ bs r, φ = .ret r ∧ Binds nm t d bs ∧ Ex Y n nm (pushes bs τ) body (.ret r) τ')
section
variable {t : Expr} {body : List Stmt}
theorem LoopEx.nil {τ : Sto} : LoopEx Y n nm t body τ [] .next τ := ⟨rfl, rfl⟩
theorem LoopEx.next {τ τ₁ τ' : Sto} {d : D} {ds : List D} {bs : List (Str × D)} {φ : Fl} (a : Binds nm t d bs) (b : Ex Y n nm (pushes bs τ) body .next τ₁) (c : LoopEx Y n nm t body τ₁ ds φ τ') : LoopEx Y n nm t body τ (d :: ds) φ τ' := .inl ⟨bs, τ₁, a, b, c⟩
theorem LoopEx.ret {τ τ' : Sto} {d : D} {ds : List D} {bs : List (Str × D)} {r : D} (a : Binds nm t d bs) (b : Ex Y n nm (pushes bs τ) body (.ret r) τ') : LoopEx Y n nm t body τ (d :: ds) (.ret r) τ' := .inr ⟨bs, r, rfl, a, b⟩
end

theorem Ex1_for {t iter : Expr} {body : List Stmt} {p : Pos} {ds : List D} {φ : Fl} {σ' : Sto} (hit : EvIt Y n nm σ t iter ds) (hl : LoopEx Y n nm t body σ ds φ σ') (hs : ∀ env x, foldedSetIterable iter env x = pure x) :
    Ex1 Y n nm σ (.For t iter body [] p) φ σ' := by
  intro A env k g s hA hE F
  refine wpAny_For ((hit A env k g s hA hE F).mono fun x s₁ h₁ => h₁.mono fun it s₂ h₂ => ?_) (hs env)
  obtain ⟨K₂, I, wr, St, g₂, rfl, W, hg₂, hl₂, hst, hwr, hold⟩ := h₂
  have F₂ : Frm Y env k g₂ σ s₂.heap := F.freshK K₂ hg₂ hl₂ hold
  have kw : ∀ b ∈ wr, k b = none := fun b hb => by
    cases e : k b with
    | none => rfl
    | some o => have := F.lek _ _ e; rw [see_none (hwr b hb).1] at this; cases this
  refine codeAny_loop' rfl (fun m s' => ∃ rem σ₁ G, m = rem.length ∧ LoopEx Y n nm t body σ₁ rem φ σ' ∧ ShT s s' ∧ Le g G ∧ (∀ a o, k a = some o → Held Y a o → g a = none → G a = none) ∧ Frm Y env k G σ₁ s'.heap ∧ St G rem s'.heap ∧ ∀ b ∈ wr, G b = none)
    (fun m s' hI => ?_) ds.length ⟨ds, σ, g₂, rfl, hl, keeps_sht K₂, hg₂, fun a o e hh ga => by obtain ⟨o', e'⟩ := see_live (F.lek _ _ e); rw [hold a o' e' (held_see (F.lek _ _ e) e' hh)]; exact ga, F₂, hst, fun b hb => (hwr b hb).2⟩
  obtain ⟨rem, σ₁, G, rfl, hL, hsh, hgG, hsep, F₁, hst₁, Gw⟩ := hI
  show wpAny _ _ ((forTurn t (.ref I) body [] env).onRaise (fun x => do noteFrame x env; theTreesLotGoes x)) _ _ s'
  refine wpAny_noted (Tr.any (E := _) ?_)
  simp only [forTurn]
  refine wpAny_bind (wpAny_standAt (wpAny_bind (wpAny_onRaise (Tr.any ?_))))
  cases rem with
  | nil =>
    obtain ⟨rfl, rfl⟩ := hL
    refine (W.done G s' (fun s₁ => codeAny (model Y.prog Y.w) A (.block [] env) (fun r s' => match r with | .ok f => Ends Y env k g s .next σ' f s' | .error e => cameBackBy (model Y.prog Y.w) A env (fun _ _ => False) e s') s₁) hst₁ F₁.leg fun h₁ tk₁ ht => ?_).mono fun r s₁ h => ?_
    · refine codeAny_block (wpAny_execs_nil ?_)
      have F₂ := F₁.move (g' := G) ht (fun b hb => ⟨kw b hb, Gw b hb, W.fields _ _ _ hst₁ b hb⟩) Le.rfl
        (fun a o e => see_same (fun o e' => ht _ _ (fun hb => by rw [Gw a hb] at e; cases e) e') (F₁.leg _ _ e)) (fun a o _ _ ga => ga)
      exact ⟨hsh.trans ⟨h₁, tk₁, rfl⟩, G, hgG, hsep, F₂, rfl⟩
    · cases r with
      | none => exact wpAny_pure (.inr ⟨rfl, h⟩)
      | some v => exact h.elim
  | cons d ds =>
   rcases hL with ⟨bs, σ₂, hb, hbody, hL⟩ | ⟨bs, rd, rfl, hb, hbody⟩
   · skip
     refine (W.item G d ds s' (fun v s₁ => ∃ h₁ tk₁, s₁ = { s' with heap := h₁, toks := tk₁ } ∧ Turns wr s'.heap h₁ ∧ (∀ b ∈ wr, FieldsAt h₁ b) ∧ Rep Y (grow Y G s'.heap h₁) d v ∧ ∀ g', Le G g' → Le g' (Y.see h₁) → St g' ds h₁) hst₁ F₁.leg
       fun v h₁ tk₁ ht hf hrd hst' => ⟨h₁, tk₁, rfl, ht, hf, hrd, hst'⟩).mono fun r s₁ h => ?_
     cases r with
     | none => exact h.elim
     | some v =>
       refine wpAny_bind (h.mono fun _ s₂ hq => ?_)
       obtain ⟨h₁, tk₁, rfl, ht, hf, hrd, hst'⟩ := hq
       have hlt : Le (grow Y G s'.heap h₁) (Y.see h₁) := turns_grow ht (fun b hb => ⟨Gw b hb, W.fields _ _ _ hst₁ b hb⟩) F₁.leg
       have hfw : ∀ b ∈ wr, ∃ o, s'.heap.get? b = some o := fun b hb => let ⟨o, _, e, _⟩ := W.fields _ _ _ hst₁ b hb; ⟨o, e⟩
       have hGw : ∀ b ∈ wr, grow Y G s'.heap h₁ b = none := fun b hb => by
         obtain ⟨o, e⟩ := hfw b hb
         rw [grow_old e (fields_held (W.fields _ _ _ hst₁ b hb) e)]; exact Gw b hb
       have Fm := F₁.move (g' := grow Y G s'.heap h₁) ht (fun b hb => ⟨kw b hb, Gw b hb, W.fields _ _ _ hst₁ b hb⟩) (le_grow F₁.leg) hlt (fun a o e hh ga => by rw [grow_old e hh]; exact ga)
       refine wpAny_bind (assign_ok (s := { s' with heap := h₁, toks := tk₁ }) hA.1 hE Fm hb hrd fun s₃ hs₃ hk₃ F₃ => ?_)
       have nmy : ∀ b ∈ wr, ¬ MyAddr nm env b := fun b hb hmb => by
         obtain ⟨m, hm⟩ := Fm.ns
         rcases hmb with rfl | ⟨x, hx, hc⟩
         · exact fields_ne_ns hm (hf _ hb) rfl
         · obtain ⟨⟨v, hv⟩, _⟩ := Fm.cells x b (cell_kind hE hx) hc
           exact fields_ne_cell hv (hf _ hb) rfl
       have hw₃ : ∀ b ∈ wr, ∀ o, h₁.get? b = some o → s₃.heap.get? b = some o := fun b hb o e => hk₃ b o (nmy b hb) e
       have hf₃ : ∀ b ∈ wr, FieldsAt s₃.heap b := fun b hb => let ⟨o, vs, e, d⟩ := hf b hb; ⟨o, vs, hw₃ b hb o e, d⟩
       have hst₃ : St (grow Y G s'.heap h₁) ds s₃.heap := W.frame _ _ _ _ _ (hst' _ (le_grow F₁.leg) hlt) Le.rfl F₃.leg hw₃
       have F₃k := F₃.keepL hf₃
       refine wpAny_bind ((hbody A env _ _ s₃ hA hE F₃k).mono fun f s₄ h₄ => ?_)
       obtain ⟨hs₄, g', hg', hsep', F₄, hf'⟩ := h₄
       have hf' : f = .next := hf'
       subst hf'
       refine wpAny_pure (.inl ⟨rfl, ds.length, by simp, ds, σ₂, g', rfl, hL, hsh.trans (ShT.trans ⟨h₁, tk₁, rfl⟩ (hs₃.trans hs₄)), hgG.trans ((le_grow F₁.leg).trans hg'), ?_, F₄.lessK ?_, ?_, ?_⟩)
       · intro a o e hh ga
         obtain ⟨o', e1⟩ := see_live (F₁.lek _ _ e)
         refine hsep' a o ?_ hh (by rw [grow_old e1 (held_see (F₁.lek _ _ e) e1 hh)]; exact hsep a o e hh ga)
         rw [keepL_out (fun hb => by rw [kw a hb] at e; cases e)]; exact e
       · intro a o e
         rw [keepL_out (fun hb => by rw [kw a hb] at e; cases e)]; exact e
       · exact W.frame _ _ _ _ _ hst₃ hg' F₄.leg fun b hb o e => see_raw (F₄.lek _ _ (by rw [keepL_in hb]; exact e)) (fields_no (hf₃ b hb) e)
       · intro b hb
         obtain ⟨o, _, e, _⟩ := hf₃ b hb
         exact hsep' b o (by rw [keepL_in hb]; exact e) (fields_held (hf₃ b hb) e) (hGw b hb)
   · skip
     refine (W.item G d ds s' (fun v s₁ => ∃ h₁ tk₁, s₁ = { s' with heap := h₁, toks := tk₁ } ∧ Turns wr s'.heap h₁ ∧ (∀ b ∈ wr, FieldsAt h₁ b) ∧ Rep Y (grow Y G s'.heap h₁) d v ∧ ∀ g', Le G g' → Le g' (Y.see h₁) → St g' ds h₁) hst₁ F₁.leg
       fun v h₁ tk₁ ht hf hrd hst' => ⟨h₁, tk₁, rfl, ht, hf, hrd, hst'⟩).mono fun r s₁ h => ?_
     cases r with
     | none => exact h.elim
     | some v =>
       refine wpAny_bind (h.mono fun _ s₂ hq => ?_)
       obtain ⟨h₁, tk₁, rfl, ht, hf, hrd, hst'⟩ := hq
       have hlt : Le (grow Y G s'.heap h₁) (Y.see h₁) := turns_grow ht (fun b hb => ⟨Gw b hb, W.fields _ _ _ hst₁ b hb⟩) F₁.leg
       have Fm := F₁.move (g' := grow Y G s'.heap h₁) ht (fun b hb => ⟨kw b hb, Gw b hb, W.fields _ _ _ hst₁ b hb⟩) (le_grow F₁.leg) hlt (fun a o e hh ga => by rw [grow_old e hh]; exact ga)
       refine wpAny_bind (assign_ok (s := { s' with heap := h₁, toks := tk₁ }) hA.1 hE Fm hb hrd fun s₃ hs₃ hk₃ F₃ => ?_)
       refine wpAny_bind ((hbody A env _ _ s₃ hA hE F₃).mono fun f s₄ h₄ => ?_)
       obtain ⟨hs₄, g', hg', hsep', F₄, v', rfl, hr'⟩ := h₄
       refine wpAny_pure ⟨hsh.trans (ShT.trans ⟨h₁, tk₁, rfl⟩ (hs₃.trans hs₄)), g', hgG.trans ((le_grow F₁.leg).trans hg'), ?_, F₄, v', rfl, hr'⟩
       intro a o e hh ga
       obtain ⟨o', e1⟩ := see_live (F₁.lek _ _ e)
       exact hsep' a o e hh (by rw [grow_old e1 (held_see (F₁.lek _ _ e) e1 hh)]; exact hsep a o e hh ga)

theorem LoopEx.of {t : Expr} {body : List Stmt} (st : Nat → Sto) : ∀ (ds : List D) (i : Nat), (∀ j d, ds[j]? = some d → ∃ bs, Binds nm t d bs ∧ Ex Y n nm (pushes bs (st (i + j))) body .next (st (i + j + 1))) → LoopEx Y n nm t body (st i) ds .next (st (i + ds.length))
  | [], i, _ => .nil
  | d :: ds, i, h => by
    obtain ⟨bs, hb, he⟩ := h 0 d rfl
    have := LoopEx.of st ds (i + 1) fun j d' hj => by
      have := h (j + 1) d' (by simpa using hj)
      rw [show i + 1 + j = i + (j + 1) by omega]
      exact this
    rw [List.length_cons, show i + (ds.length + 1) = i + 1 + ds.length by omega]
    exact .next hb he this

end Mine
end

section
open PySem
namespace Mine
variable {Y : Law} {n : Nat} {nm : Nm} {σ : Sto}

structure FnOk (fd : FuncData) (params : List Str) (body : List Stmt) : Prop where
  cor : fd.scope.isCoroutine = false
  gen : fd.scope.isGenerator = false
  kind : fd.scope.kind = .function
  body : fd.body = .stmts body
  glob : fd.globals = mainGlobals
  blt : fd.builtins = builtinsNs
  nodup : (fd.scope.names.map (·.1)).Nodup
  able : ∀ x ∈ params, Mine.Able fd.scope.names x
  bind : ∀ vs : List Value, vs.length = params.length → bindArgs fd ⟨vs, []⟩ = pure (params.zip vs)

theorem cons_of {α : Type} {l : List α} {n : Nat} (h : l.length = n + 1) : ∃ a t, l = a :: t ∧ t.length = n := by
  cases l with
  | nil => cases h
  | cons a t => exact ⟨a, t, rfl, Nat.succ.inj h⟩
theorem one_of {α : Type} {l : List α} (h : l.length = 1) : ∃ a, l = [a] := by
  obtain ⟨a, t, rfl, h'⟩ := cons_of h
  exact ⟨a, by rw [List.length_eq_zero_iff.mp h']⟩
theorem two_of {α : Type} {l : List α} (h : l.length = 2) : ∃ a b, l = [a, b] := by
  obtain ⟨a, t, rfl, h'⟩ := cons_of h
  obtain ⟨b, rfl⟩ := one_of h'
  exact ⟨a, b, rfl⟩
structure FnSh (fd : FuncData) : Prop where
  kind : fd.scope.kind = .function
  glob : fd.globals = mainGlobals
  blt : fd.builtins = builtinsNs
  nodup : (fd.scope.names.map (·.1)).Nodup
theorem FnOk.sh {fd : FuncData} {params : List Str} {body : List Stmt} (x : FnOk fd params body) : FnSh fd := ⟨x.kind, x.glob, x.blt, x.nodup⟩

structure CloOk (Y : Law) (g : Gh) (h : Heap) (fd : FuncData) (σ : Sto) : Prop where
  has : ∀ x, (x, NameKind.free) ∈ fd.scope.names → ∃ c, fd.closure.lookup x = some c
  live : ∀ p ∈ fd.closure, ∃ v, h.IsCell p.2 v
  only : ∀ p ∈ fd.closure, (p.1, NameKind.free) ∈ fd.scope.names
  apart : fd.closure.Pairwise fun p q => p.2 ≠ q.2
  vals : ∀ x sl, σ.lookup x = some sl → fd.scope.names.lookup x = some .free ∧ ∃ d v c, sl = .val d ∧ fd.closure.lookup x = some c ∧ h.IsCell c (some v) ∧ Rep Y g d v

theorem CloOk.none {g : Gh} {h : Heap} {fd : FuncData} (hc : fd.closure = []) (hf : ∀ x, (x, NameKind.free) ∉ fd.scope.names) : CloOk Y g h fd [] :=
  ⟨fun x hx => absurd hx (hf x), by rw [hc]; simp, by rw [hc]; simp, by rw [hc]; exact List.Pairwise.nil, fun x sl h => by cases h⟩

noncomputable def fnEnvAt (fd : FuncData) (a L : Addr) : Env :=
  { scope := fd.scope, locals := L, globals := fd.globals, cells := cellsFrom (L + 1) fd.scope.names fd.closure, qual := fd.qualname ++ ".<locals>.", func := some a, code := fd.code, frame := some L, builtins := fd.builtins }

theorem newFnEnv {A : Around} {s : Shared} {fd : FuncData} {a : Addr} {binds : List (Str × Value)} {Q : Env → Shared → Prop}
    (h : Tr Y A (forIn binds PUnit.unit fun (p : Str × Value) (_ : PUnit) => do storeName (fnEnvAt fd a s.heap.objs.size) p.1 p.2; pure (ForInStep.yield PUnit.unit))
      { s with heap := pushCells (s.heap.push { cls := .type "frame", data := .dict #[] }) fd.scope.names } (fun _ s' => Q (fnEnvAt fd a s.heap.objs.size) s')) :
    Tr Y A (newFunctionEnv fd.scope fd.globals fd.closure binds (fd.qualname ++ ".<locals>.") (some a) fd.code none fd.builtins) s Q := by
  simp only [newFunctionEnv, Option.isSome_none, Bool.false_eq_true, if_false]
  refine wpAny_bind (wpAny_alloc ?_)
  refine wpAny_bind (wpAny_layCells _ (fun name kind cells => by cases hkc : kind == NameKind.cell <;> simp) _ _ _ _ ?_)
  rw [show ({ s with heap := s.heap.push { cls := .type "frame", data := .dict #[] } } : Shared).heap.objs.size = s.heap.objs.size + 1 from Heap.size_push ..]
  refine wpAny_bind (h.mono fun _ s' hq => wpAny_pure hq)

theorem binds_ok {env : Env} {k g : Gh} {A : Around} (hE : EnvOk nm env) : ∀ (xs : List Str) (ds : List D) (vs : List Value) (σ : Sto) (s : Shared) (Q : PUnit → Shared → Prop),
    Frm Y env k g σ s.heap → RepAll Y g ds vs → xs.length = ds.length → (∀ x ∈ xs, Mine.Able nm x) → (∀ s', ShT s s' → Frm Y env k g (pushes (xs.zip ds) σ) s'.heap → Q ⟨⟩ s') →
    Tr Y A (forIn (xs.zip vs) PUnit.unit fun (p : Str × Value) (_ : PUnit) => do storeName env p.1 p.2; pure (ForInStep.yield PUnit.unit)) s Q
  | [], ds, vs, σ, s, Q, F, r, h, _, hQ => by
    have : ds = [] := by simpa using h.symm
    subst this
    exact wpAny_pure (hQ s ShT.rfl F)
  | x :: xs, [], _, _, _, _, _, _, h, _, _ => by simp at h
  | x :: xs, d :: ds, vs, σ, s, Q, F, r, h, hx, hQ => by
    simp only [RepAll] at r
    obtain ⟨v, vs, rfl, r1, r2⟩ := r
    rw [List.zip_cons_cons, List.forIn_cons]
    refine wpAny_bind (wpAny_bind (store_ok hE F (hx x (by simp)) (sl := .val d) r1 (by intro _ _ _ _ h; cases h) fun s' hs' _ F' => wpAny_pure ?_))
    refine binds_ok hE xs ds vs _ s' Q F' r2 (by simpa using h) (fun y hy => hx y (List.mem_cons_of_mem _ hy)) fun s'' hs'' F'' => hQ s'' (hs'.trans hs'') F''

theorem fn_frm {g : Gh} {h : Heap} {fd : FuncData} {a : Addr} (ok : FnSh fd) (clo : CloOk Y g h fd σ) (top : TopOk Y g h) (leg : Le g (Y.see h)) :
    EnvOk fd.scope.names (fnEnvAt fd a h.objs.size) ∧ Frm Y (fnEnvAt fd a h.objs.size) (Y.see h) g σ (pushCells (h.push { cls := .type "frame", data := .dict #[] }) fd.scope.names) := by
  have hle : Le h.get? (pushCells (h.push { cls := .type "frame", data := .dict #[] }) fd.scope.names).get? := fun b o e => pushCells_keeps _ _ b o (Heap.get?_push_of_some _ e)
  have ck := cellsFrom_ok fd.scope.names (h.push { cls := .type "frame", data := .dict #[] }) (h.objs.size + 1) [] ⟨fun _ _ hm => (nomatch hm), List.Pairwise.nil⟩ (by rw [Heap.size_push]; exact Nat.le_refl _)
  rw [Heap.size_push] at ck
  have hcells : (fnEnvAt fd a h.objs.size).cells = cellsFrom (h.objs.size + 1) fd.scope.names [] ++ fd.closure := by
    show cellsFrom _ _ _ = _
    rw [cellsFrom_acc]
  have ownLook : ∀ x, fd.scope.names.lookup x = some .cell → ∃ c, (fnEnvAt fd a h.objs.size).cells.lookup x = some c ∧ (x, c) ∈ cellsFrom (h.objs.size + 1) fd.scope.names [] := by
    intro x hx
    obtain ⟨c, hcc⟩ := cellsFrom_has fd.scope.names (h.objs.size + 1) x (mem_of_lookup hx)
    exact ⟨c, by rw [hcells, List.lookup_append, hcc]; rfl, mem_of_lookup hcc⟩
  have freeLook : ∀ x, fd.scope.names.lookup x = some .free → (fnEnvAt fd a h.objs.size).cells.lookup x = fd.closure.lookup x := by
    intro x hx
    have h1 : (cellsFrom (h.objs.size + 1) fd.scope.names []).lookup x = none := lookup_none fun c hm => by
      have := lookup_of_mem ok.nodup (mem_cellsFrom _ _ _ _ hm)
      rw [hx] at this; cases this
    rw [hcells, List.lookup_append, h1, Option.none_or]
  have fresh : ∀ b, h.objs.size ≤ b → h.get? b = none := fun b hb => get_above hb
  have gfresh : ∀ b, h.objs.size ≤ b → g b = none := fun b hb => by
    cases e : g b with
    | none => rfl
    | some o => have := leg _ _ e; rw [see_none (fresh b hb)] at this; cases this
  refine ⟨⟨ok.kind, fun x j hx => .inl hx, ok.glob, ok.blt, fun x hx => ?_, ?_⟩, ⟨top.mono Le.rfl (.of hle), see_le hle, leg.trans (see_le hle), ⟨_, (Heap.Ns.new h (.type "frame")).keeps (pushCells_keeps _ _)⟩, see_none (fresh _ (Nat.le_refl _)), gfresh _ (Nat.le_refl _), ?_, ?_, ?_, ?_⟩⟩
  · rcases hx with hx | hx
    · obtain ⟨c, h1, _⟩ := ownLook x hx; exact ⟨c, h1⟩
    · rw [freeLook x hx]; exact clo.has x (mem_of_lookup hx)
  · rw [hcells, List.pairwise_append]
    refine ⟨ck.apart, clo.apart, fun p hp q hq e => ?_⟩
    obtain ⟨v, o, e', _⟩ := clo.live q hq
    have h1 := (ck.empty p.1 p.2 hp).2
    have h6 : q.2 < h.objs.size := Heap.lt_size e'
    have h8 : p.2 < h.objs.size := by rw [e]; exact h6
    exact absurd (Nat.lt_of_lt_of_le h8 (Nat.le_of_succ_le h1)) (Nat.lt_irrefl _)
  · intro x c hx hcc
    obtain ⟨c', h1, h2⟩ := ownLook x hx
    rw [hcc] at h1; cases h1
    obtain ⟨h4, h5⟩ := ck.empty x c h2
    exact ⟨⟨_, h4⟩, see_none (fresh c (Nat.le_of_succ_le h5)), gfresh c (Nat.le_of_succ_le h5)⟩
  · intro x c hx hcc
    rw [freeLook x hx] at hcc
    obtain ⟨v, hv⟩ := clo.live (x, c) (mem_of_lookup hcc)
    exact ⟨v, hv.keeps hle⟩
  · intro x sl hx
    obtain ⟨hf, d, v, c, rfl, hc, hv, r⟩ := clo.vals x sl hx
    exact ⟨v, .inr ⟨.inr hf, c, by rw [freeLook x hf]; exact hc, hv.keeps hle⟩, r⟩
  · intro x y xs ys b hx _ _ _
    obtain ⟨_, d, _, _, e, _⟩ := clo.vals x _ hx
    cases e

noncomputable def RetOk (Y : Law) (k g : Gh) (s : Shared) (d : D) : Flow → Shared → Prop := fun f s' =>
  ShT s s' ∧ ∃ g', Le g g' ∧ (∀ a o, k a = some o → Held Y a o → g a = none → g' a = none) ∧ TopOk Y g' s'.heap ∧ Le k (Y.see s'.heap) ∧ Le g' (Y.see s'.heap) ∧ ∃ v, f = .ret v ∧ Rep Y g' d v
theorem Ends.retOk {env : Env} {k g : Gh} {s : Shared} {d : D} {σ' : Sto} {f : Flow} {s' : Shared} (h : Ends Y env k g s (.ret d) σ' f s') : RetOk Y k g s d f s' := by
  obtain ⟨a, g', b, c, F, e⟩ := h
  exact ⟨a, g', b, c, F.top, F.lek, F.leg, e⟩

theorem call_fnR {A : Around} {g : Gh} {s : Shared} {a : Addr} {o : Obj} {fd : FuncData} {params : List Str} {body : List Stmt} {ds : List D} {vs : List Value} {d : D} (hA : AOk (n + 1) A) (top : TopOk Y g s.heap) (leg : Le g (Y.see s.heap))
    (ho : s.heap.get? a = some o) (hd : o.data = .func fd) (ok : FnOk fd params body) (hcd : s.heap.CodeRec fd.code fd.qualname) (clo : CloOk Y g s.heap fd σ) (r : RepAll Y g ds vs) (hl : params.length = ds.length)
    (hb : ∀ A' s', AOk n A' → EnvOk fd.scope.names (fnEnvAt fd a s.heap.objs.size) → Frm Y (fnEnvAt fd a s.heap.objs.size) (Y.see s.heap) g (pushes (params.zip ds) σ) s'.heap →
      Tr Y A' (execs body (fnEnvAt fd a s.heap.objs.size)) s' (RetOk Y (Y.see s.heap) g s' d)) : Tr Y A (call (.ref a) vs) s (Post Y g s d) := by
  have hdep : A.depth < recursionLimit := by have := hA.2.1; show A.depth < 1000; omega
  refine wpAny_call (codeAny_call_function hdep ho hd ok.cor ok.gen ok.body hcd ?_)
  rw [ok.bind vs (by rw [RepAll.length r, hl])]
  refine wpAny_pure (Tr.any (newFnEnv ?_))
  obtain ⟨hE, F⟩ := fn_frm (a := a) ok.sh clo top leg
  refine binds_ok hE params ds vs σ _ _ F r hl ok.able fun s₂ hs₂ F₂ => ?_
  refine ⟨Y.nolimit _ F₂.rawTop, codeAny_func ?_⟩
  refine Tr.any ((hb (A.deeper _) s₂ (hA.deeper _) hE F₂).mono fun f s₃ h₃ => ?_)
  obtain ⟨hs₃, g', hg', hsep, top₃, lek₃, leg₃, v, rfl, rv⟩ := h₃
  obtain ⟨h₂, t₂, e₂⟩ := hs₂
  obtain ⟨h₃, t₃, rfl⟩ := hs₃
  refine ⟨⟨h₃, t₃, by rw [e₂], lek₃, fun _ => top₃.2⟩, Rep.mono (grow_in leg₃ lek₃ fun b o₁ hh hl => ?_) _ _ rv⟩
  cases hg : g b with
  | some o₂ => exact hg' _ _ hg
  | none =>
    obtain ⟨o₂, e₂⟩ := live_see (Y := Y) hh
    refine hsep b o₂ e₂ ?_ hg
    by_cases hb : b = Y.tab
    · subst hb; exact .tab
    · rw [see_ne hb, hh] at e₂; cases e₂; exact hl

theorem call_fn {A : Around} {g : Gh} {s : Shared} {a : Addr} {o : Obj} {fd : FuncData} {params : List Str} {body : List Stmt} {ds : List D} {vs : List Value} {d : D} {σ' : Sto} (hA : AOk (n + 1) A) (top : TopOk Y g s.heap) (leg : Le g (Y.see s.heap))
    (ho : s.heap.get? a = some o) (hd : o.data = .func fd) (ok : FnOk fd params body) (hcd : s.heap.CodeRec fd.code fd.qualname) (clo : CloOk Y g s.heap fd σ) (r : RepAll Y g ds vs) (hl : params.length = ds.length)
    (hb : Ex Y n fd.scope.names (pushes (params.zip ds) σ) body (.ret d) σ') : Tr Y A (call (.ref a) vs) s (Post Y g s d) :=
  call_fnR hA top leg ho hd ok hcd clo r hl fun A' s' hA' hE F => (hb A' _ _ g s' hA' hE F).mono fun _ _ h => h.retOk

theorem CallD_fn {a : Addr} {o : Obj} {fd : FuncData} {params : List Str} {body : List Stmt} {ds : List D} {d : D} {σ' : Sto} (ho : Y.top a = some o) (hd : o.data = .func fd) (ok : FnOk fd params body)
    (hcd : ∀ h : Heap, Le Y.top h.get? → h.CodeRec fd.code fd.qualname) (hc : fd.closure = []) (hf : ∀ x, (x, NameKind.free) ∉ fd.scope.names) (hl : params.length = ds.length)
    (hb : Ex Y n fd.scope.names (pushes (params.zip ds) []) body (.ret d) σ') : CallD Y (n + 1) (.ref a) ds d := by
  intro A g s vs hA top leg r
  exact call_fn hA top leg (top.raw leg _ _ ho) hd ok (hcd _ (top.raw leg)) (CloOk.none hc hf) r hl hb

end Mine
end

section
open PySem
namespace Mine
variable {Y : Law} {n : Nat} {nm : Nm} {σ : Sto}

theorem ints_of {g : Gh} : ∀ {xs : List Int} {vs : List Value}, RepAll Y g (xs.map D.int) vs → ∀ (i : Nat) (x : Int), xs[i]? = some x → ∃ t, vs[i]? = some (Value.int x t)
  | [], _, _, i, x, h => by simp at h
  | y :: xs, vs, r, i, x, h => by
    simp only [List.map_cons, RepAll, Rep] at r
    obtain ⟨v, vs, rfl, ⟨t, rfl⟩, r⟩ := r
    cases i with
    | zero => simp at h; subst h; exact ⟨t, rfl⟩
    | succ i => simpa using ints_of r i x (by simpa using h)

noncomputable def valAt (xs : List Int) (i : Nat) : Int := (xs[i]?).getD 0
theorem preSum_take (xs : List Int) : ∀ j, j ≤ xs.length → preSum (valAt xs) j = (xs.take j).sum
  | 0, _ => by simp [preSum]
  | j + 1, h => by
    have : xs[j]? = some xs[j] := by simp
    rw [preSum, preSum_take xs j (by omega), List.take_add_one, this, Option.toList_some, List.sum_append]
    simp [valAt, this]

theorem fresh_old {s : Shared} {b : Addr} {o : Obj} (e : s.heap.get? b = some o) : b ≠ s.heap.objs.size := fun h => by rw [h, size_none] at e; cases e

theorem walk_list {A : Around} {g : Gh} {s : Shared} {a : Addr} {its : Array Value} (hA : AOk n A) (hg : Le g (Y.see s.heap)) (la : IsListG g a its) {F : Value → Shared → Prop}
    (h : ∀ (I : Addr) (s₂ : Shared), Kp Y s s₂ → s.heap.get? I = none → Walks Y.prog Y.w A.in1 I [I, a] [I] its.size (fun i v => its[i]? = some v) (fun i h => h.IsListIter I a i ∧ h.IsList a its) →
      (s₂.heap.IsListIter I a 0 ∧ s₂.heap.IsList a its) → (∀ b ∈ [I, a], b < s₂.heap.objs.size) → F (.ref I) s₂) : Tr Y A.in1 (pyIter (.ref a)) s F := by
  obtain ⟨j, la⟩ := la
  have la' := see_raw (hg _ _ la) (.seq rfl)
  have hl : s.heap.IsList a its := ⟨_, la', rfl, j, rfl⟩
  refine wpAny_pyIter_list hl ?_
  have hne : a ≠ s.heap.objs.size := fresh_old la'
  refine h s.heap.objs.size _ (keeps_push s { cls := .type "list_iterator", data := .fields #[.ref a, .int 0 0] } s.toks) (size_none _) (Walks.list (A := A.in1) hA.1 _ a hne its) ⟨⟨_, Heap.get?_push_size _ rfl, rfl, rfl⟩, hl.push _⟩ ?_
  intro b hb
  have hsz : (s.heap.push { cls := .type "list_iterator", data := .fields #[.ref a, .int 0 0] }).objs.size = s.heap.objs.size + 1 := Heap.size_push ..
  rcases List.mem_cons.mp hb with rfl | hb
  · show _ < (Heap.push _ _).objs.size
    rw [hsz]; exact Nat.lt_succ_self _
  · rw [List.mem_singleton.mp hb]
    show _ < (Heap.push _ _).objs.size
    rw [hsz]; exact Nat.lt_succ_of_lt (Heap.lt_size la')

theorem keeps_but {s s₂ : Shared} {I : Addr} {h' : Heap} {tk : Nat} (K : Kp Y s s₂) (hI : s.heap.get? I = none) (hF : FieldsAt s₂.heap I) (hk : ∀ b o, b ∉ [I] → s₂.heap.get? b = some o → h'.get? b = some o) : Kp Y s { s₂ with heap := h', toks := tk } := by
  have hle := keeps_le K
  have hti := keeps_inv K
  obtain ⟨h₁, t₁, rfl, _⟩ := K
  refine ⟨h', tk, rfl, fun b o e => see_same (fun o' e' => hk b o' (by simp; intro hb; subst hb; rw [see_none hI] at e; cases e) e') (hle _ _ e), fun z => Y.tabKeep _ _ (fun b o hf e => hk b o (fun hb => ?_) e) (hti z)⟩
  rw [List.mem_singleton.mp hb] at e
  exact fields_fix hF e hf

theorem call_sum_l {xs : List Int} : CallD Y n (.builtin "sum") [.list (xs.map D.int)] (.int xs.sum) := by
  intro A g s vs hA _ hg r
  obtain ⟨v, rfl, r1⟩ := one_arg r
  simp only [Rep] at r1
  obtain ⟨a, its, rfl, la, ra⟩ := r1
  have za := RepAll.length ra
  rw [Array.length_toList, List.length_map] at za
  refine call_sum_walkG (walk_list hA hg la fun I s₂ K hI W hst hfp => ⟨I, _, _, _, _, _, valAt xs, rfl, W, hst, hfp, ?_, ?_⟩)
  · intro i v hv
    have hi : i < xs.length := by
      rw [← za]
      exact (Array.getElem?_eq_some_iff.mp hv).1
    obtain ⟨t, ht⟩ := ints_of ra i xs[i] (by simp)
    rw [Array.getElem?_toList, hv] at ht
    cases ht
    exact ⟨t, by simp [valAt, hi]⟩
  · intro h' tk t' hk
    refine ⟨keeps_but K hI (listIter_fields hst.1) hk, ?_⟩
    rw [za, preSum_take xs _ (Nat.le_refl _), List.take_length]
    simp [Rep]

noncomputable def minI : List Int → Int
  | [] => 0
  | x :: xs => xs.foldl min x
theorem argBest_min (xs : List Int) : ∀ k, k < xs.length → valAt xs (argBest (fun i j => decide (valAt xs i < valAt xs j)) k) = minI (xs.take (k + 1)) ∧ argBest (fun i j => decide (valAt xs i < valAt xs j)) k < xs.length
  | 0, h => by
    cases xs with
    | nil => simp at h
    | cons x xs => exact ⟨by simp [argBest, valAt, minI], by simp [argBest]⟩
  | k + 1, h => by
    obtain ⟨ih, hlt⟩ := argBest_min xs k (by omega)
    have e : minI (xs.take (k + 1 + 1)) = min (minI (xs.take (k + 1))) (valAt xs (k + 1)) := by
      cases xs with
      | nil => simp at h
      | cons x xs =>
        have hk : k < xs.length := by simpa using h
        have h1 : xs[k]? = some xs[k] := by simp
        rw [List.take_succ_cons, List.take_succ_cons, List.take_add_one, h1, Option.toList_some]
        show (xs.take k ++ [xs[k]]).foldl min x = _
        rw [List.foldl_append]
        simp [minI, valAt, h1]
    rw [e]
    unfold argBest
    by_cases hb : valAt xs (k + 1) < valAt xs (argBest (fun i j => decide (valAt xs i < valAt xs j)) k)
    · rw [if_pos (by simpa using hb)]
      exact ⟨by omega, h⟩
    · rw [if_neg (by simpa using hb)]
      exact ⟨by omega, hlt⟩

theorem call_min_l {xs : List Int} (hx : xs ≠ []) : CallD Y n (.builtin "min") [.list (xs.map D.int)] (.int (minI xs)) := by
  intro A g s vs hA _ hg r
  obtain ⟨v, rfl, r1⟩ := one_arg r
  simp only [Rep] at r1
  obtain ⟨a, its, rfl, la, ra⟩ := r1
  have za := RepAll.length ra
  rw [Array.length_toList, List.length_map] at za
  have hpos : 0 < xs.length := List.length_pos_iff.mpr hx
  have hval : ∀ (i : Nat) (v : Value), its[i]? = some v → ∃ t, v = Value.int (valAt xs i) t := by
    intro i v hv
    have hi : i < xs.length := by
      rw [← za]
      exact (Array.getElem?_eq_some_iff.mp hv).1
    obtain ⟨t, ht⟩ := ints_of ra i xs[i] (by simp)
    rw [Array.getElem?_toList, hv] at ht
    cases ht
    exact ⟨t, by simp [valAt, hi]⟩
  refine call_min_walk (walk_list hA hg la fun I s₂ K hI W hst hfp => ⟨I, _, _, _, _, _, fun i j => decide (valAt xs i < valAt xs j), rfl, W, hst, hfp, by omega, CmpOf.ints_lt (valAt xs) hval, ?_⟩)
  intro v h' tk hv hk
  refine ⟨keeps_but K hI (listIter_fields hst.1) hk, ?_⟩
  obtain ⟨t, rfl⟩ := hval _ _ hv
  rw [za, (argBest_min xs (xs.length - 1) (by omega)).1, show xs.length - 1 + 1 = xs.length by omega, List.take_length]
  simp [Rep]

theorem truth_int {i : Int} : Truth Y n (.int i) (i != 0) := by
  intro A g s u hA _ hg r
  simp only [Rep] at r
  obtain ⟨t, rfl⟩ := r
  exact P.truthy_int ⟨keeps_refl s, rfl⟩
theorem truth_str {x : Str} (hz : x.length ≤ 1000000) : Truth Y n (.str x) ((x.length : Int) != 0) := by
  intro A g s u hA _ hg r
  simp only [Rep] at r
  obtain ⟨t, rfl⟩ := r
  exact P.truthy_str (by omega) ⟨keeps_tok s _, rfl⟩
theorem truth_bool {b : Bool} : Truth Y n (.bool b) b := by
  intro A g s u hA _ hg r
  simp only [Rep] at r
  subst r
  exact wpAny_truthy_bool ⟨keeps_refl s, rfl⟩

end Mine
end

section
open PySem
namespace Mine
variable {Y : Law} {n : Nat} {nm : Nm} {σ : Sto}

theorem Frm.admit {env : Env} {k g : Gh} {h : Heap} {a : Addr} {o : Obj} (F : Frm Y env k g σ h) (e : h.get? a = some o) (hno : NoTab o) (ga : g a = none) (hL : a ≠ env.locals) (hc : ∀ v, ¬ h.IsCell a v) (hp : ∀ its, ¬ h.PlainList a its) : Le g (setG g a o) ∧ Frm Y env k (setG g a o) σ h := by
  have hg : Le g (setG g a o) := fun b o eb => by
    rw [setG_ne (fun h => by subst h; rw [ga] at eb; cases eb)]; exact eb
  refine ⟨hg, ⟨F.top.1.trans hg, F.top.2⟩, F.lek, ?_, F.ns, F.kL, by rw [setG_ne (Ne.symm hL)]; exact F.gL, fun y c h1 h2 => ?_, F.frees, fun y sl hy => ?_, F.own⟩
  · intro b o' eb
    by_cases hb : b = a
    · subst hb; rw [setG_self] at eb; cases eb; exact see_of e hno
    · rw [setG_ne hb] at eb; exact F.leg _ _ eb
  · obtain ⟨⟨w, hw⟩, kc, gc⟩ := F.cells y c h1 h2
    exact ⟨⟨w, hw⟩, kc, by rw [setG_ne (fun h => by subst h; exact hc w hw)]; exact gc⟩
  · obtain ⟨w, W, S⟩ := F.vars y sl hy
    refine ⟨w, W, ?_⟩
    cases sl with
    | val d => exact Rep.mono hg _ _ S
    | own ys =>
      obtain ⟨b, its', rfl, kb, gb, p, r'⟩ := S
      exact ⟨b, its', rfl, kb, by rw [setG_ne (fun h => by subst h; exact hp _ p)]; exact gb, p, RepAll.mono hg _ _ r'⟩

inductive InitBody : List Stmt → Prop
  | mk {p1 p2 p3 p4 q1 q2 q3 q4 r1 r2 r3 r4 t1 t2 t3 t4 : Pos} {i j : Nat} : InitBody [
      .Assign [.Attribute (.Name (Str.ofString "self") p1) (Str.ofString "useragents") p2] (.List [] p3) p4,
      .Assign [.Attribute (.Name (Str.ofString "self") q1) (Str.ofString "rulelines") q2] (.List [] q3) q4,
      .Assign [.Attribute (.Name (Str.ofString "self") r1) (Str.ofString "delay") r2] (.Constant .none i r3) r4,
      .Assign [.Attribute (.Name (Str.ofString "self") t1) (Str.ofString "req_rate") t2] (.Constant .none j t3) t4]

noncomputable def entNames : List Str := [Str.ofString "useragents", Str.ofString "rulelines", Str.ofString "delay", Str.ofString "req_rate"]

structure NsOk (m : Str → Option Value) (fa fb : Addr) : Prop where
  sa : m (Str.ofString "__setattr__") = none
  ga : m (Str.ofString "__getattribute__") = none
  gh : m (Str.ofString "__getattr__") = none
  own : ∀ x ∈ entNames, m x = none
  app : m (Str.ofString "applies_to") = some (.ref fa)
  allow : m (Str.ofString "allowance") = some (.ref fb)

noncomputable def ClsAt (h : Heap) (C fa fb : Addr) : Prop := ∃ nm q N bs sn sub ab col dd k0 k1 k2 k3 k5 newId mN, h.get? C = some (excClassObj nm q C N bs [.type "object"] true sn sub ab col dd k0 k1 k2 k3 k5 newId) ∧ h.Ns N mN ∧ NsOk mN fa fb ∧
  (∃ o, h.get? fa = some o ∧ o.cls = .type "function") ∧ ∃ o, h.get? fb = some o ∧ o.cls = .type "function"

structure EntOk (Y : Law) (fi fa fb : Addr) : Prop where
  makes : ∀ h : Heap, Le Y.top h.get? → W.Makes (model Y.prog Y.w) h Y.cls
  initL : ∀ h : Heap, Le Y.top h.get? → W.Looks (model Y.prog Y.w) h (typeLookup (.ref Y.cls) "__init__") (some (.ref fi))
  initB : ∀ (h : Heap) (self : Value), Le Y.top h.get? → W.Looks (model Y.prog Y.w) h (bindSpecial (.ref fi) self) (.ref fi, [self])
  init : ∃ oi fdi body, Y.top fi = some oi ∧ oi.data = .func fdi ∧ FnOk fdi [Str.ofString "self"] body ∧ InitBody body ∧ fdi.closure = [] ∧ (∀ x, (x, NameKind.free) ∉ fdi.scope.names) ∧ (∀ h : Heap, Le Y.top h.get? → h.CodeRec fdi.code fdi.qualname) ∧
    fdi.scope.names = [(Str.ofString "self", NameKind.local)]
  cls : ∀ h : Heap, Le Y.top h.get? → ClsAt h Y.cls fa fb

theorem obj_no (x : Str) (hx : x ∈ entNames) : typeLookup (.type "object") x = pure none := by
  simp only [entNames, List.mem_cons, List.not_mem_nil, or_false] at hx
  rcases hx with rfl | rfl | rfl | rfl <;> · rw [typeLookup_type, builtinLookup_eq_fast]; kernel_rfl
theorem obj_no_app : typeLookup (.type "object") (Str.ofString "applies_to") = pure none := by rw [typeLookup_type, builtinLookup_eq_fast]; kernel_rfl
theorem obj_no_allow : typeLookup (.type "object") (Str.ofString "allowance") = pure none := by rw [typeLookup_type, builtinLookup_eq_fast]; kernel_rfl

structure OwnI (Y : Law) (k g : Gh) (env : Env) (h : Heap) (a da : Addr) (m : Str → Option Value) : Prop where
  obj : h.get? a = some (W.instObj Y.cls da)
  ns : h.Ns1 da m
  ne : da ≠ a
  within : Within m entNames
  ka : k a = none
  kd : k da = none
  ga : g a = none
  gd : g da = none
  aL : a ≠ env.locals
  dL : da ≠ env.locals

theorem OwnI.inst {k g : Gh} {env : Env} {h : Heap} {a da : Addr} {m : Str → Option Value} (O : OwnI Y k g env h a da m) : h.Inst a Y.cls m :=
  ⟨_, O.obj, rfl, (fun c hc => nomatch hc), .inr ⟨da, rfl, O.ne, O.ns⟩⟩
theorem ns1_see {h h' : Heap} {a : Addr} {m : Str → Option Value} (x : h.Ns1 a m) (hk : Le (Y.see h) (Y.see h')) : h'.Ns1 a m := by
  obtain ⟨o, es, ep, e, d, r⟩ := x
  exact ⟨o, es, ep, see_raw (hk _ _ (see_of e (.dict d))) (.dict d), d, r⟩
theorem OwnI.grows {k g : Gh} {env : Env} {s s' : Shared} {a da : Addr} {m : Str → Option Value} (O : OwnI Y k g env s.heap a da m) (K : Kp Y s s') : OwnI Y k (grow Y g s.heap s'.heap) env s'.heap a da m := by
  obtain ⟨o, es, ep, e, r⟩ := O.ns
  exact ⟨keeps_raw K O.obj (.plain rfl), ns1_see O.ns (keeps_le K), O.ne, O.within, O.ka, O.kd, by rw [grow_old O.obj (.plain rfl)]; exact O.ga, by rw [grow_old e (.dict r.1)]; exact O.gd, O.aL, O.dL⟩

noncomputable def upd (m : Str → Option Value) (x : Str) (v : Value) : Str → Option Value := fun y => if y = x then some v else m y

theorem own_set {A : Around} {env : Env} {k g : Gh} {s : Shared} {a da fi fa fb : Addr} {m : Str → Option Value} {x : Str} {v : Value} {Q : Unit → Shared → Prop} (hY : EntOk Y fi fa fb) (F : Frm Y env k g σ s.heap) (O : OwnI Y k g env s.heap a da m) (hx : x ∈ entNames)
    (h : ∀ s', ShT s s' → (∀ b o, b ≠ da → s.heap.get? b = some o → s'.heap.get? b = some o) → Frm Y env k g σ s'.heap → OwnI Y k g env s'.heap a da (upd m x v) → Q () s') : Tr Y A (setAttr (.ref a) x v) s Q := by
  obtain ⟨nm', q, N, bs, sn, sub, ab, col, dd, k0, k1, k2, k3, k5, nid, mN, hC, hN, ok, ⟨of, hof, cof⟩, _⟩ := hY.cls s.heap F.rawTop
  have haC : a ≠ Y.cls := fun e => by
    have := O.obj
    rw [e, hC] at this; cases this
  obtain ⟨h₀, g₀, d₀, t₀, os₀⟩ := s
  refine store_attr PySem.F.store_object hC hN ok.sa (ok.own x hx) (obj_no x hx) haC O.inst (fun h' tk' I' hk hsame => ?_) O.within (by decide)
  have hko : h'.get? a = some (W.instObj Y.cls da) := by
    obtain ⟨o₁, e1, e2, e3, e4, e5⟩ := hsame _ O.obj
    obtain ⟨c, dct, dt, sl⟩ := o₁
    have := e5 da rfl
    simp only at e2 e3 e4 this
    subst e2 e3 e4 this
    exact e1
  have hkb : ∀ b o, b ≠ da → h₀.get? b = some o → h'.get? b = some o := fun b o hb e => by
    by_cases hba : b = a
    · subst hba
      have := O.obj
      simp only at this
      rw [this] at e; cases e; exact hko
    · refine hk b o hba (fun o₀ dx e1 e2 => ?_) e
      have := O.obj
      simp only at this
      rw [this] at e1; cases e1
      cases e2; exact hb
  have hns : h'.Ns1 da (upd m x v) := by
    obtain ⟨o, e1, _, _, h2⟩ := I'
    rw [hko] at e1; cases e1
    rcases h2 with ⟨h2, _⟩ | ⟨d, h2, _, h3⟩
    · cases h2
    · cases h2; exact h3
  obtain ⟨o₂, es, ep, e2, e3, _⟩ := O.ns
  have F' : Frm Y env k g σ h' := F.alter (wr := [da]) (fun b o hb e => hkb b o (by simpa using hb) e) (fun b hb => by
      rw [List.mem_singleton.mp hb]
      refine ⟨O.kd, O.gd, O.dL, fun v => ?_, fun its => ?_, fun o e hf => ?_⟩
      · rintro ⟨o, e, d⟩
        rw [e2] at e; cases e; rw [e3] at d; cases d
      · rintro ⟨i, e⟩
        rw [e2] at e; cases e; cases e3
      · rw [e2] at e; cases e
        obtain ⟨⟨vs, hf⟩, _⟩ := hf
        rw [hf] at e3; cases e3) Le.rfl (fun b o e => see_same (fun o' e' => hkb b o' (fun hb => by rw [hb, O.gd] at e; cases e) e') (F.leg _ _ e)) fun _ _ _ _ h => h
  refine h _ ⟨h', tk', rfl⟩ hkb F' ⟨hko, hns, O.ne, fun y hy => ?_, O.ka, O.kd, O.ga, O.gd, O.aL, O.dL⟩
  by_cases hyx : y = x
  · rw [hyx]; exact hx
  · refine O.within y fun e => hy ?_
    unfold upd
    rw [if_neg hyx]; exact e

end Mine
end

section
open PySem
namespace Mine
variable {Y : Law} {n : Nat} {nm : Nm} {σ : Sto}

theorem raw_var {env : Env} {k g : Gh} {h : Heap} {x : Str} {u : Value} (F : Frm Y env k g σ h) (hx : σ.lookup x = some (.val (.raw u))) : VarIs env h x u := by
  obtain ⟨v, V, r⟩ := F.vars x _ hx
  have r : Rep Y g (.raw u) v := r
  simp only [Rep] at r
  subst r; exact V

theorem own_assign0 {A : Around} {env : Env} {k : Gh} {s : Shared} {a da fi fa fb : Addr} {m : Str → Option Value} {x name : Str} {xp ap p : Pos} {e : Expr} {Q : Flow → Shared → Prop} (hY : EntOk Y fi fa fb) (hE : EnvOk nm env) (hx : σ.lookup x = some (.val (.raw (.ref a))))
    (hd : (x == ("__debug__" : Str)) = false) (hc : (x == ("__classdict__" : Str)) = false) (hn : name ∈ entNames)
    (hs : swapsWith e (some (.Attribute (.Name x xp) name ap)) p.line env = pure false)
    (hv : Tr Y A (eval e env) s (fun v s₁ => ∃ g₁, Frm Y env k g₁ σ s₁.heap ∧ OwnI Y k g₁ env s₁.heap a da m ∧
      ∀ s', ShT s₁ s' → (∀ b o, b ≠ da → s₁.heap.get? b = some o → s'.heap.get? b = some o) → Frm Y env k g₁ σ s'.heap → OwnI Y k g₁ env s'.heap a da (upd m name v) → Q .next s')) :
    Tr Y A (exec (.Assign [.Attribute (.Name x xp) name ap] e p) env) s Q := by
  refine plainObj_wpAny_Assign_Attribute (hv.mono fun v s₁ h₁ => ?_) hs
  obtain ⟨g₁, F, O, h⟩ := h₁
  refine wpAny_Name (load_ok hE.kind (raw_var F hx) ?_ hc) hd
  exact own_set hY F O hn h

theorem OwnI.le {k g : Gh} {env : Env} {h h' : Heap} {a da : Addr} {m : Str → Option Value} (O : OwnI Y k g env h a da m) (hk : Le h.get? h'.get?) : OwnI Y k g env h' a da m :=
  ⟨hk _ _ O.obj, O.ns.keeps hk, O.ne, O.within, O.ka, O.kd, O.ga, O.gd, O.aL, O.dL⟩
theorem plain_keep {h h' : Heap} {da l : Addr} {its : Array Value} {m} (x : h.PlainList l its) (hn : h.Ns1 da m) (hk : ∀ b o, b ≠ da → h.get? b = some o → h'.get? b = some o) : h'.PlainList l its := by
  obtain ⟨i, e⟩ := x
  refine ⟨i, hk _ _ (fun hb => ?_) e⟩
  obtain ⟨o, es, ep, e', d, _⟩ := hn
  rw [← hb, e] at e'; cases e'; cases d

noncomputable def initM (l1 l2 : Addr) : Str → Option Value := upd (upd (upd (upd (fun _ => none) (Str.ofString "useragents") (.ref l1)) (Str.ofString "rulelines") (.ref l2)) (Str.ofString "delay") .none) (Str.ofString "req_rate") .none

theorem init_run {A : Around} {env : Env} {k g : Gh} {s : Shared} {a da fi fa fb : Addr} {body : List Stmt} {Q : Flow → Shared → Prop} (hY : EntOk Y fi fa fb) (hE : EnvOk nm env) (hx : σ.lookup (Str.ofString "self") = some (.val (.raw (.ref a))))
    (F : Frm Y env k g σ s.heap) (O : OwnI Y k g env s.heap a da (fun _ => none)) (hb : InitBody body)
    (h : ∀ s' l1 l2, ShT s s' → Frm Y env k g σ s'.heap → OwnI Y k g env s'.heap a da (initM l1 l2) → s.heap.get? l1 = none → s.heap.get? l2 = none → s'.heap.PlainList l1 #[] → s'.heap.PlainList l2 #[] → l1 ≠ l2 → Q .next s') :
    Tr Y A (execs body env) s Q := by
  cases hb
  refine wpAny_execs_cons (own_assign0 hY hE hx rfl rfl (by simp [entNames]) rfl (wpAny_List (wpAny_items_nil ⟨by decide, g, ?_, O.le (le_push _ _), fun s₁ hs₁ hk₁ F₁ O₁ => ?_⟩)))
  · exact F.fresh (le_push _ _) Le.rfl (F.leg.trans (see_le (le_push _ _))) fun _ _ _ _ => rfl
  have pl₁ : (s.heap.push (listO #[] 0)).PlainList s.heap.objs.size #[] := ⟨0, Heap.get?_push_size _ rfl⟩
  have p₁ : s₁.heap.PlainList s.heap.objs.size #[] := plain_keep pl₁ (O.le (le_push _ _)).ns hk₁
  refine wpAny_execs_cons (own_assign0 hY hE hx rfl rfl (by simp [entNames]) rfl (wpAny_List (wpAny_items_nil ⟨by decide, g, ?_, O₁.le (le_push _ _), fun s₂ hs₂ hk₂ F₂ O₂ => ?_⟩)))
  · exact F₁.fresh (le_push _ _) Le.rfl (F₁.leg.trans (see_le (le_push _ _))) fun _ _ _ _ => rfl
  have pl₂ : (s₁.heap.push (listO #[] 0)).PlainList s₁.heap.objs.size #[] := ⟨0, Heap.get?_push_size _ rfl⟩
  have p₂ : s₂.heap.PlainList s₁.heap.objs.size #[] := plain_keep pl₂ (O₁.le (le_push _ _)).ns hk₂
  have q₂ : s₂.heap.PlainList s.heap.objs.size #[] := plain_keep (PlainList.le (le_push _ _) p₁) (O₁.le (le_push _ _)).ns hk₂
  refine wpAny_execs_cons (own_assign0 hY hE hx rfl rfl (by simp [entNames]) rfl (wpAny_Constant_none ⟨g, F₂, O₂, fun s₃ hs₃ hk₃ F₃ O₃ => ?_⟩))
  refine wpAny_execs_cons (own_assign0 hY hE hx rfl rfl (by simp [entNames]) rfl (wpAny_Constant_none ⟨g, F₃, O₃, fun s₄ hs₄ hk₄ F₄ O₄ => ?_⟩))
  refine wpAny_execs_nil (h s₄ _ _ ?_ F₄ O₄ (size_none _) ?_ (plain_keep (plain_keep q₂ O₂.ns hk₃) O₃.ns hk₄) (plain_keep (plain_keep p₂ O₂.ns hk₃) O₃.ns hk₄) ?_)
  · exact (ShT.trans ⟨_, s.toks, rfl⟩ hs₁).trans ((ShT.trans ⟨_, s₁.toks, rfl⟩ hs₂).trans (hs₃.trans hs₄))
  · cases e : s.heap.get? s₁.heap.objs.size with
    | none => rfl
    | some o =>
      obtain ⟨i, e₁⟩ := p₁
      have hlt : s.heap.objs.size < s₁.heap.objs.size := Heap.lt_size e₁
      exact absurd (Heap.lt_size e) (Nat.not_lt.mpr (Nat.le_of_lt hlt))
  · obtain ⟨i, e₁⟩ := p₁
    exact Nat.ne_of_lt (Heap.lt_size e₁)

theorem AOk.create {A : Around} {C : Addr} (h : AOk (n + 1) A) : AOk n (A.under (.builtin "type.__call__" ⟨[.ref C], []⟩)) := by
  have h1 : (Code.builtin "type.__call__" ⟨[.ref C], []⟩).weight = 1 := rfl
  have h2 : (Code.builtin "type.__call__" ⟨[.ref C], []⟩).cUnits = 1 := rfl
  have h3 : (Code.builtin "type.__call__" ⟨[.ref C], []⟩).guards = [] := rfl
  refine ⟨h.1, ?_, ?_, ?_⟩
  · show A.depth + (Code.builtin "type.__call__" ⟨[.ref C], []⟩).weight + n ≤ 900
    have := h.2.1; omega
  · show A.units + (Code.builtin "type.__call__" ⟨[.ref C], []⟩).cUnits + 10 * n ≤ 9000
    have := h.2.2.1; omega
  · show pushGuards (Code.builtin "type.__call__" ⟨[.ref C], []⟩).guards A.guards = _
    rw [h3]; exact h.2.2.2

theorem call_new {A : Around} {g : Gh} {s : Shared} {fi fa fb : Addr} {Q : Value → Shared → Prop} (hY : EntOk Y fi fa fb) (hA : AOk (n + 2) A) (top : TopOk Y g s.heap) (leg : Le g (Y.see s.heap))
    (h : ∀ a da l1 l2 s' m, Kp Y s s' → s.heap.get? a = none → s.heap.get? da = none → s.heap.get? l1 = none → s.heap.get? l2 = none → s'.heap.get? a = some (W.instObj Y.cls da) → s'.heap.Ns1 da m → da ≠ a → Within m entNames →
      m = initM l1 l2 →
      s'.heap.PlainList l1 #[] → s'.heap.PlainList l2 #[] → l1 ≠ l2 → Q (.ref a) s') : Tr Y A (call (.ref Y.cls) []) s Q := by
  have traw := top.raw leg
  refine wpAny_call ?_
  obtain ⟨h₀, g₀, d₀, t₀, os₀⟩ := s
  refine W.make_core (hY.makes _ traw) (hY.initL _ traw) (fun self => hY.initB _ self traw) (.inl rfl) ?_
  generalize hU : A.under (.builtin "type.__call__" ⟨[.ref Y.cls], []⟩) = A₁
  have hA1 : AOk (n + 1) A₁ := hU ▸ hA.create
  obtain ⟨oi, fdi, body, hoi, hdi, ok, hbody, hclo, hfree, hcd, hnames⟩ := hY.init
  have hdep : A₁.depth < recursionLimit := by have := hA1.2.1; show A₁.depth < 1000; omega
  have hk₂ : Le h₀.get? ((h₀.push W.emptyDict).push (W.instObj Y.cls h₀.objs.size)).get? := fun b o e => Heap.get?_push_of_some _ (Heap.get?_push_of_some _ e)
  have hsz : (h₀.push W.emptyDict).objs.size = h₀.objs.size + 1 := Heap.size_push ..
  have ea : ((h₀.push W.emptyDict).push (W.instObj Y.cls h₀.objs.size)).get? (h₀.objs.size + 1) = some (W.instObj Y.cls h₀.objs.size) := by
    have := Heap.get?_push_size (h₀.push W.emptyDict) (o := W.instObj Y.cls h₀.objs.size) rfl
    rw [hsz] at this; exact this
  have eda : ((h₀.push W.emptyDict).push (W.instObj Y.cls h₀.objs.size)).get? h₀.objs.size = some W.emptyDict := Heap.get?_push_of_some _ (Heap.get?_push_size _ rfl)
  generalize hh₂ : (h₀.push W.emptyDict).push (W.instObj Y.cls h₀.objs.size) = h₂ at *
  have top₂ : TopOk Y g h₂ := top.mono Le.rfl (.of hk₂)
  have leg₂ : Le g (Y.see h₂) := leg.trans (see_le hk₂)
  have traw₂ := top₂.raw leg₂
  refine codeAny_call_function hdep (traw₂ _ _ hoi) hdi ok.cor ok.gen ok.body (hcd _ traw₂) ?_
  rw [ok.bind [.ref (h₀.objs.size + 1)] rfl]
  refine wpAny_pure (Tr.any (newFnEnv ?_))
  obtain ⟨hE, F⟩ := fn_frm (a := fi) (σ := []) ok.sh (CloOk.none hclo hfree) top₂ leg₂
  refine binds_ok hE _ [.raw (.ref (h₀.objs.size + 1))] _ [] _ _ F (by simp [RepAll, Rep]) rfl ok.able fun s₃ hs₃ F₃ => ?_
  refine ⟨Y.nolimit _ F₃.rawTop, codeAny_func ?_⟩
  -- now with what stood before kept
  have gfresh : ∀ b, h₀.objs.size ≤ b → g b = none ∧ Y.see h₀ b = none := fun b hb => by
    refine ⟨?_, see_none (get_above hb)⟩
    cases e : g b with
    | none => rfl
    | some o => have := leg _ _ e; rw [see_none (get_above hb)] at this; cases this
  have F₄ := F₃.lessK (k' := Y.see h₀) (see_le hk₂)
  have hL : (fnEnvAt fdi fi h₂.objs.size).locals = h₂.objs.size := rfl
  have hsz2 : h₂.objs.size = h₀.objs.size + 1 + 1 := by rw [← hh₂, Heap.size_push, hsz]
  have ea₃ : s₃.heap.get? (h₀.objs.size + 1) = some (W.instObj Y.cls h₀.objs.size) := see_raw (F₃.lek _ _ (see_of ea (.plain rfl))) (.plain rfl)
  have eda₃ : s₃.heap.get? h₀.objs.size = some W.emptyDict := see_raw (F₃.lek _ _ (see_of eda (.dict rfl))) (.dict rfl)
  have O₄ : OwnI Y (Y.see h₀) g (fnEnvAt fdi fi h₂.objs.size) s₃.heap (h₀.objs.size + 1) h₀.objs.size (fun _ => none) :=
    ⟨ea₃, Heap.Ns1.of_empty ⟨_, #[], _, eda₃, rfl, fun e he => absurd he (by simp), fun _ => rfl⟩, (Nat.succ_ne_self _).symm, fun _ h => absurd rfl h,
      (gfresh _ (Nat.le_succ _)).2, (gfresh _ (Nat.le_refl _)).2, (gfresh _ (Nat.le_succ _)).1, (gfresh _ (Nat.le_refl _)).1, by rw [hL, hsz2]; exact Nat.ne_of_lt (Nat.lt_succ_self _), by rw [hL, hsz2]; exact Nat.ne_of_lt (Nat.lt_succ_of_lt (Nat.lt_succ_self _))⟩
  have hσ : (pushes ([Str.ofString "self"].zip [D.raw (.ref (h₀.objs.size + 1))]) []).lookup (Str.ofString "self") = some (.val (.raw (.ref (h₀.objs.size + 1)))) := rfl
  refine Tr.any (init_run hY hE hσ F₄ O₄ hbody fun s₄ l1 l2 hs₄ F₅ O₅ n1 n2 p1 p2 hne => ?_)
  have low : ∀ b, s₃.heap.get? b = none → h₀.get? b = none := fun b hb => by
    cases e : h₀.get? b with
    | none => rfl
    | some o =>
      obtain ⟨o', e'⟩ := live_see (Y := Y) e
      obtain ⟨o'', e''⟩ := see_live (F₄.lek _ _ e')
      rw [hb] at e''; cases e''
  obtain ⟨h₃, t₃, rfl⟩ := hs₃
  obtain ⟨h₄, t₄, rfl⟩ := hs₄
  refine ⟨rfl, h _ h₀.objs.size l1 l2 _ _ ⟨h₄, t₄, rfl, F₅.lek, fun _ => F₅.top.2⟩ (get_above (Nat.le_succ _)) (size_none _) (low _ n1) (low _ n2) O₅.obj O₅.ns O₅.ne O₅.within rfl p1 p2 hne⟩

end Mine
end

section
open PySem
namespace Mine
variable {Y : Law} {n : Nat} {nm : Nm} {σ : Sto}

structure Bld (Y : Law) (env : Env) (k g₀ : Gh) (s₀ : Shared) (σ : Sto) (a da : Addr) (m : Str → Option Value) (g : Gh) (s : Shared) : Prop where
  sht : ShT s₀ s
  le : Le g₀ g
  sep : ∀ b o, k b = some o → Held Y b o → g₀ b = none → g b = none
  frm : Frm Y env k g σ s.heap
  own : OwnI Y k g env s.heap a da m

noncomputable def ClsCall (Y : Law) : Prop := ∀ h : Heap, Le Y.top h.get? → ∃ k, (k = Keeper.frame ∨ k = Keeper.machine ∨ k = Keeper.boundFrame) ∧ W.Looks (model Y.prog Y.w) h (keeperOf (.ref Y.cls)) k

theorem bld_new {A : Around} {env : Env} {k g : Gh} {s : Shared} {fi fa fb : Addr} {x c : Str} {xp np cp p : Pos} {Q : Flow → Shared → Prop} (hY : EntOk Y fi fa fb) (hC : ClsCall Y) (hA : AOk (n + 2) A) (hE : EnvOk nm env) (F : Frm Y env k g σ s.heap)
    (hx : Mine.Able nm x) (hcx : nm.lookup c = some .globalImplicit) (hcg : Y.glo c = some (.ref Y.cls)) (hcd : (c == ("__debug__" : Str)) = false)
    (h : ∀ a da l1 l2 s', Bld Y env k g s ((x, .val (.raw (.ref a))) :: σ) a da (initM l1 l2) g s' → k l1 = none → g l1 = none → k l2 = none → g l2 = none → s'.heap.PlainList l1 #[] → s'.heap.PlainList l2 #[] → l1 ≠ l2 →
      (∀ y zs b, σ.lookup y = some (.own zs) → VarIs env s'.heap y (.ref b) → b ≠ l1 ∧ b ≠ l2) → Q .next s') :
    Tr Y A (exec (.Assign [.Name x xp] (.Call (.Name c np) [] [] cp) p) env) s Q := by
  refine wpAny_Assign_Name (wpAny_Call_NameR (global_ok hE hcx hcg F.rawTop hcd ?_)) rfl
  refine W.callWith_of (P := fun h => Le Y.top h.get?) rfl hC (PyProof.Rows.evalArgs_nil3 ⟨F.rawTop, ?_⟩)
  show Tr Y A (call (.ref Y.cls) []) s _
  refine call_new hY hA F.top F.leg fun a da l1 l2 s₁ m K na nda n1 n2 oa ns ne wi hm p1 p2 hne => ?_
  subst hm
  have F₁ : Frm Y env k g σ s₁.heap := F.freshK K Le.rfl (F.leg.trans (keeps_le K)) fun _ _ _ _ => rfl
  have kn : ∀ b, s.heap.get? b = none → k b = none := fun b hb => by
    cases e : k b with
    | none => rfl
    | some o => have := F.lek _ _ e; rw [see_none hb] at this; cases this
  have gn : ∀ b, s.heap.get? b = none → g b = none := fun b hb => by
    cases e : g b with
    | none => rfl
    | some o => have := F.leg _ _ e; rw [see_none hb] at this; cases this
  have hL : ∀ b, s.heap.get? b = none → b ≠ env.locals := fun b hb e => by
    obtain ⟨m, o, _, _, e', _⟩ := F.ns
    rw [e, e'] at hb; cases hb
  obtain ⟨od, es, ep, eod, dod, rod⟩ := ns
  refine store_okV hE F₁ hx (sl := .val (.raw (.ref a))) (by show Rep Y g (.raw (.ref a)) (.ref a); simp [Rep]) (by intro _ _ _ _ h; cases h) fun s₂ hs₂ hk₂ F₂ hvx hvo => ?_
  have hmy : ∀ b o, s₁.heap.get? b = some o → s.heap.get? b = none → (∀ v, o.data ≠ .cell v) → ¬ MyAddr nm env b := fun b o e hb hd => by
    rintro (rfl | ⟨y, hy, hc⟩)
    · exact hL _ hb rfl
    · obtain ⟨⟨w, o', e', d⟩, _⟩ := F₁.cells y b (cell_kind hE hy) hc
      rw [e] at e'; cases e'; exact hd _ d
  have oa₂ := (hk₂ a (hmy a _ oa na (fun v h => nomatch h))).trans oa
  have od₂ := (hk₂ da (hmy da _ eod nda (fun v h => by rw [dod] at h; cases h))).trans eod
  have pl : ∀ l, s₁.heap.PlainList l #[] → s.heap.get? l = none → s₂.heap.PlainList l #[] := fun l ⟨i, e⟩ hl => ⟨i, (hk₂ l (hmy l _ e hl (fun v h => nomatch h))).trans e⟩
  refine h a da l1 l2 s₂ ⟨(keeps_sht K).trans hs₂, Le.rfl, fun _ _ _ _ h => h, F₂, ⟨oa₂, ⟨od, es, ep, od₂, dod, rod⟩, ne, wi, kn _ na, kn _ nda, gn _ na, gn _ nda, hL _ na, hL _ nda⟩⟩ (kn _ n1) (gn _ n1) (kn _ n2) (gn _ n2) (pl _ p1 n1) (pl _ p2 n2) hne ?_
  intro y zs b hy Vy
  obtain ⟨w, Vw, b', its, rfl, _, _, ⟨i, eb⟩, _⟩ := F.vars y _ hy
  by_cases hyx : y = x
  · subst hyx
    have := VarIs.inj Vy hvx
    cases this
    refine ⟨fun e => ?_, fun e => ?_⟩
    · obtain ⟨i, e1⟩ := p1
      rw [← e, oa] at e1; cases e1
    · obtain ⟨i, e1⟩ := p2
      rw [← e, oa] at e1; cases e1
  · have := VarIs.inj Vy (hvo y _ hyx (Vw.see (keeps_le K)))
    cases this
    exact ⟨(fun e => by rw [e, n1] at eb; cases eb), (fun e => by rw [e, n2] at eb; cases eb)⟩

theorem bld_set {A : Around} {env : Env} {k g₀ g : Gh} {s₀ s : Shared} {a da fi fa fb : Addr} {m : Str → Option Value} {x name : Str} {xp ap p : Pos} {e : Expr} {d : D} {Q : Flow → Shared → Prop} (hY : EntOk Y fi fa fb) (hA : AOk n A) (hE : EnvOk nm env) (B : Bld Y env k g₀ s₀ σ a da m g s)
    (hx : σ.lookup x = some (.val (.raw (.ref a)))) (hd : (x == ("__debug__" : Str)) = false) (hc : (x == ("__classdict__" : Str)) = false) (hn : name ∈ entNames) (he : Ev Y n nm σ e d)
    (hs : swapsWith e (some (.Attribute (.Name x xp) name ap)) p.line env = pure false)
    (h : ∀ v g' s', Bld Y env k g₀ s₀ σ a da (upd m name v) g' s' → Le g g' → Rep Y g' d v → (∀ l its, k l = none → g l = none → s.heap.PlainList l its → k l = none ∧ g' l = none ∧ s'.heap.PlainList l its) → Q .next s') :
    Tr Y A (exec (.Assign [.Attribute (.Name x xp) name ap] e p) env) s Q := by
  refine own_assign0 (k := k) (da := da) (m := m) hY hE hx hd hc hn hs ((he A env k g s hA hE B.frm).mono fun v s₁ h₁ => ?_)
  have F₁ := B.frm.grows h₁.1
  have O₁ := B.own.grows h₁.1
  refine ⟨_, F₁, O₁, fun s' hs' hk' F' O' => ?_⟩
  refine h v _ s' ⟨B.sht.trans ((keeps_sht h₁.1).trans hs'), B.le.trans (le_grow B.frm.leg), fun b o e hh gb => ?_, F', O'⟩ (le_grow B.frm.leg) h₁.2 fun l its kl gl pl => ?_
  · exact sep_grow B.frm.lek b o e hh (B.sep b o e hh gb)
  · refine ⟨kl, ?_, plain_keep (PlainList.see (keeps_le h₁.1) pl) O₁.ns hk'⟩
    obtain ⟨i, e⟩ := pl
    rw [grow_old e (.seq rfl)]; exact gl

theorem bld_ret {A : Around} {env : Env} {k g₀ g : Gh} {s₀ s : Shared} {a da : Addr} {m : Str → Option Value} {x : Str} {xp p : Pos} {u r d q : D} (hE : EnvOk nm env) (B : Bld Y env k g₀ s₀ σ a da m g s)
    (hx : σ.lookup x = some (.val (.raw (.ref a)))) (hd : (x == ("__debug__" : Str)) = false) (hc : (x == ("__classdict__" : Str)) = false)
    (h1 : ∃ v, m (Str.ofString "useragents") = some v ∧ Rep Y g u v) (h2 : ∃ v, m (Str.ofString "rulelines") = some v ∧ Rep Y g r v) (h3 : ∃ v, m (Str.ofString "delay") = some v ∧ Rep Y g d v) (h4 : ∃ v, m (Str.ofString "req_rate") = some v ∧ Rep Y g q v) :
    Tr Y A (execs [.Return (some (.Name x xp)) p] env) s (Ends Y env k g₀ s₀ (.ret (.ent u r d q)) σ) := by
  refine wpAny_execs_cons (wpAny_Return_some (wpAny_Name (load_ok hE.kind (raw_var B.frm hx) ?_ hc) hd))
  obtain ⟨od, es, ep, eod, dod, k1, k2, rod⟩ := B.own.ns
  have O := B.own
  obtain ⟨hg₁, F₁⟩ := B.frm.admit O.obj (.plain rfl) O.ga O.aL (fun v ⟨o, e, d⟩ => by rw [O.obj] at e; cases e; cases d) (fun its ⟨i, e⟩ => by rw [O.obj] at e; cases e)
  obtain ⟨hg₂, F₂⟩ := F₁.admit eod (.dict dod) (by rw [setG_ne O.ne]; exact O.gd) O.dL (fun v ⟨o, e, d⟩ => by rw [eod] at e; cases e; rw [dod] at d; cases d) (fun its ⟨i, e⟩ => by rw [eod] at e; cases e; cases dod)
  have hg := hg₁.trans hg₂
  refine ⟨B.sht, _, B.le.trans hg, fun b o e hh gb => ?_, F₂, .ref a, rfl, ?_⟩
  · have hb1 : b ≠ a := fun h => by rw [h, O.ka] at e; cases e
    have hb2 : b ≠ da := fun h => by rw [h, O.kd] at e; cases e
    rw [setG_ne hb2, setG_ne hb1]; exact B.sep b o e hh gb
  · obtain ⟨v1, e1, r1⟩ := h1; obtain ⟨v2, e2, r2⟩ := h2; obtain ⟨v3, e3, r3⟩ := h3; obtain ⟨v4, e4, r4⟩ := h4
    simp only [Rep]
    refine ⟨a, m, rfl, ⟨_, da, od, es, ep, by rw [setG_ne (Ne.symm O.ne)]; exact setG_self _ _ _, rfl, rfl, rfl, O.ne, setG_self _ _ _, dod, k1, k2, rod⟩,
      ⟨v1, e1, Rep.mono hg _ _ r1⟩, ⟨v2, e2, Rep.mono hg _ _ r2⟩, ⟨v3, e3, Rep.mono hg _ _ r3⟩, ⟨v4, e4, Rep.mono hg _ _ r4⟩, ?_, ?_⟩
    · cases e : m (Str.ofString "applies_to") with
      | none => rfl
      | some v => exact absurd (O.within _ (by rw [e]; exact nofun)) (by decide)
    · cases e : m (Str.ofString "allowance") with
      | none => rfl
      | some v => exact absurd (O.within _ (by rw [e]; exact nofun)) (by decide)

theorem Ex_record {fi fa fb : Addr} {x c : Str} {xp np cp p xp1 ap1 p1 xp2 ap2 p2 xp3 ap3 p3 xp4 ap4 p4 xp5 p5 : Pos} {e1 e2 e3 e4 : Expr} {d1 d2 d3 d4 : D} (hY : EntOk Y fi fa fb) (hC : ClsCall Y)
    (hx : Mine.Able nm x) (hd : (x == ("__debug__" : Str)) = false) (hc : (x == ("__classdict__" : Str)) = false) (hcx : nm.lookup c = some .globalImplicit) (hcg : Y.glo c = some (.ref Y.cls)) (hcd : (c == ("__debug__" : Str)) = false)
    (h1 : ∀ u, Ev Y (n + 2) nm ((x, .val (.raw u)) :: σ) e1 d1) (h2 : ∀ u, Ev Y (n + 2) nm ((x, .val (.raw u)) :: σ) e2 d2) (h3 : ∀ u, Ev Y (n + 2) nm ((x, .val (.raw u)) :: σ) e3 d3) (h4 : ∀ u, Ev Y (n + 2) nm ((x, .val (.raw u)) :: σ) e4 d4)
    (hs1 : ∀ env, swapsWith e1 (some (.Attribute (.Name x xp1) (Str.ofString "useragents") ap1)) p1.line env = pure false) (hs2 : ∀ env, swapsWith e2 (some (.Attribute (.Name x xp2) (Str.ofString "rulelines") ap2)) p2.line env = pure false)
    (hs3 : ∀ env, swapsWith e3 (some (.Attribute (.Name x xp3) (Str.ofString "delay") ap3)) p3.line env = pure false) (hs4 : ∀ env, swapsWith e4 (some (.Attribute (.Name x xp4) (Str.ofString "req_rate") ap4)) p4.line env = pure false) :
    Ex Y (n + 2) nm σ [.Assign [.Name x xp] (.Call (.Name c np) [] [] cp) p, .Assign [.Attribute (.Name x xp1) (Str.ofString "useragents") ap1] e1 p1, .Assign [.Attribute (.Name x xp2) (Str.ofString "rulelines") ap2] e2 p2,
      .Assign [.Attribute (.Name x xp3) (Str.ofString "delay") ap3] e3 p3, .Assign [.Attribute (.Name x xp4) (Str.ofString "req_rate") ap4] e4 p4, .Return (some (.Name x xp5)) p5] (.ret (.ent d1 d2 d3 d4)) [] := by
  intro A env k g s hA hE F
  refine wpAny_execs_cons (bld_new (n := n) hY hC hA hE F hx hcx hcg hcd fun a da l1 l2 s₁ B₁ _ _ _ _ _ _ _ _ => ?_)
  have hl : ((x, Sl.val (.raw (.ref a))) :: σ : Sto).lookup x = some (.val (.raw (.ref a))) := by rw [List.lookup_cons]; simp
  refine wpAny_execs_cons (bld_set hY hA hE B₁ hl hd hc (by simp [entNames]) (h1 _) (hs1 env) fun v1 g₂ s₂ B₂ le₂ r1 _ => ?_)
  refine wpAny_execs_cons (bld_set hY hA hE B₂ hl hd hc (by simp [entNames]) (h2 _) (hs2 env) fun v2 g₃ s₃ B₃ le₃ r2 _ => ?_)
  refine wpAny_execs_cons (bld_set hY hA hE B₃ hl hd hc (by simp [entNames]) (h3 _) (hs3 env) fun v3 g₄ s₄ B₄ le₄ r3 _ => ?_)
  refine wpAny_execs_cons (bld_set hY hA hE B₄ hl hd hc (by simp [entNames]) (h4 _) (hs4 env) fun v4 g₅ s₅ B₅ le₅ r4 _ => ?_)
  refine (bld_ret hE B₅ hl hd hc ⟨v1, rfl, Rep.mono (le₃.trans (le₄.trans le₅)) _ _ r1⟩ ⟨v2, rfl, Rep.mono (le₄.trans le₅) _ _ r2⟩ ⟨v3, rfl, Rep.mono le₅ _ _ r3⟩ ⟨v4, rfl, r4⟩).mono fun f s' h' => ?_
  obtain ⟨a1, g', a2, a3, a4, a5⟩ := h'
  exact ⟨a1, g', a2, a3, a4.sub Sub.nil, a5⟩

end Mine
end

section
open PySem
open Builtin Builtin.ObjectAttr
namespace Mine
variable {Y : Law} {n : Nat} {nm : Nm} {σ : Sto}

theorem fn_lookup {name : Str} {r : Option Value} (h : fastLookup "function" name = some r) : typeLookup (.type "function") name = pure r := by
  rw [typeLookup_type, builtinLookup_eq_fast, h]
theorem slot_fn_ga : Slot "function" "__getattribute__" "object.__getattribute__" :=
  .of (owner := "object") (n := "__getattribute__") (fn_lookup (by kernel_rfl)) (by decide +kernel) (by decide +kernel) (by decide +kernel) (.inl (by decide +kernel)) (by rw [isSubtype_type]; kernel_rfl)
theorem slot_fn_sa : Slot "function" "__setattr__" "object.__setattr__" :=
  .of (owner := "object") (n := "__setattr__") (fn_lookup (by kernel_rfl)) (by decide +kernel) (by decide +kernel) (by decide +kernel) (.inl (by decide +kernel)) (by rw [isSubtype_type]; kernel_rfl)
theorem fn_no_hook : typeLookup (.type "function") (Str.ofString "__getattr__") = pure none := fn_lookup (by kernel_rfl)
theorem fn_no_app : typeLookup (.type "function") (Str.ofString "applies_to") = pure none := fn_lookup (by kernel_rfl)
theorem fn_no_allow : typeLookup (.type "function") (Str.ofString "allowance") = pure none := fn_lookup (by kernel_rfl)

theorem fn_get {A : Around} {s : Shared} {a dd : Addr} {o : Obj} {fd : FuncData} {m : Str → Option Value} {name : Str} {v : Value} {ex : Bool} {Q : Value → Shared → Prop} (ho : s.heap.get? a = some o) (hc : o.cls = .type "function") (hdat : o.data = .func fd) (hd : o.dict = some dd)
    (hns : s.heap.Ns dd m) (hv : m name = some v) (hmiss : typeLookup (.type "function") name = pure none) (hh : handedOut v = pure v) (hq : Q v { s with toks := s.toks + 1 }) : Tr Y A (getAttr (.ref a) name ex) s Q := by
  obtain ⟨c, dct, dat, sl⟩ := o
  simp only at hc hdat hd
  subst hc hdat hd
  obtain ⟨hp, g, d, tk, os⟩ := s
  have hT : ∀ tk', (⟨hp, g, d, tk', os⟩ : Shared).TypeIs (.ref a) "function" := fun _ => ⟨_, ho, rfl⟩
  have f3 := slot_fn_ga.lookup
  have f4 := slot_fn_ga.bind (.ref a)
  have f5 := fn_no_hook
  unfold getAttr getAttrBy
  repeat (any_goals (first | assumption | exact hT _ | wp_step))
  have hcond : (ex && onTheHeap (Value.builtin "object.__getattribute__")) = false := by cases ex <;> rfl
  rw [hcond]
  simp only [Bool.false_eq_true, if_false]
  unfold boundAndCalled
  rw [f4]
  refine wpAny_bind (wpAny_pure ?_)
  show wpAny _ _ (call (.builtin "object.__getattribute__") [.ref a, .str name tk]) _ _ _
  refine wpAny_call_entry slot_fn_ga (hT _) F.entry_object_getattribute ?_ (F.args_object_getattribute_2 _ _)
  unfold Builtin.«object.__getattribute__»
  repeat (any_goals (first | assumption | exact hT _ | (with_reducible refine wpAny_nsGet hns ?_; rw [hv]) | wp_step))
  refine ⟨v, rfl, ?_⟩
  rw [hh]
  exact wpAny_pure hq

theorem mro_function : mroOf (.type "function") = pure [.type "function", .type "object"] := by kernel_rfl
theorem fn_passes (self : Value) : refuseLoop self "__setattr__" [.type "function", .type "object"] = pure () := by kernel_rfl
theorem fn_fin : finalisedInACycleAlone "function" = false := by decide +kernel
theorem fn_hasDict : typeHasDict (.type "function") = true := by decide +kernel

theorem store_in {A : Around} {E : Value → Shared → Prop} {s : Shared} {d : Addr} {m : Str → Option Value} {ns : List Str} {name : Str} {tk : Tok} {v : Value} {Q : Fin → Shared → Prop} (hn : s.heap.Ns1 d m) (hw : Within m ns) (hz : ns.length ≤ 100)
    (h : ∀ h' t', h'.Ns1 d (upd m name v) → Heap.SameBut d s.heap h' → Q (.done (.ret .none)) { s with heap := h', toks := t' }) : wpAny (model Y.prog Y.w) A (storeInDict d (.str name tk) name v) Q E s := by
  obtain ⟨hp, g, dr, t, os⟩ := s
  unfold storeInDict newKeyGuard
  refine wpAny_bind (wpAny_pure (wpAny_bind (wpAny_nsSet1 hn fun h' hn' hs => ?_)))
  obtain ⟨oD, esD, epD, hoD, hdD, hcD⟩ := hn'.count (Within.cons name v hw)
  refine wpAny_bind (wpAny_lookBehind hoD (by rw [hdD]; exact pastItsLine_dict (Nat.le_trans hcD (by rw [List.length_cons, sizeLine_eq]; omega))) ?_)
  exact wpAny_pure (h _ _ hn' hs)

theorem fn_set0 {A : Around} {s : Shared} {a : Addr} {o : Obj} {fd : FuncData} {name : Str} {v : Value} {Q : Unit → Shared → Prop} (ho : s.heap.get? a = some o) (hc : o.cls = .type "function") (hdat : o.data = .func fd) (hd : o.dict = none)
    (hmiss : typeLookup (.type "function") name = pure none)
    (hq : ∀ h' tk dd, s.heap.get? dd = none → h'.get? a = some { o with dict := some dd } → h'.Ns1 dd (upd (fun _ => none) name v) → (∀ b o', b ≠ a → s.heap.get? b = some o' → h'.get? b = some o') → Q () { s with heap := h', toks := tk }) : Tr Y A (setAttr (.ref a) name v) s Q := by
  obtain ⟨c, dct, dat, sl⟩ := o
  simp only at hc hdat hd
  subst hc hdat hd
  obtain ⟨hp, g, d, tk, os⟩ := s
  have hT : ∀ tk', (⟨hp, g, d, tk', os⟩ : Shared).TypeIs (.ref a) "function" := fun _ => ⟨_, ho, rfl⟩
  have f3 := slot_fn_sa.lookup
  have f4 := slot_fn_sa.bind (.ref a)
  have f5 := mro_function
  have hpass := fn_passes (.ref a)
  unfold setAttr callSpecial? specialOf
  repeat (any_goals (first | assumption | exact hT _ | wp_step))
  refine codeAny_call_builtin slot_fn_sa.plain PySem.F.entry_object_sa (slot_fn_sa.check _ _ _ _ _ _ _ _ (hT _) (PySem.F.store_object.args _ _ _) ?_)
  show wpAny _ _ (Builtin.«object.__setattr__» ⟨[.ref a, .str name tk, v], []⟩) _ _ _
  rw [W.osa_eq, refuse_eq]
  have h1 : ∀ A' E' Q' , wpAny (model Y.prog Y.w) A' (storeInOwnDict (.ref a) (.type "function") (.str name tk) name v false) Q' E' ⟨hp, g, d, tk + 1, os⟩ →
      wpAny (model Y.prog Y.w) A' ((typeOf (.ref a) >>= fun tp => mroOf tp >>= fun l => refuseLoop (.ref a) "__setattr__" l) >>= fun _ => typeOf (.ref a) >>= fun tp => typeLookup tp name >>= fun attr => storeTaker? attr >>= fun r =>
        match r with | some a' => setByDescriptor a' (.ref a) v | none => storeInOwnDict (.ref a) tp (.str name tk) name v attr.isSome) Q' E' ⟨hp, g, d, tk + 1, os⟩ := by
    intro A' E' Q' hh
    refine wpAny_bind (wpAny_bind (wpAny_typeOf (hT _) (wpAny_bind ?_)))
    rw [f5]
    refine wpAny_pure ?_
    rw [hpass]
    refine wpAny_pure (wpAny_bind (wpAny_typeOf (hT _) (wpAny_bind ?_)))
    rw [hmiss]
    exact wpAny_pure (wpAny_bind (wpAny_pure hh))
  refine h1 _ _ _ ?_
  have f6 := fn_hasDict
  have f7 := fn_fin
  have hne : a ≠ hp.objs.size := Nat.ne_of_lt (Heap.lt_size ho)
  have hx₁ : (hp.push { cls := .type "dict", data := .dict #[] }).get? a = some { cls := .type "function", data := .func fd, slots := sl } := Heap.get?_push_of_some _ ho
  have hnd : ((hp.push { cls := .type "dict", data := .dict #[] }).update a fun o => { cls := o.cls, dict := some hp.objs.size, data := o.data, slots := o.slots }).Ns1 hp.objs.size (fun _ => none) :=
    Heap.Ns1.of_empty ⟨_, #[], _, (Heap.get?_update_ne _ _ _ _ hne.symm).trans (Heap.get?_push_at rfl rfl), rfl, fun e he => absurd he (by simp), fun _ => rfl⟩
  have hid : ∀ A' (Q' : Option Addr → Shared → Prop) (E' : Value → Shared → Prop), Q' (some hp.objs.size) ⟨(hp.push { cls := .type "dict", data := .dict #[] }).update a fun o => { cls := o.cls, dict := some hp.objs.size, data := o.data, slots := o.slots }, g, d, tk + 1, os⟩ →
      wpAny (model Y.prog Y.w) A' (instanceDict a true) Q' E' ⟨hp, g, d, tk + 1, os⟩ := by
    intro A' Q' E' hh
    unfold instanceDict
    repeat (any_goals (first | assumption | exact hT _ | wp_step))
  have e1 : ownStreamTells (.ref a) (.type "function") = pure () := rfl
  unfold storeInOwnDict
  rw [e1]
  refine wpAny_bind (wpAny_pure ?_)
  have e2 : (Value.type "function" == Value.type "module") = false := by decide +kernel
  simp only [e2, Bool.false_eq_true, if_false]
  refine wpAny_bind (hid _ _ _ ?_)
  refine store_in (ns := []) hnd (fun _ h => absurd rfl h) (Nat.zero_le _) fun h' t' hn' hs' => ?_
  refine wpAny_pure (wpAny_pure ?_)
  refine hq h' t' hp.objs.size (size_none _) ((hs'.2 a hne).trans (Heap.get?_update_self _ hx₁ rfl)) hn' fun b o' hb e => ?_
  exact (hs'.2 b (fun h => by rw [h] at e; rw [size_none] at e; cases e)).trans ((Heap.get?_update_ne _ _ _ _ hb).trans (Heap.get?_push_of_some _ e))

theorem fn_set1 {A : Around} {s : Shared} {a dd : Addr} {m : Str → Option Value} {ns : List Str} {o : Obj} {fd : FuncData} {name : Str} {v : Value} {Q : Unit → Shared → Prop} (ho : s.heap.get? a = some o) (hc : o.cls = .type "function") (hdat : o.data = .func fd) (hd : o.dict = some dd) (hn : s.heap.Ns1 dd m) (hw : Within m ns) (hz : ns.length ≤ 100)
    (hmiss : typeLookup (.type "function") name = pure none)
    (hq : ∀ h' tk, h'.Ns1 dd (upd m name v) → (∀ b o', b ≠ dd → s.heap.get? b = some o' → h'.get? b = some o') → Q () { s with heap := h', toks := tk }) : Tr Y A (setAttr (.ref a) name v) s Q := by
  obtain ⟨c, dct, dat, sl⟩ := o
  simp only at hc hdat hd
  subst hc hdat hd
  obtain ⟨hp, g, d, tk, os⟩ := s
  have hT : ∀ tk', (⟨hp, g, d, tk', os⟩ : Shared).TypeIs (.ref a) "function" := fun _ => ⟨_, ho, rfl⟩
  have f3 := slot_fn_sa.lookup
  have f4 := slot_fn_sa.bind (.ref a)
  have f5 := mro_function
  have hpass := fn_passes (.ref a)
  unfold setAttr callSpecial? specialOf
  repeat (any_goals (first | assumption | exact hT _ | wp_step))
  refine codeAny_call_builtin slot_fn_sa.plain PySem.F.entry_object_sa (slot_fn_sa.check _ _ _ _ _ _ _ _ (hT _) (PySem.F.store_object.args _ _ _) ?_)
  show wpAny _ _ (Builtin.«object.__setattr__» ⟨[.ref a, .str name tk, v], []⟩) _ _ _
  rw [W.osa_eq, refuse_eq]
  have h1 : ∀ A' E' Q' , wpAny (model Y.prog Y.w) A' (storeInOwnDict (.ref a) (.type "function") (.str name tk) name v false) Q' E' ⟨hp, g, d, tk + 1, os⟩ →
      wpAny (model Y.prog Y.w) A' ((typeOf (.ref a) >>= fun tp => mroOf tp >>= fun l => refuseLoop (.ref a) "__setattr__" l) >>= fun _ => typeOf (.ref a) >>= fun tp => typeLookup tp name >>= fun attr => storeTaker? attr >>= fun r =>
        match r with | some a' => setByDescriptor a' (.ref a) v | none => storeInOwnDict (.ref a) tp (.str name tk) name v attr.isSome) Q' E' ⟨hp, g, d, tk + 1, os⟩ := by
    intro A' E' Q' hh
    refine wpAny_bind (wpAny_bind (wpAny_typeOf (hT _) (wpAny_bind ?_)))
    rw [f5]
    refine wpAny_pure ?_
    rw [hpass]
    refine wpAny_pure (wpAny_bind (wpAny_typeOf (hT _) (wpAny_bind ?_)))
    rw [hmiss]
    exact wpAny_pure (wpAny_bind (wpAny_pure hh))
  refine h1 _ _ _ ?_
  have hid : ∀ A' (Q' : Option Addr → Shared → Prop) (E' : Value → Shared → Prop), Q' (some dd) ⟨hp, g, d, tk + 1, os⟩ →
      wpAny (model Y.prog Y.w) A' (instanceDict a true) Q' E' ⟨hp, g, d, tk + 1, os⟩ := by
    intro A' Q' E' hh
    unfold instanceDict
    repeat (any_goals (first | assumption | exact hT _ | wp_step))
  have e1 : ownStreamTells (.ref a) (.type "function") = pure () := rfl
  unfold storeInOwnDict
  rw [e1]
  refine wpAny_bind (wpAny_pure ?_)
  have e2 : (Value.type "function" == Value.type "module") = false := by decide +kernel
  simp only [e2, Bool.false_eq_true, if_false]
  refine wpAny_bind (hid _ _ _ ?_)
  refine store_in (ns := ns) hn hw hz fun h' t' hn' hs' => ?_
  refine wpAny_pure (wpAny_pure ?_)
  exact hq h' t' hn' fun b o' hb e => (hs'.2 b hb).trans e

end Mine
end

section
open PySem
namespace Mine
variable {Y : Law} {n : Nat} {nm : Nm} {σ : Sto}

theorem triples_add {x y z : Value} {i j : Int} {t u : Tok} (hx : x = .int i t) (hy : y = .int j u) : ∀ l : List Value, TriplesOk l → TriplesOk (l ++ [x, y, z])
  | [], _ => by subst hx hy; trivial
  | .int _ _ :: .int _ _ :: _ :: r, h => by
    show TriplesOk (r ++ _)
    exact triples_add hx hy r h
theorem among_add {p : Pos} {x y z cv : Value} {i j : Int} {t u : Tok} (hx : x = .int i t) (hy : y = .int j u) : ∀ l : List Value, TriplesOk l → codeAmong p (l ++ [x, y, z]) = some cv → codeAmong p l = some cv ∨ (i = p.line ∧ j = p.col ∧ cv = z)
  | [], _, h => by
    subst hx hy
    simp only [List.nil_append, codeAmong] at h
    split at h
    · rename_i hc
      simp only [Bool.and_eq_true, beq_iff_eq] at hc
      cases h
      exact .inr ⟨hc.1, hc.2, rfl⟩
    · cases h
  | .int a _ :: .int b _ :: c :: r, ok, h => by
    simp only [List.cons_append, codeAmong] at h ⊢
    split at h
    · rename_i hc
      rw [if_pos hc]; exact .inl h
    · rename_i hc
      rw [if_neg hc]
      exact among_add hx hy r ok h

theorem lam_make {A : Around} {env : Env} {k g : Gh} {s : Shared} {params : Arguments} {body : Expr} {scope : Scope} {pos : Pos} {cls : List (Str × Addr)} {Q : Value → Shared → Prop} (hE : EnvOk nm env) (F : Frm Y env k g σ s.heap) (hcode : env.code = .ref Y.code)
    (hdef : defaultsOf params env = ([], [])) (hcl : closureFor scope env = pure cls) (hq : ∀ q ∈ Y.lams, q.1.line = pos.line → q.1.col = pos.col → q.2 = env.qual ++ "<lambda>") (hm : (pos, env.qual ++ "<lambda>") ∈ Y.lams)
    (h : ∀ f cv ctv s', Kp Y s s' → s.heap.get? f = none → s'.heap.get? f = some { cls := .type "function", data := .func (W.kla_fn "<lambda>" (env.qual ++ "<lambda>") params body scope cls ((Y.mg "__name__").getD .none) cv ctv) } →
      s'.heap.CodeRec cv (env.qual ++ "<lambda>") → (∀ cc, cv = .ref cc → cc ≠ Y.tab) → Q (.ref f) s') : Tr Y A (eval (.Lambda params body scope pos) env) s Q := by
  refine W.kla_eval hdef ?_
  obtain ⟨ps, et, ht, hr⟩ := F.top.2
  obtain ⟨C, hg, hb⟩ := Y.codeOk _ F.rawTop
  have hgP : mainGlobals ≠ Y.tab := fun e => by
    obtain ⟨o, es, ep, e', d, _⟩ := hg
    rw [e, et] at e'; cases e'; cases d
  have rec_ne : ∀ (hh : Heap) c q, hh.get? Y.tab = some (W.tabObj ps) → hh.CodeRec (.ref c) q → c ≠ Y.tab := fun hh c q e ⟨c', o, vs, t, ec, e', d, hv⟩ hc => by
    cases ec
    rw [hc, e] at e'; cases e'; cases d
    have ht' := ht
    rw [← Array.getElem?_toList] at hv
    cases hl : ps.toList with
    | nil => rw [hl] at hv; cases hv
    | cons x r =>
      cases r with
      | nil => rw [hl] at hv; cases hv
      | cons y r =>
        rw [hl] at hv ht'
        simp only [List.getElem?_cons_succ, List.getElem?_cons_zero, Option.some.injEq] at hv
        subst hv
        cases x <;> simp only [TriplesOk] at ht'
  cases hf : codeAmong pos ps.toList with
  | some cv =>
    have hcr := hr _ hm cv hf
    refine W.kla_makeFunctionHit (mg := Y.mg) hcl hE.glob hg hcode C et ht hf hb fun ctv h' tk hk hsz => ?_
    have hle : Le s.heap.get? (h'.push { cls := .type "function", data := .func (W.kla_fn "<lambda>" (env.qual ++ "<lambda>") params body scope cls ((Y.mg "__name__").getD .none) cv ctv) }).get? := fun b o e => Heap.get?_push_of_some _ (hk b o e)
    refine h _ cv ctv _ (keeps_same hle) ?_ (Heap.get?_push_size _ rfl) (rec_keep (.of hle) hcr) fun cc hc => ?_
    · cases e : s.heap.get? h'.objs.size with
      | none => rfl
      | some o => have := hk _ _ e; rw [size_none] at this; cases this
    · subst hc; exact rec_ne _ _ _ et hcr
  | none =>
    refine W.kla_makeFunction (mg := Y.mg) hcl hE.glob hg hcode C et ht hf hgP hb fun c' ctv h' tk hx hge hlt hrec htb => ?_
    have hcne : c' ≠ Y.tab := fun e => by
      have : Y.tab < s.heap.objs.size := Heap.lt_size et
      rw [← e] at this
      exact absurd this (Nat.not_lt.mpr hge)
    generalize hO : ({ cls := .type "function", data := .func (W.kla_fn "<lambda>" (env.qual ++ "<lambda>") params body scope cls ((Y.mg "__name__").getD .none) (.ref c') ctv) } : Obj) = O
    have hle : Le h'.get? (h'.push O).get? := le_push _ _
    have K : Kp Y s { s with heap := h'.push O, toks := tk } := by
      refine ⟨_, tk, rfl, Le.trans (fun b o e => ?_) (see_le hle), fun _ => Y.tabKeep _ _ (.of hle) ?_⟩
      · by_cases hb : b = Y.tab
        · subst hb
          rw [see_tab, et] at e
          rw [see_tab, htb]
          exact e
        · rw [see_ne hb] at e ⊢; exact hx _ _ hb e
      · refine ⟨_, htb, ?_, fun q hq' cv hcv => ?_⟩
        · rw [Array.toList_append]
          exact triples_add rfl rfl _ ht
        · rw [Array.toList_append] at hcv
          rcases among_add (x := rawInt pos.line) (y := rawInt pos.col) rfl rfl _ ht hcv with hold | ⟨hl, hc, rfl⟩
          · obtain ⟨cc, o, vs, t, rfl, e, d, r⟩ := hr q hq' cv hold
            exact ⟨cc, o, vs, t, rfl, hx _ _ (rec_ne _ _ _ et ⟨cc, o, vs, t, rfl, e, d, r⟩) e, d, r⟩
          · rw [hq q hq' (by omega) (by omega)]; exact hrec
    subst hO
    refine h _ (.ref c') ctv _ K ?_ (Heap.get?_push_size _ rfl) (rec_keep (.of hle) hrec) fun cc hc => by cases hc; exact hcne
    have hsz : s.heap.objs.size ≤ h'.objs.size := Nat.le_of_lt (Nat.lt_of_le_of_lt hge hlt)
    exact get_above hsz

end Mine
end

section
open PySem
namespace Mine
variable {Y : Law} {n : Nat} {nm : Nm} {σ : Sto}

noncomputable def sRule : Str := Str.ofString "rule"
noncomputable def sVerdict : Str := Str.ofString "verdict"
noncomputable def sApp : Str := Str.ofString "applies_to"
noncomputable def sAllow : Str := Str.ofString "allowance"

inductive RuleBody (L : LamC) (lp0 lp1 : Pos) (ps0 : Arguments) (b0 : Expr) (sc0 : Scope) : List Stmt → Prop
  | mk {p1 p3 q1 q2 q3 r1 r2 r3 r4 t1 t2 : Pos} : RuleBody L lp0 lp1 ps0 b0 sc0 [
      .Assign [.Name sRule p1] (.Lambda ps0 b0 sc0 lp0) p3,
      .Assign [.Attribute (.Name sRule q1) sApp q2] (.Lambda L.params L.body L.scope lp1) q3,
      .Assign [.Attribute (.Name sRule r1) sAllow r2] (.Name sVerdict r3) r4,
      .Return (some (.Name sRule t1)) t2]

structure RuleFnOk (Y : Law) (fd : FuncData) (lp0 lp1 : Pos) (ps0 : Arguments) (b0 : Expr) (sc0 : Scope) (body : List Stmt) : Prop where
  ok : FnOk fd [Y.lam.var, sVerdict] body
  body : RuleBody Y.lam lp0 lp1 ps0 b0 sc0 body
  code : fd.code = .ref Y.code
  clo : fd.closure = []
  names : fd.scope.names = [(Y.lam.var, .cell), (sVerdict, .local), (sRule, .local)]
  rcd : ∀ h : Heap, Le Y.top h.get? → h.CodeRec fd.code fd.qualname
  free0 : sc0.names = []
  def0 : ∀ env, defaultsOf ps0 env = ([], [])
  def1 : ∀ env, defaultsOf Y.lam.params env = ([], [])
  free1 : Y.lam.scope.names.filter (·.2 == .free) = [(Y.lam.var, .free)]
  lams : Y.lams = [(lp0, (fd.qualname ++ ".<locals>.") ++ "<lambda>"), (lp1, (fd.qualname ++ ".<locals>.") ++ "<lambda>")]
  vne : (Y.lam.var == sVerdict) = false ∧ (Y.lam.var == sRule) = false

theorem func_foreign {env : Env} {k g : Gh} {h : Heap} {a : Addr} {o : Obj} {fd : FuncData} (F : Frm Y env k g σ h) (e : h.get? a = some o) (hd : o.data = .func fd) (hL : a ≠ env.locals) : Foreign env h a := by
  refine ⟨hL, fun v ⟨o', e', d⟩ => ?_, fun its ⟨i, e'⟩ => ?_, fun o' e' hf => ?_⟩
  · rw [e] at e'; cases e'; rw [hd] at d; cases d
  · rw [e] at e'; cases e'; cases hd
  · rw [e] at e'; cases e'
    obtain ⟨⟨vs, hf⟩, _⟩ := hf
    rw [hd] at hf; cases hf
theorem ns_foreign {env : Env} {h : Heap} {a : Addr} {m : Str → Option Value} (x : h.Ns1 a m) (hL : a ≠ env.locals) : Foreign env h a := by
  obtain ⟨o, es, ep, e, hd, _⟩ := x
  refine ⟨hL, fun v ⟨o', e', d⟩ => ?_, fun its ⟨i, e'⟩ => ?_, fun o' e' hf => ?_⟩
  · rw [e] at e'; cases e'; rw [hd] at d; cases d
  · rw [e] at e'; cases e'; cases hd
  · rw [e] at e'; cases e'
    obtain ⟨⟨vs, hf⟩, _⟩ := hf
    rw [hd] at hf; cases hf
theorem func_notMy {env : Env} {k g : Gh} {h : Heap} {a : Addr} {o : Obj} {fd : FuncData} (hE : EnvOk nm env) (F : Frm Y env k g σ h) (e : h.get? a = some o) (hd : o.data = .func fd) : ¬ MyAddr nm env a := by
  rintro (rfl | ⟨y, hy, hc⟩)
  · obtain ⟨m, o', es, ep, e', d, _⟩ := F.ns
    rw [e] at e'; cases e'; rw [hd] at d; cases d
  · obtain ⟨⟨w, o', e', d⟩, _⟩ := F.cells y a (cell_kind hE hy) hc
    rw [e] at e'; cases e'; rw [hd] at d; cases d

theorem call_rule {a : Addr} {o : Obj} {fd : FuncData} {lp0 lp1 : Pos} {ps0 : Arguments} {b0 : Expr} {sc0 : Scope} {body : List Stmt} {x : Str} {vd : D} (ho : Y.top a = some o) (hd : o.data = .func fd) (R : RuleFnOk Y fd lp0 lp1 ps0 b0 sc0 body) :
    CallD Y (n + 1) (.ref a) [.str x, vd] (.rule x vd) := by
  intro A g s vs hA top leg r
  have hfree : ∀ y, (y, NameKind.free) ∉ fd.scope.names := fun y hy => by rw [R.names] at hy; simp at hy
  refine call_fnR hA top leg (top.raw leg _ _ ho) hd R.ok (R.rcd _ (top.raw leg)) (CloOk.none R.clo hfree) r rfl ?_
  intro A' s₀ hA' hE F
  generalize henv : fnEnvAt fd a s.heap.objs.size = env at hE F ⊢
  have hcode : env.code = .ref Y.code := by rw [← henv]; exact R.code
  have hqual : env.qual = fd.qualname ++ ".<locals>." := by rw [← henv]; rfl
  have hlams := R.lams
  rw [← hqual] at hlams
  have hq : ∀ p, ∀ q ∈ Y.lams, q.1.line = p → True := fun _ _ _ _ => trivial
  have hqa : ∀ q ∈ Y.lams, q.2 = env.qual ++ "<lambda>" := fun q hq => by
    rw [hlams] at hq
    rcases List.mem_cons.mp hq with rfl | hq
    · rfl
    · rw [List.mem_singleton.mp hq]
  have nrule : fd.scope.names.lookup sRule = some .local := by
    rw [R.names]
    have h2 := R.vne.2
    have : (sRule == Y.lam.var) = false := by rw [BEq.comm]; exact h2
    simp [List.lookup_cons, this, show (sRule == sVerdict) = false from by decide]
  have nvar : fd.scope.names.lookup Y.lam.var = some .cell := by rw [R.names]; simp [List.lookup_cons]
  -- the frame's store
  have hvar0 : (pushes ([Y.lam.var, sVerdict].zip [D.str x, vd]) []).lookup Y.lam.var = some (.val (.str x)) := by
    show List.lookup Y.lam.var [(sVerdict, Sl.val vd), (Y.lam.var, Sl.val (.str x))] = _
    simp [List.lookup_cons, R.vne.1]
  have hver0 : (pushes ([Y.lam.var, sVerdict].zip [D.str x, vd]) []).lookup sVerdict = some (.val vd) := by
    show List.lookup sVerdict [(sVerdict, Sl.val vd), (Y.lam.var, Sl.val (.str x))] = _
    simp [List.lookup_cons]
  generalize hσ : pushes ([Y.lam.var, sVerdict].zip [D.str x, vd]) [] = σ₀ at F hvar0 hver0
  have kn : ∀ b, s₀.heap.get? b = none → Y.see s.heap b = none ∧ g b = none ∧ b ≠ env.locals := fun b hb => by
    refine ⟨?_, ?_, fun e => ?_⟩
    · cases e : Y.see s.heap b with
      | none => rfl
      | some o => obtain ⟨o', e'⟩ := see_live (F.lek _ _ e); rw [hb] at e'; cases e'
    · cases e : g b with
      | none => rfl
      | some o => obtain ⟨o', e'⟩ := see_live (F.leg _ _ e); rw [hb] at e'; cases e'
    · obtain ⟨m, o', _, _, e', _⟩ := F.ns
      rw [e, e'] at hb; cases hb
  have hb := R.body
  cases hb
  -- rule = lambda: None
  refine wpAny_execs_cons (wpAny_Assign_Name (lam_make hE F hcode (R.def0 env) (cls := []) (by
    rw [closureFor_eq (by intro y hy; rw [R.free0] at hy; simp at hy), R.free0]; rfl) (fun q hq _ _ => hqa q hq) (by rw [hlams]; simp) fun f cv ctv s₁ K₁ hf ef hrec hcv => ?_) rfl)
  have F₁ : Frm Y env (Y.see s.heap) g σ₀ s₁.heap := F.freshK K₁ Le.rfl (F.leg.trans (keeps_le K₁)) fun _ _ _ _ => rfl
  have nmf := func_notMy hE F₁ ef rfl
  refine store_okV hE F₁ (.inl nrule) (sl := .val (.raw (.ref f))) (by show Rep Y g (.raw (.ref f)) (.ref f); simp [Rep]) (by intro _ _ _ _ h; cases h) fun s₂ hs₂ hk₂ F₂ _ _ => ?_
  have ef₂ := (hk₂ f nmf).trans ef
  have hrule : ((sRule, Sl.val (.raw (.ref f))) :: σ₀ : Sto).lookup sRule = some (.val (.raw (.ref f))) := by simp [List.lookup_cons]
  have hver : ((sRule, Sl.val (.raw (.ref f))) :: σ₀ : Sto).lookup sVerdict = some (.val vd) := by
    rw [List.lookup_cons, show (sVerdict == sRule) = false from by decide]; exact hver0
  have hvar : ((sRule, Sl.val (.raw (.ref f))) :: σ₀ : Sto).lookup Y.lam.var = some (.val (.str x)) := by
    rw [List.lookup_cons, R.vne.2]; exact hvar0
  generalize hσ₁ : ((sRule, Sl.val (.raw (.ref f))) :: σ₀ : Sto) = σ₁ at F₂ hrule hver hvar
  -- the cell of what is asked for
  obtain ⟨c, hc⟩ := hE.clook Y.lam.var (.inl (cell_kind hE nvar))
  obtain ⟨_, kc, gc⟩ := F.cells _ c (cell_kind hE nvar) hc
  -- rule.applies_to = lambda ..
  have hcl : closureFor Y.lam.scope env = pure [(Y.lam.var, c)] := by
    rw [closureFor_eq (fun y hy => ?_)]
    · unfold clos
      rw [R.free1]
      simp [hc]
    · have : (y, NameKind.free) ∈ Y.lam.scope.names.filter (·.2 == .free) := by simp [hy]
      rw [R.free1] at this
      simp at this
      rw [this]; exact ⟨c, hc⟩
  refine wpAny_execs_cons (plainObj_wpAny_Assign_Attribute (lam_make hE F₂ hcode (R.def1 env) hcl (fun q hq _ _ => hqa q hq) (by rw [hlams]; simp) fun f1 cv1 ctv1 s₃ K₃ hf1 ef1 hrec1 hcv1 => ?_) rfl)
  have F₃ : Frm Y env (Y.see s.heap) g σ₁ s₃.heap := F₂.freshK K₃ Le.rfl (F₂.leg.trans (keeps_le K₃)) fun _ _ _ _ => rfl
  have ef₃ := keeps_raw K₃ ef₂ (.ne nofun)
  have hff : f1 ≠ f := fun e => by rw [e, ef₂] at hf1; cases hf1
  have hf1L : f1 ≠ env.locals := fun e => by
    obtain ⟨m, o', _, _, e', _⟩ := F₂.ns
    rw [e, e'] at hf1; cases hf1
  have kn1 : Y.see s.heap f1 = none ∧ g f1 = none := by
    constructor
    · cases e : Y.see s.heap f1 with
      | none => rfl
      | some o => obtain ⟨o', e'⟩ := see_live (F₂.lek _ _ e); rw [hf1] at e'; cases e'
    · cases e : g f1 with
      | none => rfl
      | some o => obtain ⟨o', e'⟩ := see_live (F₂.leg _ _ e); rw [hf1] at e'; cases e'
  have knf := kn f hf
  refine wpAny_Name (load_ok hE.kind (raw_var F₃ hrule) ?_ (by decide)) (by decide)
  refine fn_set0 ef₃ rfl rfl rfl fn_no_app fun h₄ tk₄ dd hdd ef₄ ns₄ hk₄ => ?_
  have F₄ : Frm Y env (Y.see s.heap) g σ₁ h₄ := F₃.alter (wr := [f]) (fun b o hb e => hk₄ b o (by simpa using hb) e) (fun b hb => by
    rw [List.mem_singleton.mp hb]; exact ⟨knf.1, knf.2.1, func_foreign F₃ ef₃ rfl knf.2.2⟩) Le.rfl (fun b o e => see_same (fun o' e' => hk₄ b o' (fun h => by rw [h, knf.2.1] at e; cases e) e') (F₃.leg _ _ e)) fun _ _ _ _ h => h
  have knd : Y.see s.heap dd = none ∧ g dd = none ∧ dd ≠ env.locals := by
    refine ⟨?_, ?_, fun e => ?_⟩
    · cases e : Y.see s.heap dd with
      | none => rfl
      | some o => obtain ⟨o', e'⟩ := see_live (F₃.lek _ _ e); rw [hdd] at e'; cases e'
    · cases e : g dd with
      | none => rfl
      | some o => obtain ⟨o', e'⟩ := see_live (F₃.leg _ _ e); rw [hdd] at e'; cases e'
    · obtain ⟨m, o', _, _, e', _⟩ := F₃.ns
      rw [e, e'] at hdd; cases hdd
  have hdf : f ≠ dd := fun e => by rw [← e, ef₃] at hdd; cases hdd
  have hdf1 : f1 ≠ dd := fun e => by rw [← e, ef1] at hdd; cases hdd
  -- rule.allowance = verdict
  refine wpAny_execs_cons (plainObj_wpAny_Assign_Attribute ?_ rfl)
  obtain ⟨vv, Vv, rv⟩ := F₄.vars _ _ hver
  refine wpAny_Name (load_ok hE.kind Vv ?_ (by decide)) (by decide)
  refine wpAny_Name (load_ok hE.kind (raw_var (Y := Y) (k := Y.see s.heap) (g := g) F₄ hrule) ?_ (by decide)) (by decide)
  refine fn_set1 (ns := [sApp]) ef₄ rfl rfl rfl ns₄ (fun y hy => ?_) (by decide) fn_no_allow fun h₅ tk₅ ns₅ hk₅ => ?_
  · unfold upd at hy
    by_cases e : y = sApp
    · simp [e]
    · rw [if_neg e] at hy; exact absurd rfl hy
  have F₅ : Frm Y env (Y.see s.heap) g σ₁ h₅ := F₄.alter (wr := [dd]) (fun b o hb e => hk₅ b o (by simpa using hb) e) (fun b hb => by
    rw [List.mem_singleton.mp hb]; exact ⟨knd.1, knd.2.1, ns_foreign ns₄ knd.2.2⟩) Le.rfl (fun b o e => see_same (fun o' e' => hk₅ b o' (fun h => by rw [h, knd.2.1] at e; cases e) e') (F₄.leg _ _ e)) fun _ _ _ _ h => h
  -- return rule
  obtain ⟨cc, co, vcs, tq, rfl, eco, dco, hqc⟩ := hrec1
  have eco₅ : h₅.get? cc = some co := hk₅ cc co (fun e => by
      obtain ⟨o', es, ep, e', d, _⟩ := ns₄
      rw [← e, hk₄ cc co (fun e2 => by rw [e2, ef₃] at eco; cases eco; cases dco) eco] at e'; cases e'; rw [dco] at d; cases d) (hk₄ cc co (fun e2 => by rw [e2, ef₃] at eco; cases eco; cases dco) eco)
  have hccT : cc ≠ Y.tab := hcv1 cc rfl
  have ef₅ := hk₅ f _ hdf ef₄
  have ef1₅ := hk₅ f1 _ hdf1 (hk₄ f1 _ hff ef1)
  obtain ⟨xv, Vx, rx⟩ := F₅.vars _ _ hvar
  have rx : Rep Y g (.str x) xv := rx
  simp only [Rep] at rx
  obtain ⟨tx, rfl⟩ := rx
  have hcell : h₅.IsCell c (some (.str x tx)) := by
    rcases Vx with ⟨a', _⟩ | ⟨_, c', b', d'⟩
    · rw [cell_kind hE nvar] at a'; cases a'
    · rw [hc] at b'; cases b'; exact d'
  obtain ⟨oc, eoc, doc⟩ := hcell
  obtain ⟨od, es, ep, eod, dod, kod, _, fod⟩ := ns₅
  refine wpAny_execs_cons (wpAny_Return_some (wpAny_Name (load_ok hE.kind (raw_var (Y := Y) (k := Y.see s.heap) (g := g) F₅ hrule) ?_ (by decide)) (by decide)))
  have hG : ∀ b, Y.see h₅ b = (if b = f ∨ b = dd ∨ b = f1 ∨ b = c ∨ b = cc then Y.see h₅ b else Y.see h₅ b) := fun b => by split <;> rfl
  refine ⟨(keeps_sht K₁).trans (hs₂.trans ((keeps_sht K₃).trans ⟨h₅, tk₅, rfl⟩)), fun b => if b = f ∨ b = dd ∨ b = f1 ∨ b = c ∨ b = cc then Y.see h₅ b else g b, ?_, ?_, ⟨?_, F₅.top.2⟩, F₅.lek, ?_, .ref f, rfl, ?_⟩
  · intro b o e
    simp only
    split
    · exact F₅.leg _ _ e
    · exact e
  · intro b o e hh gb
    simp only
    rw [if_neg]
    · exact gb
    · rintro (rfl | rfl | rfl | rfl | rfl)
      · rw [knf.1] at e; cases e
      · rw [knd.1] at e; cases e
      · rw [kn1.1] at e; cases e
      · rw [kc] at e; cases e
      · have e2 := F₅.lek _ _ e
        rw [see_ne hccT, eco₅] at e2; cases e2
        exact hh ⟨⟨vcs, _, tq, dco, hqc⟩, hccT⟩
  · intro b o e
    simp only
    split
    · exact F₅.leg _ _ (F₅.top.1 _ _ e)
    · exact F₅.top.1 _ _ e
  · intro b o e
    simp only at e
    split at e
    · exact e
    · exact F₅.leg _ _ e
  · have hin : ∀ b o, (b = f ∨ b = dd ∨ b = f1 ∨ b = c ∨ b = cc) → Y.see h₅ b = some o → (fun b => if b = f ∨ b = dd ∨ b = f1 ∨ b = c ∨ b = cc then Y.see h₅ b else g b) b = some o := fun b o hb e => by
      simp only; rw [if_pos hb]; exact e
    have hgle : Le g (fun b => if b = f ∨ b = dd ∨ b = f1 ∨ b = c ∨ b = cc then Y.see h₅ b else g b) := fun b o e => by
      simp only
      split
      · exact F₅.leg _ _ e
      · exact e
    simp only [Rep]
    refine ⟨f, vv, rfl, ⟨_, od, _, oc, co, _, _, dd, f1, c, cc, _, es, ep, vcs, tx, tq, {
      ga := hin f _ (by simp) (see_of ef₅ (.ne nofun)), oc0 := rfl, od0 := rfl, odd := rfl, gd := hin dd _ (by simp) (see_of eod (.dict dod)), dd0 := dod, keys := kod, finds := fod,
      app := rfl, allow := rfl, gb := hin f1 _ (by simp) (see_of ef1₅ (.ne nofun)), obc := rfl, obd := rfl, par := rfl, body := rfl, scope := rfl, glob := rfl, blt := rfl, clo := rfl, dfl := rfl, kdf := rfl,
      gc := hin c _ (by simp) (see_of eoc (.cell doc)), cell := doc, code := rfl, gcc := hin cc _ (by simp) (by rw [see_ne hccT]; exact eco₅), cod := dco, qual := hqc }⟩, Rep.mono hgle _ _ rv⟩

end Mine
end

section
open PySem
namespace Mine
variable {Y : Law} {n : Nat} {nm : Nm} {σ : Sto}

noncomputable def NoRaw : D → Prop
  | .raw _ => False
  | _ => True
theorem handed {g : Gh} {d : D} {v : Value} (h : NoRaw d) (r : Rep Y g d v) : handedOut v = pure v := by
  cases d with
  | none => simp only [Rep] at r; subst r; rfl
  | bool b => simp only [Rep] at r; subst r; rfl
  | int i => simp only [Rep] at r; obtain ⟨t, rfl⟩ := r; rfl
  | str x => simp only [Rep] at r; obtain ⟨t, rfl⟩ := r; rfl
  | list xs => simp only [Rep] at r; obtain ⟨a, its, rfl, _⟩ := r; rfl
  | tup xs => simp only [Rep] at r; obtain ⟨a, its, rfl, _⟩ := r; rfl
  | ent a b c e => simp only [Rep] at r; obtain ⟨a, m, rfl, _⟩ := r; rfl
  | rule x vd => simp only [Rep] at r; obtain ⟨a, m, rfl, _⟩ := r; rfl
  | dict ks vs => simp only [Rep] at r; obtain ⟨a, m, _, rfl, _⟩ := r; rfl
  | raw u => exact h.elim

theorem eval_attr {A : Around} {env : Env} {s : Shared} {o : Expr} {name : Str} {p : Pos} {Q : Value → Shared → Prop} (hbase : attributeBase o name env (eval o env) = eval o env)
    (h : Tr Y A (eval o env) s (fun ov s₁ => Tr Y A (getAttr ov name true) s₁ Q)) : Tr Y A (eval (.Attribute o name p) env) s Q := by
  rw [arm_eval_Attribute, hbase]
  exact wpAny_bind (h.mono fun ov s₁ h₁ => wpAny_bind (wpAny_standAt (wpAny_bind (wpAny_holding (h₁.mono fun r s₂ h₂ => wpAny_bind (wpAny_letTemporaryGo (wpAny_pure h₂)))))))

theorem eval_methcall {A : Around} {env : Env} {s : Shared} {o : Expr} {name : Str} {ap p : Pos} {es : List Expr} {Q : Value → Shared → Prop} (hbase : attributeBase o name env (eval o env) = eval o env)
    (hfew : ((backTo p (starEach es env)).all (fun x => !x.1) && (backToKw p (keywordEach [] env)).all (fun x => x.1.isSome)
      && decide (es.length + ([] : List Keyword).length + (if ([] : List Keyword).isEmpty then 0 else 1) < 30)) = true)
    (hline : (ap.endLine == p.line) = true)
    (h : Tr Y A (eval o env) s (fun ov s₁ => ∀ pl, Tr Y A (getMethod ov name pl) s₁ (fun fx s₂ => Tr Y A (callWith p fx.1 fx.2 (backTo p (starEach es env)) []) s₂ Q))) : Tr Y A (eval (.Call (.Attribute o name ap) es [] p) env) s Q := by
  rw [arm_eval_Call, hbase]
  refine wpAny_bind (h.mono fun ov s₁ h₁ => wpAny_bind (wpAny_standAt ?_))
  have hform : methodCallForm (es.length + ([] : List Keyword).length) (backTo p (starEach es env)) (backToKw p (keywordEach [] env)) = true := hfew
  have hpos : methodCallPos true o env ap p = pure p := by unfold methodCallPos; simp [hline]
  unfold methodCall
  rw [hform]
  refine wpAny_bind (wpAny_holding ((h₁ _).mono fun fx s₂ h₂ => ?_))
  exact wpAny_bind (wpAny_of_eq hpos h₂)

noncomputable def entGet (x : Str) (ua rl dl rr : D) : D := if x = Str.ofString "useragents" then ua else if x = Str.ofString "rulelines" then rl else if x = Str.ofString "delay" then dl else rr

theorem ent_find {g : Gh} {x : Str} {ua rl dl rr : D} {m : Str → Option Value} (hx : x ∈ entNames) (h1 : ∃ u, m (Str.ofString "useragents") = some u ∧ Rep Y g ua u) (h2 : ∃ u, m (Str.ofString "rulelines") = some u ∧ Rep Y g rl u)
    (h3 : ∃ u, m (Str.ofString "delay") = some u ∧ Rep Y g dl u) (h4 : ∃ u, m (Str.ofString "req_rate") = some u ∧ Rep Y g rr u) : ∃ u, m x = some u ∧ Rep Y g (entGet x ua rl dl rr) u := by
  simp only [entNames, List.mem_cons, List.not_mem_nil, or_false] at hx
  rcases hx with rfl | rfl | rfl | rfl
  · exact h1
  · exact h2
  · exact h3
  · exact h4

theorem Ev_ent {o : Expr} {name : Str} {p : Pos} {ua rl dl rr : D} {fi fa fb : Addr} (hY : EntOk Y fi fa fb) (ho : Ev Y n nm σ o (.ent ua rl dl rr)) (hn : name ∈ entNames) (hr : NoRaw (entGet name ua rl dl rr)) (hbase : ∀ env, attributeBase o name env (eval o env) = eval o env) :
    Ev Y n nm σ (.Attribute o name p) (entGet name ua rl dl rr) := by
  intro A env k g s hA hE F
  refine eval_attr (hbase env) ((ho A env k g s hA hE F).mono fun v s₁ h₁ => ?_)
  obtain ⟨K, r⟩ := h₁
  have F₁ := F.grows K
  simp only [Rep] at r
  obtain ⟨a, m, rfl, I, h1, h2, h3, h4, _, _⟩ := r
  obtain ⟨u, hu, ru⟩ := ent_find hn h1 h2 h3 h4
  obtain ⟨nm', q, N, bs, sn, sub, ab, col, dd, k0, k1, k2, k3, k5, nid, mN, hC, hN, ok, _, _⟩ := hY.cls s₁.heap F₁.rawTop
  have hi := I.inst F₁.leg
  obtain ⟨h₀, g₀, d₀, t₀, os₀⟩ := s₁
  exact load_attr hC hN ok.ga (ok.own _ hn) (obj_no _ hn) hi hu (handed hr ru) (post_trans K (post_here F₁.leg ru))

theorem Ev_ent_call {o : Expr} {name : Str} {ap p : Pos} {es : List Expr} {ds : List D} {ua rl dl rr d : D} {fi fa fb f : Addr} {of : Obj} {fd : FuncData} (hY : EntOk Y fi fa fb) (ho : Ev Y n nm σ o (.ent ua rl dl rr))
    (hn : (name = Str.ofString "applies_to" ∧ f = fa) ∨ (name = Str.ofString "allowance" ∧ f = fb)) (hf : Y.top f = some of) (hfd : of.data = .func fd) (hp : ∀ env, (starEach es env).any (·.1) = false) (ha : EvArgs Y n nm σ es ds)
    (hcall : CallD Y n (.ref f) (.ent ua rl dl rr :: ds) d) (hbase : ∀ env, attributeBase o name env (eval o env) = eval o env)
    (hfew : ∀ env, ((backTo p (starEach es env)).all (fun x => !x.1) && (backToKw p (keywordEach [] env)).all (fun x => x.1.isSome)
      && decide (es.length + ([] : List Keyword).length + (if ([] : List Keyword).isEmpty then 0 else 1) < 30)) = true)
    (hline : (ap.endLine == p.line) = true) : Ev Y n nm σ (.Call (.Attribute o name ap) es [] p) d := by
  intro A env k g s hA hE F
  refine eval_methcall (hbase env) (hfew env) hline ((ho A env k g s hA hE F).mono fun v s₁ h₁ pl => ?_)
  obtain ⟨K, r⟩ := h₁
  have F₁ := F.grows K
  have r0 := r
  simp only [Rep] at r
  obtain ⟨a, m, rfl, I, _, _, _, _, n1, n2⟩ := r
  obtain ⟨nm', q, N, bs, sn, sub, ab, col, dd, k0, k1, k2, k3, k5, nid, mN, hC, hN, ok, ⟨ofa, hofa, cofa⟩, ⟨ofb, hofb, cofb⟩⟩ := hY.cls s₁.heap F₁.rawTop
  have hi := I.inst F₁.leg
  have fin : ∀ s₂ : Shared, s₂ = s₁ → Tr Y A (callWith p (.ref f) [.ref a] (backTo p (starEach es env)) []) s₂ (Post Y g s d) := by
    rintro s₂ rfl
    refine callWith_ok (.fn f of fd hf hfd) hp ((ha A env k _ s₂ p hA hE F₁).mono fun vs s₃ h₃ => ?_)
    have F₃ := F₁.grows h₃.1
    refine ⟨F₃.rawTop, (hcall A _ s₃ _ hA F₃.top F₃.leg ?_).mono fun y s₄ h₄ => post_trans K (post_trans h₃.1 h₄)⟩
    show RepAll Y _ (_ :: ds) (.ref a :: vs)
    simp only [RepAll]
    exact ⟨_, vs, rfl, Rep.mono (le_grow F₁.leg) _ _ r0, h₃.2⟩
  obtain ⟨h₀, g₀, d₀, t₀, os₀⟩ := s₁
  rcases hn with ⟨rfl, rfl⟩ | ⟨rfl, rfl⟩
  · exact PySem.method_of hC hN ok.ga ok.gh ok.app hofa cofa obj_no_app hi n1 (fin _ rfl)
  · exact PySem.method_of hC hN ok.ga ok.gh ok.allow hofb cofb obj_no_allow hi n2 (fin _ rfl)

theorem rule_get {A : Around} {g : Gh} {s : Shared} {a : Addr} {x name : Str} {u v : Value} {ex : Bool} {Q : Value → Shared → Prop} {o od ob oc co : Obj} {fd0 fd : FuncData} {dd b c cc : Addr} {m : Str → Option Value} {es : Array DictEntry} {ep : Nat} {vs : Array Value} {t tq : Tok}
    (hg : Le g (Y.see s.heap)) (R : RuleIs Y.lam g a x u o od ob oc co fd0 fd dd b c cc m es ep vs t tq) (hv : m name = some v) (hmiss : typeLookup (.type "function") name = pure none) (hh : handedOut v = pure v) (hq : Q v { s with toks := s.toks + 1 }) :
    Tr Y A (getAttr (.ref a) name ex) s Q :=
  fn_get (see_raw (hg _ _ R.ga) (.ne (by rw [R.oc0]; exact nofun))) R.oc0 R.od0 R.odd ⟨od, es, ep, see_raw (hg _ _ R.gd) (.dict R.dd0), R.dd0, R.keys, R.finds⟩ hv hmiss hh hq

theorem Ev_rule_allow {o : Expr} {p : Pos} {x : Str} {vd : D} (ho : Ev Y n nm σ o (.rule x vd)) (hr : NoRaw vd) (hbase : ∀ env, attributeBase o (Str.ofString "allowance") env (eval o env) = eval o env) :
    Ev Y n nm σ (.Attribute o (Str.ofString "allowance") p) vd := by
  intro A env k g s hA hE F
  refine eval_attr (hbase env) ((ho A env k g s hA hE F).mono fun v s₁ h₁ => ?_)
  obtain ⟨K, r⟩ := h₁
  have F₁ := F.grows K
  simp only [Rep] at r
  obtain ⟨a, u, rfl, ⟨o, od, ob, oc, co, fd0, fd, dd, b, c, cc, m, es, ep, vs, t, tq, R⟩, ru⟩ := r
  exact rule_get F₁.leg R R.allow fn_no_allow (handed hr ru) (post_trans K (post_here F₁.leg ru))

structure LamOk (L : LamC) : Prop where
  kind : L.scope.kind = .function
  cor : L.scope.isCoroutine = false
  gen : L.scope.isGenerator = false
  nodup : (L.scope.names.map (·.1)).Nodup
  able : Mine.Able L.scope.names L.arg
  free : ∀ y, (y, NameKind.free) ∈ L.scope.names ↔ y = L.var
  bind : ∀ fd : FuncData, fd.params = L.params → fd.defaults = .none → fd.kwdefaults = .none → ∀ v, bindArgs fd ⟨[v], []⟩ = pure [(L.arg, v)]

theorem Ev_rule_app {o e : Expr} {ap p : Pos} {x : Str} {vd q r : D} (hL : LamOk Y.lam) (ho : Ev Y (n + 1) nm σ o (.rule x vd)) (he : Ev Y (n + 1) nm σ e q) (hp : ∀ env, (starEach [e] env).any (·.1) = false) (hs : ∀ env, starEach [e] env = [(false, eval e env)])
    (hb : Ev Y n Y.lam.scope.names [(Y.lam.arg, .val q), (Y.lam.var, .val (.str x))] Y.lam.body r) (hbase : ∀ env, attributeBase o (Str.ofString "applies_to") env (eval o env) = eval o env)
    (hfew : ∀ env, ((backTo p (starEach [e] env)).all (fun x => !x.1) && (backToKw p (keywordEach [] env)).all (fun x => x.1.isSome)
      && decide (([e] : List Expr).length + ([] : List Keyword).length + (if ([] : List Keyword).isEmpty then 0 else 1) < 30)) = true)
    (hline : (ap.endLine == p.line) = true) : Ev Y (n + 1) nm σ (.Call (.Attribute o (Str.ofString "applies_to") ap) [e] [] p) r := by
  intro A env k g s hA hE F
  refine eval_methcall (hbase env) (hfew env) hline ((ho A env k g s hA hE F).mono fun v s₁ h₁ pl => ?_)
  obtain ⟨K, rr⟩ := h₁
  have F₁ := F.grows K
  simp only [Rep] at rr
  obtain ⟨a, u, rfl, ⟨o, od, ob, oc, co, fd0, fd, dd, b, c, cc, m, es, ep, vs, t, tq, R⟩, ru⟩ := rr
  have hT : s₁.TypeIs (.ref a) "function" := ⟨o, see_raw (F₁.leg _ _ R.ga) (.ne (by rw [R.oc0]; exact nofun)), R.oc0⟩
  -- the function that stands in the rule's dict
  have hget : ∀ ex, Tr Y A (getAttr (.ref a) (Str.ofString "applies_to") ex) s₁ (fun v s₂ => v = .ref b ∧ s₂ = { s₁ with toks := s₁.toks + 1 }) := fun ex => rule_get F₁.leg R R.app fn_no_app rfl ⟨rfl, rfl⟩
  have hmeth : Tr Y A (getMethod (.ref a) (Str.ofString "applies_to") pl) s₁ (fun fx s₂ => fx = (.ref b, []) ∧ s₂ = { s₁ with toks := s₁.toks + 1 }) := by
    unfold getMethod
    refine wpAny_bind (wpAny_specialOf hT slot_fn_ga.lookup ?_)
    have hcan : (Manifest.canonical "object.__getattribute__" != "object.__getattribute__") = false := by decide +kernel
    simp only [hcan, Bool.false_eq_true, if_false]
    refine wpAny_bind (wpAny_specialOf hT fn_no_hook ?_)
    simp only [Option.isSome_none, Bool.false_eq_true, if_false]
    refine wpAny_bind (wpAny_specialOf hT fn_no_app ?_)
    refine wpAny_bind ((hget _).mono fun v s₂ h₂ => wpAny_pure ?_)
    obtain ⟨rfl, rfl⟩ := h₂
    exact ⟨rfl, rfl⟩
  refine hmeth.mono fun fx s₂ h₂ => ?_
  obtain ⟨rfl, rfl⟩ := h₂
  have K₂ := keeps_trans K (keeps_tok s₁ (s₁.toks + 1))
  have F₂ := F₁.grows (keeps_tok s₁ (s₁.toks + 1))
  have hp' := starPlain_of (pos := p) (env := env) hp
  have R₂ : ∀ s₃ : Shared, Kp Y s₁ s₃ → RuleIs Y.lam (grow Y (grow Y g s.heap s₁.heap) s₁.heap s₃.heap) a x u o od ob oc co fd0 fd dd b c cc m es ep vs t tq := fun s₃ K₃ =>
    let h := le_grow (h' := s₃.heap) F₁.leg
    { R with ga := h _ _ R.ga, gd := h _ _ R.gd, gb := h _ _ R.gb, gc := h _ _ R.gc, gcc := h _ _ R.gcc }
  refine Calls.callWith_function (o := ob) (fd := fd) (evalArgs_ok hp' ?_)
  have hargs := EvArgs_cons he (EvArgs_nil (Y := Y) (n := n + 1) (nm := nm) (σ := σ)) (by intro env; rw [hs]; rfl)
  refine (hargs A env k _ { s₁ with toks := s₁.toks + 1 } p hA hE F₂).mono fun vs' s₃ h₃ => ?_
  obtain ⟨K₃, ra⟩ := h₃
  have K13 : Kp Y s₁ s₃ := keeps_trans (keeps_tok s₁ (s₁.toks + 1)) K₃
  have F₃ := F₁.grows K13
  have R₃ := R₂ s₃ K13
  have eb := see_raw (F₃.leg _ _ R₃.gb) (.ne (by rw [R₃.obc]; exact nofun))
  refine ⟨⟨eb, R₃.obd⟩, ?_⟩
  obtain ⟨av, rfl, rav⟩ := one_arg ra
  show Tr Y A (call (.ref b) [av]) s₃ _
  have rav' : Rep Y (grow Y (grow Y g s.heap s₁.heap) s₁.heap s₃.heap) q av := Rep.mono (grow_trans (keeps_le (keeps_tok s₁ (s₁.toks + 1))) (keeps_le K₃)) _ _ rav
  -- the call of the lambda
  have hcode : s₃.heap.CodeRec fd.code fd.qualname := by
    have e1 := F₃.leg _ _ R₃.gcc
    refine ⟨cc, co, vs, tq, R.code, ?_, R.cod, R.qual⟩
    by_cases hcT : cc = Y.tab
    · subst hcT
      obtain ⟨ps, et, _⟩ := F₃.top.2
      rw [see_tab, et] at e1
      have e1 := Option.some.inj e1
      have hq := R.qual
      have hd := R.cod
      rw [← e1] at hd
      cases hd
      simp at hq
    · rw [see_ne hcT] at e1; exact e1
  have hdep : A.depth < recursionLimit := by have := hA.2.1; show A.depth < 1000; omega
  refine wpAny_call (W.kla_callFunE hdep eb R.obd (by rw [R.scope]; exact hL.cor) (by rw [R.scope]; exact hL.gen) R.body hcode ?_)
  rw [hL.bind fd R.par R.dfl R.kdf av]
  refine wpAny_pure (Tr.any (newFnEnv ?_))
  have sh : FnSh fd := ⟨by rw [R.scope]; exact hL.kind, R.glob, R.blt, by rw [R.scope]; exact hL.nodup⟩
  have ecell : s₃.heap.IsCell c (some (.str x t)) := ⟨oc, see_raw (F₃.leg _ _ R₃.gc) (.cell R₃.cell), R₃.cell⟩
  have clo : CloOk Y (grow Y (grow Y g s.heap s₁.heap) s₁.heap s₃.heap) s₃.heap fd [(Y.lam.var, .val (.str x))] := by
    refine ⟨fun y hy => ?_, fun p hp => ?_, fun p hp => ?_, ?_, fun y sl hy => ?_⟩
    · rw [R.scope] at hy
      rw [(hL.free y).mp hy, R.clo]
      exact ⟨c, by simp [List.lookup_cons]⟩
    · rw [R.clo] at hp
      rw [List.mem_singleton.mp hp]; exact ⟨_, ecell⟩
    · rw [R.clo] at hp
      rw [List.mem_singleton.mp hp, R.scope]; exact (hL.free _).mpr rfl
    · rw [R.clo]; exact List.pairwise_singleton _ _
    · rw [List.lookup_cons] at hy
      split at hy
      · rename_i hb
        have hb := beq_iff_eq.mp hb
        subst hb
        cases hy
        refine ⟨by rw [R.scope]; exact lookup_of_mem hL.nodup ((hL.free _).mpr rfl), .str x, .str x t, c, rfl, by rw [R.clo]; simp [List.lookup_cons], ecell, by simp [Rep]⟩
      · cases hy
  obtain ⟨hE', F₄⟩ := fn_frm (a := b) sh clo F₃.top F₃.leg
  refine binds_ok hE' [Y.lam.arg] [q] [av] _ _ _ F₄ (by simp only [RepAll]; exact ⟨av, [], rfl, rav', rfl⟩) rfl (fun y hy => by rw [List.mem_singleton.mp hy, R.scope]; exact hL.able) fun s₅ hs₅ F₅ => ?_
  refine ⟨Y.nolimit _ F₅.rawTop, W.kla_codeExpr (Tr.any (Tr.mono (hb (A.deeper _) _ _ _ s₅ (hA.deeper _) (R.scope ▸ hE') F₅) fun v s₆ h₆ => ?_))⟩
  obtain ⟨K₆, rv⟩ := h₆
  have F₆ := F₅.grows K₆
  obtain ⟨h₅, t₅, e₅⟩ := hs₅
  have hs₆ := K₆
  obtain ⟨h₆, t₆, rfl, _⟩ := K₆
  have K₃₆ : Kp Y s₃ { s₅ with heap := h₆, toks := t₆ } := ⟨h₆, t₆, by rw [e₅], F₆.lek, fun _ => F₆.top.2⟩
  refine post_trans K (post_trans K13 ⟨K₃₆, Rep.mono (grow_in F₆.leg F₆.lek fun b' o' e' hh => ?_) _ _ rv⟩)
  obtain ⟨o₅, e₅'⟩ := live_see (Y := Y) e'
  have e₆ := F₅.lek _ _ e₅'
  obtain ⟨o₇, e₇⟩ := see_live e₆
  refine grow_old e₇ ?_
  by_cases hbT : b' = Y.tab
  · subst hbT; exact .tab
  · rw [see_ne hbT] at e₅' e₆
    rw [e'] at e₅'; cases e₅'
    rw [e₆] at e₇; cases e₇; exact hh

end Mine
end

section
open PySem
set_option maxRecDepth 100000
namespace Mine
variable {Y : Law} {n : Nat} {nm : Nm} {σ : Sto}

theorem strs_at {g : Gh} : ∀ {xs : List Str} {vs : List Value}, RepAll Y g (xs.map D.str) vs → ∀ (i : Nat) (x : Str), xs[i]? = some x → ∃ t, vs[i]? = some (Value.str x t)
  | [], _, _, i, x, h => by simp at h
  | y :: xs, vs, r, i, x, h => by
    simp only [List.map_cons, RepAll, Rep] at r
    obtain ⟨v, vs, rfl, ⟨t, rfl⟩, r⟩ := r
    cases i with
    | zero => simp at h; subst h; exact ⟨t, rfl⟩
    | succ i => simpa using strs_at r i x (by simpa using h)

theorem isStr_self (x : Str) (t : Tok) : (strKind Y.prog Y.w).is x (.str x t) = true := by
  show Value.isStrOf x (.str x t) = true
  simp [Value.isStrOf]
theorem set_loop {A : Around} {S I l : Addr} {items : Array Value} {xs : List Str} (hA : A.handled = none) (hit : ∀ (i : Nat) (x : Str), xs[i]? = some x → ∃ t, items[i]? = some (Value.str x t)) (hz : items.size = xs.length) (hb : xs.length + 1 < scanBound) (hSI : S ≠ I) (hSl : S ≠ l) (hIl : l ≠ I) {R : Result → Shared → Prop} :
    ∀ (k i : Nat) (s : Shared) (c : Nat), xs.length - i = k → i ≤ xs.length → s.heap.IsListIter I l i → s.heap.IsList l items → c ≤ i → s.heap.SetOf (strKind Y.prog Y.w) S (fun y => (xs.take i).any (· == y)) c →
      (∀ h' tk c', c' ≤ xs.length → (∀ b o, b ≠ S → b ≠ I → s.heap.get? b = some o → h'.get? b = some o) → h'.SetOf (strKind Y.prog Y.w) S (fun y => xs.any (· == y)) c' → R (.ok (.ret .none)) { s with heap := h', toks := tk }) →
      codeAny (model Y.prog Y.w) A (.builtin "set.update.loop" ⟨[.ref S, .ref I], []⟩) R s := by
  intro k
  induction k with
  | zero =>
    intro i s c hk hi hI hl hc hS hR
    have hin : i = xs.length := by omega
    subst hin
    refine codeAny_builtin PyProof.Rows.F.entry_set_update_loop ?_
    rw [Around.under_plainId PyProof.Rows.F.plain_set_update_loop _]
    show wpAny _ A.in1 (pyNext (.ref I) >>= _) _ _ s
    refine wpAny_bind (wpAny_pyNext_list_end hA hI hl (by simp [hz]) fun h' he => ?_)
    show wpAny _ A.in1 (ret Value.none) _ _ _
    refine wpAny_pure (hR h' s.toks c hc (fun b o h1 h2 e => he b o h2 e) ?_)
    rw [List.take_length] at hS
    obtain ⟨o, es, ep, tb, ho, rest⟩ := hS
    exact ⟨o, es, ep, tb, he _ _ hSI ho, rest⟩
  | succ k ih =>
    intro i s c hk hi hI hl hc hS hR
    have hlt : i < xs.length := by omega
    obtain ⟨t, ht⟩ := hit i xs[i] (by simp)
    refine codeAny_builtin PyProof.Rows.F.entry_set_update_loop ?_
    rw [Around.under_plainId PyProof.Rows.F.plain_set_update_loop _]
    show wpAny _ A.in1 (pyNext (.ref I) >>= _) _ _ s
    refine wpAny_bind (wpAny_pyNext_list_item hI hl ht fun h' hI' hs' => ?_)
    have hS' : h'.SetOf (strKind Y.prog Y.w) S (fun y => (xs.take i).any (· == y)) c := by
      obtain ⟨o, es, ep, tb, ho, rest⟩ := hS
      exact ⟨o, es, ep, tb, (hs'.2 S hSI).trans ho, rest⟩
    have hl' : h'.IsList l items := by
      obtain ⟨o, e, r⟩ := hl
      exact ⟨o, (hs'.2 l hIl).trans e, r⟩
    show wpAny _ A.in1 (holding [Value.str xs[i] t] (setAdd S (.str xs[i] t)) >>= _) _ _ _
    refine wpAny_bind (wpAny_holding ?_)
    unfold setAdd
    refine wpAny_holding ?_
    refine wpAny_bind ((strKind Y.prog Y.w).pyHash (k := xs[i]) (isStr_self _ _) ?_)
    refine wpAny_setAddHashed_of (knd := strKind Y.prog Y.w) (s := { s with heap := h', toks := s.toks + 1 }) (k := xs[i]) (isStr_self _ _) rfl hS' (by omega) fun h'' hsb hS2 => ?_
    have hS3 : h''.SetOf (strKind Y.prog Y.w) S (fun y => (xs.take (i + 1)).any (· == y)) (if (xs.take i).any (· == xs[i]) then c else c + 1) := by
      refine PyProof.Rows.SetOf_congr hS2 (fun y => ?_) rfl
      rw [List.take_add_one]
      have : xs[i]? = some xs[i] := by simp
      rw [this, Option.toList_some, List.any_append]
      by_cases e : y = xs[i]
      · subst e; simp
      · have hb : (xs[i] == y) = false := by simpa [beq_iff_eq] using (fun h : xs[i] = y => e h.symm)
        simp [hb, e]
    refine wpAny_pure ⟨plainId_quiet PyProof.Rows.F.plain_set_update_loop _, ih (i + 1) _ _ (by omega) hlt ?_ ?_ ?_ hS3 fun h₃ tk c' hc' hk₃ hS₃ => ?_⟩
    · obtain ⟨o, e, r⟩ := hI'
      exact ⟨o, (hsb.2 I (Ne.symm hSI)).trans e, r⟩
    · obtain ⟨o, e, r⟩ := hl'
      exact ⟨o, (hsb.2 l (Ne.symm hSl)).trans e, r⟩
    · split <;> omega
    · exact hR h₃ tk c' hc' (fun b o h1 h2 e => hk₃ b o h1 h2 ((hsb.2 b h1).trans ((hs'.2 b h2).trans e))) hS₃

set_option maxHeartbeats 3200000 in
theorem call_set_texts {A : Around} {s : Shared} {l : Addr} {items : Array Value} {nl : Nat} {xs : List Str} {Q : Value → Shared → Prop} (hh : A.handled = none) (hol : s.heap.get? l = some (listO items nl))
    (hit : ∀ (i : Nat) (x : Str), xs[i]? = some x → ∃ t, items[i]? = some (Value.str x t)) (hz : items.size = xs.length) (hb : xs.length + 1 < scanBound)
    (h : ∀ (h' : Heap) (tk c : Nat), h'.SetOf (strKind Y.prog Y.w) s.heap.objs.size (fun y => xs.any (· == y)) c → (∀ b o, s.heap.get? b = some o → h'.get? b = some o) → Q (.ref s.heap.objs.size) { s with heap := h', toks := tk }) :
    Tr Y A (call (.type "set") [.ref l]) s Q := by
  obtain ⟨c, tl, hmro⟩ := PySem.F.called_set.mro
  have hmade := PySem.F.called_set.made
  have hsub := PySem.F.called_set.sub
  refine wpAny_call (codeAny_of_tree ?_)
  show wpAny _ _ (callAny (.type "set") _) _ _ _
  refine wpAny_pure ⟨Code.quiet_builtin _ (by decide +kernel), codeAny_builtin PySem.F.entry_type_call ?_⟩
  rw [Around.under_plain (weight_type_call_type "set" [.ref l] []) rfl]
  have h1 := PySem.F.called_set.notType
  have h2 := PySem.F.called_set.canCreate
  have hct := PySem.F.typeCall_set_1 (.ref l)
  repeat (any_goals (first | assumption | wp_step))
  refine codeAny_mono (code_set_new_1 (.ref l) (E := fun _ _ => False) (Q₁ := fun obj s₁ => ∃ led : Bool, obj = .ref s.heap.objs.size ∧ s₁ = { s with heap := s.heap.push { cls := .type "set", dict := none, data := .set #[] 0 (.fresh 0 0 led) } }) fun led => ⟨led, rfl, rfl⟩) fun r s₁ hr => ?_
  cases r with
  | error e => exact hr
  | ok fl =>
    cases fl with
    | ret obj =>
      obtain ⟨led, rfl, rfl⟩ := hr
      have hS : (s.heap.push { cls := .type "set", dict := none, data := .set #[] 0 (.fresh 0 0 led) }).get? s.heap.objs.size = some { cls := .type "set", dict := none, data := .set #[] 0 (.fresh 0 0 led) } := Heap.get?_push_size _ rfl
      have hT : Shared.TypeIs { s with heap := s.heap.push { cls := .type "set", dict := none, data := .set #[] 0 (.fresh 0 0 led) } } (.ref s.heap.objs.size) "set" := ⟨_, hS, rfl⟩
      have hli := PySem.F.called_set.init.lookup
      have hbi := PySem.F.called_set.init.bind (.ref s.heap.objs.size)
      repeat (any_goals (first | assumption | wp_step))
      refine codeAny_mono (codeAny_call_builtin (R := wants (fun r s₂ => r = .none ∧ ∃ h' tk c, s₂ = { s with heap := h', toks := tk } ∧
          h'.SetOf (strKind Y.prog Y.w) s.heap.objs.size (fun y => xs.any (· == y)) c ∧ (∀ b o, s.heap.get? b = some o → h'.get? b = some o)) (fun _ _ => False)) PySem.F.called_set.init.plain PySem.F.entry_set_init (check_set_init_1 hT ?_)) fun r₂ s₂ hr₂ => ?_
      · have hol' : (s.heap.push { cls := .type "set", dict := none, data := .set #[] 0 (.fresh 0 0 led) }).get? l = some (listO items nl) := Heap.get?_push_of_some _ hol
        have hsls := PySem.F.sub_list_set
        have hslf := PySem.F.sub_list_frozenset
        have hne : (Value.type "list" == Value.type "dict") = false := by decide
        have hl1 : (s.heap.push { cls := .type "set", dict := none, data := .set #[] 0 (.fresh 0 0 led) }).IsList l items := ⟨_, hol', rfl, nl, rfl⟩
        unfold Builtin.«set.__init__» noKeywords Builtin.Frozenset.updateFrom
        generalize hPI : pyIter = PI
        wp_walk
        subst hPI
        refine wpAny_pyIter_list hl1 ?_
        refine wpAny_bind (wpAny_runValue ?_)
        have hlS : l < s.heap.objs.size := Heap.lt_size hol
        have hsz : (s.heap.push { cls := .type "set", dict := none, data := .set #[] 0 (.fresh 0 0 led) }).objs.size = s.heap.objs.size + 1 := Heap.size_push ..
        have hne1 : s.heap.objs.size ≠ (s.heap.push { cls := .type "set", dict := none, data := .set #[] 0 (.fresh 0 0 led) }).objs.size := by rw [hsz]; exact Nat.ne_of_lt (Nat.lt_succ_self _)
        have hne2 : l ≠ (s.heap.push { cls := .type "set", dict := none, data := .set #[] 0 (.fresh 0 0 led) }).objs.size := by rw [hsz]; exact Nat.ne_of_lt (Nat.lt_succ_of_lt hlS)
        refine set_loop (Y := Y) (A := A.in1.in1) (l := l) (items := items) (xs := xs) hh hit hz hb hne1 (Nat.ne_of_gt hlS) hne2 xs.length 0 _ 0 (by omega) (Nat.zero_le _) ?_ ?_ (Nat.le_refl _) ?_ fun h' tk c' hc' hk' hS' => ?_
        · exact ⟨_, Heap.get?_push_size _ rfl, rfl, rfl⟩
        · exact hl1.push _
        · have hget : ((s.heap.push { cls := .type "set", dict := none, data := .set #[] 0 (.fresh 0 0 led) }).push { cls := .type "list_iterator", data := .fields #[.ref l, .int 0 0] }).get? s.heap.objs.size
              = some { cls := .type "set", dict := none, data := .set #[] 0 (.fresh 0 0 led) } := Heap.get?_push_of_some _ hS
          exact PyProof.Rows.SetOf_congr ((PyProof.Rows.setObjOf_fresh (knd := strKind Y.prog Y.w) led).setOf hget (by unfold scanBound; omega)) (fun _ => rfl) rfl
        · show wpAny _ _ _ _ _ _
          refine wpAny_pure ?_
          show wpAny _ _ (ret Value.none) _ _ _
          refine wpAny_pure ⟨rfl, h', tk, c', rfl, hS', fun b o e => ?_⟩
          have hb := Heap.lt_size e
          have hb1 : b ≠ s.heap.objs.size := Nat.ne_of_lt hb
          have hb2 : b ≠ (s.heap.push { cls := .type "set", dict := none, data := .set #[] 0 (.fresh 0 0 led) }).objs.size := by
            rw [Heap.size_push]; exact Nat.ne_of_lt (Nat.lt_succ_of_lt hb)
          exact hk' b o hb1 hb2 (Heap.get?_push_of_some _ (Heap.get?_push_of_some _ e))
      · cases r₂ with
        | error e => exact hr₂
        | ok fl₂ =>
          cases fl₂ with
          | ret r =>
            obtain ⟨rfl, h', tk, c', rfl, hS', hk'⟩ := hr₂
            repeat (any_goals (first | assumption | wp_step))
            exact h _ _ _ hS' hk'
          | _ => exact hr₂.elim
    | _ => exact hr.elim

end Mine
end

section
open PySem
open Builtin Builtin.ObjectAttr
set_option maxRecDepth 100000
namespace Mine
variable {Y : Law} {n : Nat} {nm : Nm} {σ : Sto}

theorem md_lookup {name : Str} {r : Option Value} (h : fastLookup "method_descriptor" name = some r) : typeLookup (.type "method_descriptor") name = pure r := by
  rw [typeLookup_type, builtinLookup_eq_fast, h]
theorem entry_set_ga : entryFor table "set.__getattribute__" = some Builtin.«object.__getattribute__» :=
  entryFor_alias (id' := "object.__getattribute__") (by kernel_rfl) (by decide +kernel) (by decide +kernel) (by kernel_rfl)
theorem slot_md_get : Slot "method_descriptor" "__get__" "method_descriptor.__get__" :=
  .of (owner := "method_descriptor") (n := "__get__") (md_lookup (by kernel_rfl)) (by decide +kernel) (by decide +kernel) (by decide +kernel) (.inl (by decide +kernel)) (by rw [isSubtype_type]; kernel_rfl)
theorem entry_md_get : entryFor table "method_descriptor.__get__" = some Builtin.«method_descriptor.__get__» := entryFor_of_tree (by kernel_rfl)
theorem md_no_set : typeLookup (.type "method_descriptor") (Str.ofString "__set__") = pure none := md_lookup (by kernel_rfl)
theorem md_no_del : typeLookup (.type "method_descriptor") (Str.ofString "__delete__") = pure none := md_lookup (by kernel_rfl)
theorem md_args (a b c : Value) : argsOk "method_descriptor.__get__" ⟨[a, b, c], []⟩ := by unfold argsOk; kernel_rfl

noncomputable abbrev boundObj (a : Addr) : Obj := { cls := .type "builtin_function_or_method", data := .fields #[.builtin "set.__contains__", .ref a] }

noncomputable def chkSet (obj : Value) : Sem Unit := do
  let (name, cls) ← (pure (Str.ofString "__contains__", Value.type "set") : Sem (Str × Value))
  if !(← isInstance obj cls) then
    rule "descr.get.wrong-instance"
    raiseError "TypeError" s!"descriptor '{name.toString}' for '{← typeName cls}' objects doesn't apply to a '{← typeNameOf obj}' object"
noncomputable def mdGet (obj : Value) : Sem Fin := do chkSet obj; ret (← newFields "builtin_function_or_method" [.builtin "set.__contains__", obj])
theorem md_get_eq (a : Addr) : Builtin.«method_descriptor.__get__» ⟨[.builtin "set.__contains__", .ref a, .type "set"], []⟩ = mdGet (.ref a) := by kernel_rfl

theorem set_contains_attr {A : Around} {s : Shared} {a : Addr} {o : Obj} {ex : Bool} {es : Array (Int × Value)} {ep : Nat} {tb : SetTable} {Q : Value → Shared → Prop} (ho : s.heap.get? a = some o) (hc : o.cls = .type "set") (hd : o.dict = none) (hdat : o.data = .set es ep tb)
    (hq : ∀ tk, Q (.ref s.heap.objs.size) { s with heap := s.heap.push (boundObj a), toks := tk }) : Tr Y A (getAttr (.ref a) (Str.ofString "__contains__") ex) s Q := by
  obtain ⟨c, dct, dat, sl⟩ := o
  simp only at hc hd hdat
  subst hc hd hdat
  obtain ⟨hp, g, d, tk, os⟩ := s
  have hT : ∀ tk', (⟨hp, g, d, tk', os⟩ : Shared).TypeIs (.ref a) "set" := fun _ => ⟨_, ho, rfl⟩
  have f3 := F.slot_set_getattribute.lookup
  have f4 := F.slot_set_getattribute.bind (.ref a)
  unfold getAttr getAttrBy
  repeat (any_goals (first | assumption | exact hT _ | wp_step))
  have hcond : (ex && onTheHeap (Value.builtin "set.__getattribute__")) = false := by cases ex <;> rfl
  rw [hcond]
  simp only [Bool.false_eq_true, if_false]
  unfold boundAndCalled
  rw [f4]
  refine wpAny_bind (wpAny_pure ?_)
  show wpAny _ _ (call (.builtin "set.__getattribute__") [.ref a, .str (Str.ofString "__contains__") tk]) _ _ _
  refine wpAny_call_entry F.slot_set_getattribute (hT _) entry_set_ga ?_ (F.args_set_getattribute_2 _ _)
  have hTd : ∀ tk', (⟨hp, g, d, tk', os⟩ : Shared).TypeIs (.builtin "set.__contains__") "method_descriptor" := fun _ => F.type_set_contains
  have hTc := F.type_set_contains
  have hlc : typeLookup (.type "set") (Str.ofString "__contains__") = pure (some (.builtin "set.__contains__")) := F.slot_set_contains.lookup
  have hcop : (["__module__", "__name__", "__qualname__", "__doc__", "__annotations__"] : List Str).contains (Str.ofString "__contains__") = false := by decide +kernel
  have g1 := slot_md_get.lookup
  have g2 := md_no_set
  have g3 := md_no_del
  have hfind : ∀ (t' : Nat) (A' : Around) (E' : Value → Shared → Prop) (Q' : Found → Shared → Prop), Q' (.bind (.builtin "method_descriptor.__get__") (.builtin "set.__contains__")) ⟨hp, g, d, t', os⟩ →
      wpAny (model Y.prog Y.w) A' (find (.ref a) (.type "set") (Str.ofString "__contains__")) Q' E' ⟨hp, g, d, t', os⟩ := by
    intro t' A' E' Q' hq'
    unfold find
    rw [hlc]
    refine wpAny_bind (wpAny_pure (wpAny_bind (wpAny_specialOf (hTd _) g1 ?_)))
    refine wpAny_bind (wpAny_bind ?_)
    unfold takesStores
    refine wpAny_bind (wpAny_specialOf (hTd _) g2 ?_)
    simp only [Option.isSome_none, Bool.false_eq_true, if_false]
    refine wpAny_bind (wpAny_specialOf (hTd _) g3 (wpAny_pure ?_))
    simp only [Option.isSome_none, Bool.false_eq_true, if_false]
    refine wpAny_pure ?_
    unfold ownThenClass inOwnDict ownDict instanceDict inDict copiedAttributeGuard
    rw [hcop]
    repeat (any_goals (first | assumption | exact hT _ | wp_step))
  unfold Builtin.«object.__getattribute__»
  have hslot : ∀ A' E' Q', Q' ((Value.ref a, [Value.str (Str.ofString "__contains__") tk]) : Value × List Value) ⟨hp, g, d, tk + 1, os⟩ → wpAny (model Y.prog Y.w) A' (slotArgs "__getattribute__" 1 ⟨[.ref a, .str (Str.ofString "__contains__") tk], []⟩) Q' E' ⟨hp, g, d, tk + 1, os⟩ := fun A' E' Q' hh => wpAny_pure hh
  refine wpAny_bind (hslot _ _ _ ?_)
  refine wpAny_bind (wpAny_pure (wpAny_bind (wpAny_typeOf (hT _) (wpAny_bind (hfind _ _ _ _ ?_)))))
  show wpAny _ _ (bindTo (.builtin "method_descriptor.__get__") (.builtin "set.__contains__") (.ref a) (.type "set")) _ _ _
  refine wpAny_bind (wpAny_holding ?_)
  refine wpAny_call_entry slot_md_get (hTd _) entry_md_get ?_ (md_args _ _ _)
  have hsub : isSubtype (.type "set") (.type "set") = pure true := by rw [isSubtype_type]; kernel_rfl
  rw [md_get_eq]
  unfold mdGet chkSet
  refine wpAny_bind (wpAny_bind (wpAny_pure (wpAny_bind (wpAny_isInstance (hT _) hsub ?_))))
  simp only [Bool.not_true, Bool.false_eq_true, if_false]
  refine wpAny_pure (wpAny_bind ?_)
  show wpAny _ _ (newFields "builtin_function_or_method" [.builtin "set.__contains__", .ref a]) _ _ _
  refine wpAny_newObj_type (wpAny_pure ⟨_, rfl, ?_⟩)
  refine wpAny_pure ⟨_, rfl, ?_⟩
  show wpAny _ _ (handedOut (.ref hp.objs.size)) _ _ _
  exact wpAny_pure (hq _)

end Mine
end

section
open PySem
open Builtin Builtin.ObjectAttr
set_option maxRecDepth 100000
namespace Mine
variable {Y : Law} {n : Nat} {nm : Nm} {σ : Sto}

theorem fil_lookup {name : Str} {r : Option Value} (h : fastLookup "filter" name = some r) : typeLookup (.type "filter") name = pure r := by
  rw [typeLookup_type, builtinLookup_eq_fast, h]
theorem mro_filter : mroOf (.type "filter") = pure [.type "filter", .type "object"] := by rw [mroOf_type]; kernel_rfl
theorem slot_filter_init : Slot "filter" "__init__" "object.__init__" :=
  .of (owner := "object") (n := "__init__") (fil_lookup (by kernel_rfl)) (by decide +kernel) (by decide +kernel) (by decide +kernel) (by first | exact .inl (by decide +kernel) | exact .inr (by decide +kernel)) (by rw [isSubtype_type]; kernel_rfl)
theorem called_filter : TypeCalled "filter" "filter.__new__" "object.__init__" :=
  ⟨by decide +kernel, by decide +kernel, ⟨_, _, mro_filter⟩, madeBy_type mro_filter (fil_lookup (by kernel_rfl)) (by decide +kernel), by decide +kernel, by rw [isSubtype_type]; kernel_rfl, slot_filter_init⟩
theorem typeCall_filter_2 (a b : Value) : checkTypeCall "filter" ⟨[a, b], []⟩ = pure () := by kernel_rfl
theorem newCall_filter_2 (a b : Value) : checkBuiltinCall "filter.__new__" ⟨[.type "filter", a, b], []⟩ = pure () := by kernel_rfl
theorem entry_filter_new : entryFor table "filter.__new__" = some Builtin.«filter.__new__» := entryFor_of_tree (by kernel_rfl)
theorem entry_filter_next : entryFor table "filter.__next__" = some Builtin.«filter.__next__» := entryFor_of_tree (by kernel_rfl)
theorem slot_filter_next : Slot "filter" "__next__" "filter.__next__" :=
  .of (owner := "filter") (n := "__next__") (fil_lookup (by kernel_rfl)) (by decide +kernel) (by decide +kernel) (by decide +kernel) (by first | exact .inl (by decide +kernel) | exact .inr (by decide +kernel)) (by rw [isSubtype_type]; kernel_rfl)
theorem slot_filter_iter : Slot "filter" "__iter__" "filter.__iter__" :=
  .of (owner := "filter") (n := "__iter__") (fil_lookup (by kernel_rfl)) (by decide +kernel) (by decide +kernel) (by decide +kernel) (by first | exact .inl (by decide +kernel) | exact .inr (by decide +kernel)) (by rw [isSubtype_type]; kernel_rfl)
theorem args_filter_iter (a : Value) : argsOk "filter.__iter__" ⟨[a], []⟩ := by unfold argsOk; kernel_rfl
theorem args_filter_next (a : Value) : argsOk "filter.__next__" ⟨[a], []⟩ := by unfold argsOk; kernel_rfl
theorem sub_filter : isSubtype (.type "filter") (.type "filter") = pure true := by rw [isSubtype_type]; kernel_rfl

noncomputable abbrev filterObj (b I : Addr) : Obj := { cls := .type "filter", data := .fields #[.ref b, .ref I] }

theorem meets_filter_new (b l : Addr) (xs : Array Value) :
    Meets (Builtin.«filter.__new__» ⟨[.type "filter", .ref b, .ref l], []⟩) (fun _ R s => s.heap.IsList l xs ∧
      R (.ok (.ret (.ref (s.heap.push { cls := .type "list_iterator", data := .fields #[.ref l, .int 0 0] }).objs.size))) { s with heap := (s.heap.push { cls := .type "list_iterator", data := .fields #[.ref l, .int 0 0] }).push (filterObj b s.heap.objs.size) }) :=
  .of_wp fun prog w A R s h => by
    obtain ⟨hp, g, d, tk, os⟩ := s; obtain ⟨hl1, h⟩ := h
    have hsub := sub_filter
    have hL1 : Heap.IsList (Shared.heap ⟨hp, g, d, tk, os⟩) l xs := hl1
    wp_walk using wpAny_pyIter_list hL1
    exact ⟨_, rfl, h⟩

theorem call_filter {A : Around} {s : Shared} {b l : Addr} {xs : Array Value} {Q : Value → Shared → Prop} (hl : s.heap.IsList l xs)
    (h : ∀ h', h'.get? (s.heap.objs.size + 1) = some (filterObj b s.heap.objs.size) → h'.IsListIter s.heap.objs.size l 0 → h'.objs.size = s.heap.objs.size + 2 → (∀ c o, s.heap.get? c = some o → h'.get? c = some o) → Q (.ref (s.heap.objs.size + 1)) { s with heap := h' }) :
    Tr Y A (call (.type "filter") [.ref b, .ref l]) s Q := by
  refine callType_new called_filter (by decide) (typeCall_filter_2 _ _) (newCall_filter_2 _ _) (fun obj => PySem.F.args_object_init_3 obj _ _) entry_filter_new (meets_filter_new b l xs) ⟨hl, ?_⟩
  have z1 : (s.heap.push { cls := .type "list_iterator", data := .fields #[.ref l, .int 0 0] }).objs.size = s.heap.objs.size + 1 := Heap.size_push ..
  have hf := Heap.get?_push_size (s.heap.push { cls := .type "list_iterator", data := .fields #[.ref l, .int 0 0] }) (o := filterObj b s.heap.objs.size) rfl
  show _ ∧ _
  rw [z1] at hf ⊢
  refine ⟨⟨_, hf, rfl⟩, h _ hf ⟨_, Heap.get?_push_of_some _ (Heap.get?_push_size _ rfl), rfl, rfl⟩ ?_ fun c o x => Heap.get?_push_of_some _ (Heap.get?_push_of_some _ x)⟩
  rw [Heap.size_push, z1]

end Mine
end

section
open PySem
open Builtin Builtin.ObjectAttr
set_option maxRecDepth 100000
namespace Mine
variable {Y : Law} {n : Nat} {nm : Nm} {σ : Sto}

noncomputable def bArgs (a k : Value) : Sem Unit := match Manifest.signature? "set.__contains__" with
  | none => pure ()
  | some sig => Bind.checkArgs "set.__contains__" { sig with full := "set.__contains__" } ⟨[a, k], []⟩
theorem bArgs_ok (a k : Value) : bArgs a k = pure () := by
  unfold bArgs
  rw [signature?_of (id := "set.__contains__") (n := ['_', '_', 's', 'n', 'i', 'a', 't', 'n', 'o', 'c', '_', '_']) (o := ['t', 'e', 's']) (by kernel_rfl) PySem.F.owner_set]
  kernel_rfl
theorem kind_contains : builtinKind "set.__contains__" = some .method := by kernel_rfl
theorem sub_set_module : isSubtype (.type "set") (.type "module") = pure false := by rw [isSubtype_type]; kernel_rfl
theorem varargs_contains : Manifest.varargsMethods.contains "set.__contains__" = false := by decide +kernel
theorem full_contains : (toString (Bind.lastOf "set") ++ "." ++ toString (Bind.lastOf "set.__contains__") : String) = "set.__contains__" := by kernel_rfl

theorem check_bound {A : Around} {E : Value → Shared → Prop} {s : Shared} {a : Addr} {o : Obj} {es : Array (Int × Value)} {ep : Nat} {tb : SetTable} {key : Value} {Q : Unit → Shared → Prop} (ho : s.heap.get? a = some o) (hc : o.cls = .type "set") (hdat : o.data = .set es ep tb) (hq : Q () s) :
    wpAny (model Y.prog Y.w) A (checkBoundCall "set.__contains__" ⟨[.ref a, key], []⟩) Q E s := by
  have hT : s.TypeIs (.ref a) "set" := ⟨o, ho, hc⟩
  have hb := bArgs_ok (.ref a) key
  unfold bArgs at hb
  unfold checkBoundCall
  cases hsig : Manifest.signature? "set.__contains__" with
  | none => exact wpAny_pure hq
  | some sig =>
    rw [hsig] at hb
    have hb : Bind.checkArgs "set.__contains__" { sig with full := "set.__contains__" } ⟨[.ref a, key], []⟩ = pure () := hb
    simp only [kind_contains]
    have h1 : (Manifest.AttrKind.method != Manifest.AttrKind.method && Manifest.AttrKind.method != Manifest.AttrKind.classMethod) = false := by decide
    simp only [h1, Bool.false_eq_true, if_false]
    refine wpAny_bind (wpAny_isInstance hT sub_set_module ?_)
    rw [varargs_contains]
    simp only [Bool.or_false, Bool.false_eq_true, if_false]
    obtain ⟨c, dct, dat, sl⟩ := o
    simp only at hc hdat
    subst hc hdat
    unfold isType
    refine wpAny_bind (wpAny_bind (wpAny_bind (wpAny_loadPart ho (wpAny_pure (wpAny_pure ?_)))))
    simp only [Bool.false_eq_true, if_false]
    refine wpAny_bind (wpAny_typeOf hT ?_)
    show wpAny _ _ (Bind.checkArgs "set.__contains__" { sig with full := s!"{Bind.lastOf "set"}.{Bind.lastOf "set.__contains__"}" } ⟨[.ref a, key], []⟩) _ _ _
    rw [show (s!"{Bind.lastOf "set"}.{Bind.lastOf "set.__contains__"}" : String) = "set.__contains__" from full_contains, hb]
    exact wpAny_pure hq

theorem plain_contains : plainId "set.__contains__" = true := by decide +kernel
theorem bound_call {A : Around} {s : Shared} {a b : Addr} {S : Str → Bool} {c : Nat} {x : Str} {t : Tok} {Q : Value → Shared → Prop} (hb : s.heap.get? b = some (boundObj a)) (hS : s.heap.SetOf (strKind Y.prog Y.w) a S c)
    (hq : Q (.bool (S x)) { s with toks := s.toks + 1 }) : Tr Y A (call (.ref b) [.str x t]) s Q := by
  refine wpAny_call (codeAny_of_tree ?_)
  show wpAny _ _ (callAny (.ref b) _) _ _ _
  simp only [callAny]
  refine wpAny_bind (wpAny_load hb ?_)
  have h1 : (Value.type "builtin_function_or_method" == Value.type "method") = false := by decide +kernel
  have h2 : (Value.type "builtin_function_or_method" == Value.type "builtin_function_or_method") = true := by decide +kernel
  have h3 : (Value.type "builtin_function_or_method" != Value.type "method") = true := by decide +kernel
  simp only [h1, h2, Bool.false_or, Bool.true_or, if_true]
  have hS' := hS
  obtain ⟨o, es, ep, tb, ho, hex, hd, rest⟩ := hS
  show wpAny _ _ (if (Value.type "builtin_function_or_method" != Value.type "method") = true then _ else _) _ _ _
  rw [if_pos h3]
  refine wpAny_bind (check_bound ho hex.1 hd (wpAny_bind (wpAny_pure (wpAny_pure ?_))))
  refine ⟨plainId_quiet plain_contains _, ?_⟩
  show codeAny _ _ (.builtin "set.__contains__" ⟨[.ref a, .str x t], []⟩) _ _
  refine codeAny_builtin entry_set_contains ?_
  rw [Around.under_plainId plain_contains _]
  unfold Builtin.«frozenset.__contains__» Builtin.Frozenset.oneOther
  simp only [List.isEmpty_nil, bind_assoc]
  unfold Builtin.Frozenset.addrOf Builtin.Frozenset.withSetAsKey setContains
  refine wpAny_bind (wpAny_pure ?_)
  try dsimp only
  refine wpAny_bind (wpAny_pure ?_)
  try dsimp only
  refine wpAny_bind (wpAny_tryCatch ?_)
  refine wpAny_holding ?_
  refine wpAny_bind ((strKind Y.prog Y.w).pyHash (isStr_self x t) ?_)
  refine wpAny_bind (wpAny_setFind_of (s := { s with toks := s.toks + 1 }) (isStr_self x t) rfl hS' fun r hr => ?_)
  refine wpAny_pure ?_
  show wpAny _ _ (ret (Value.bool r.isSome)) _ _ _
  rw [hr]
  exact wpAny_pure hq

end Mine
end

section
open PySem
open Builtin Builtin.ObjectAttr
set_option maxRecDepth 100000
namespace Mine
variable {Y : Law} {n : Nat} {nm : Nm} {σ : Sto}

theorem li_item {A : Around} {E : Value → Shared → Prop} {s : Shared} {I l : Addr} {i : Nat} {items : Array Value} {x : Value} {Q : Option Value → Shared → Prop} (hit : s.heap.IsListIter I l i) (hl : s.heap.IsList l items) (hx : items[i]? = some x)
    (hQ : ∀ h', h'.IsListIter I l (i + 1) → Heap.SameBut I s.heap h' → Q (some x) { s with heap := h' }) : wpAny (model Y.prog Y.w) A (callSpecial? (.ref I) "__next__") Q E s := by
  obtain ⟨o, ho, hc, hd⟩ := id hit
  obtain ⟨ol, hol, _, nl, hdl⟩ := hl
  refine wpAny_callSpecial?_slot (name := Str.ofString "__next__") hit.typeIs slot_listiter_next (wpAny_call_entry slot_listiter_next hit.typeIs entry_listiter_next ?_ (args_listiter_next _))
  show wpAny _ _ (field (.ref I) 0 >>= _) _ _ s
  refine wpAny_bind (wpAny_field ho hd (x := .ref l) rfl ?_)
  show wpAny _ _ (if (Value.ref l == Value.none) = true then _ else _) _ _ s
  rw [if_neg (show ¬ ((Value.ref l == Value.none) = true) from Bool.false_ne_true)]
  show wpAny _ _ (field (.ref I) 1 >>= _) _ _ s
  refine wpAny_bind (wpAny_field ho hd (x := .int i 0) rfl ?_)
  show wpAny _ _ (seqItems? (.ref l) >>= _) _ _ s
  refine wpAny_bind (wpAny_seqItems hol hdl ?_)
  simp only [Int.toNat_natCast, hx]
  refine wpAny_bind (wpAny_setField ho hd (by simp) (wpAny_pure ⟨x, rfl, hQ _ ?_ (Heap.SameBut.update ..)⟩))
  exact ⟨_, Heap.get?_update_self _ ho (Obj.isFreed_of_fields (Obj.data_mapFields hd _)), (Obj.cls_mapFields ..).trans hc, by
    rw [Obj.data_mapFields hd]; simp [rawInt]⟩

theorem li_end {A : Around} {E : Value → Shared → Prop} {s : Shared} {I l : Addr} {i : Nat} {items : Array Value} {Q : Option Value → Shared → Prop} (hh : A.handled = none) (hit : s.heap.IsListIter I l i) (hl : s.heap.IsList l items) (hx : items[i]? = none)
    (hE : ∀ h' e tk, Heap.ExtBut I s.heap h' → Shared.TypeIs { s with heap := h', toks := tk } (.ref e) "StopIteration" → E (.ref e) { s with heap := h', toks := tk }) : wpAny (model Y.prog Y.w) A (callSpecial? (.ref I) "__next__") Q E s := by
  obtain ⟨o, ho, hc, hd⟩ := id hit
  obtain ⟨ol, hol, _, nl, hdl⟩ := hl
  refine wpAny_callSpecial?_slot (name := Str.ofString "__next__") hit.typeIs slot_listiter_next (wpAny_call_entry slot_listiter_next hit.typeIs entry_listiter_next ?_ (args_listiter_next _))
  show wpAny _ _ (field (.ref I) 0 >>= _) _ _ s
  refine wpAny_bind (wpAny_field ho hd (x := .ref l) rfl ?_)
  show wpAny _ _ (if (Value.ref l == Value.none) = true then _ else _) _ _ s
  rw [if_neg (show ¬ ((Value.ref l == Value.none) = true) from Bool.false_ne_true)]
  show wpAny _ _ (field (.ref I) 1 >>= _) _ _ s
  refine wpAny_bind (wpAny_field ho hd (x := .int i 0) rfl ?_)
  show wpAny _ _ (seqItems? (.ref l) >>= _) _ _ s
  refine wpAny_bind (wpAny_seqItems hol hdl ?_)
  simp only [Int.toNat_natCast, hx]
  refine wpAny_bind (wpAny_rule (wpAny_bind (wpAny_setField ho hd (by simp) ?_)))
  show wpAny _ _ (newExc (.type "StopIteration") [] >>= _) _ _ _
  refine wpAny_bind ?_
  simp only [newExc, newTuple]
  refine wpAny_bind (wpAny_newObj_type ?_ (by size_fits))
  refine wpAny_bind (m := firstArgMember _ _) (wpAny_of_eq (a := Value.none) (by first | rfl | (simp only [firstArgMember]; rfl)) ?_)
  refine wpAny_newObj_type ?_ (by size_fits)
  simp only [raiseNew]
  refine wpAny_bind (wpAny_handled ?_)
  rw [show A.in1.handled = none from hh]
  refine wpAny_bind (wpAny_pure (wpAny_throw ?_))
  exact hE _ _ _ (((Heap.SameBut.update ..).extBut.push _).push _) ⟨_, Heap.get?_push_size _ rfl, rfl⟩

structure FilSt (Y : Law) (F b a I l : Addr) (items : Array Value) (S : Str → Bool) (p : Nat) (h : Heap) : Prop where
  fil : h.get? F = some (filterObj b I)
  bnd : h.get? b = some (boundObj a)
  set : ∃ c, h.SetOf (strKind Y.prog Y.w) a S c
  it : h.IsListIter I l p
  lst : h.IsList l items

theorem FilSt.but {F b a I l : Addr} {items : Array Value} {S : Str → Bool} {p q : Nat} {h h' : Heap} (X : FilSt Y F b a I l items S p h) (hne : F ≠ I ∧ b ≠ I ∧ a ≠ I ∧ l ≠ I) (hk : ∀ c o, c ≠ I → h.get? c = some o → h'.get? c = some o) (hi : h'.IsListIter I l q) : FilSt Y F b a I l items S q h' := by
  obtain ⟨c, o, es, ep, tb, ho, rest⟩ := X.set
  obtain ⟨ol, hol, r⟩ := X.lst
  exact ⟨hk _ _ hne.1 X.fil, hk _ _ hne.2.1 X.bnd, ⟨c, o, es, ep, tb, hk _ _ hne.2.2.1 ho, rest⟩, hi, ⟨ol, hk _ _ hne.2.2.2 hol, r⟩⟩

noncomputable def kept2 (S : Str → Bool) : List Str → List Value → List Value
  | x :: xs, v :: vs => if S x then v :: kept2 S xs vs else kept2 S xs vs
  | _, _ => []

theorem filter_next {A : Around} {F b a I l : Addr} {items : Array Value} {S : Str → Bool} {xs : List Str} (hA : A.handled = none) (hne : F ≠ I ∧ b ≠ I ∧ a ≠ I ∧ l ≠ I) (hit : ∀ (i : Nat) (x : Str), xs[i]? = some x → ∃ t, items[i]? = some (Value.str x t)) (hz : items.size = xs.length) {R : Result → Shared → Prop} :
    ∀ (k p : Nat) (s : Shared), xs.length - p = k → p ≤ xs.length → FilSt Y F b a I l items S p s.heap →
      (match kept2 S (xs.drop p) (items.toList.drop p) with
        | v :: r => ∀ h' tk q, q ≤ xs.length → FilSt Y F b a I l items S q h' → kept2 S (xs.drop q) (items.toList.drop q) = r → (∀ c o, c ≠ I → s.heap.get? c = some o → h'.get? c = some o) → R (.ok (.ret v)) { s with heap := h', toks := tk }
        | [] => ∀ h' e tk, (∀ c o, c ≠ I → s.heap.get? c = some o → h'.get? c = some o) → Shared.TypeIs { s with heap := h', toks := tk } (.ref e) "StopIteration" → R (.error (.ref e)) { s with heap := h', toks := tk }) →
      codeAny (model Y.prog Y.w) A (.builtin "filter.__next__" ⟨[.ref F], []⟩) R s := by
  have hplain : plainId "filter.__next__" = true := by decide +kernel
  intro k
  induction k with
  | zero =>
    intro p s hk hp X h
    have hpe : p = xs.length := by omega
    subst hpe
    rw [List.drop_length] at h
    have h : ∀ h' e tk, (∀ c o, c ≠ I → s.heap.get? c = some o → h'.get? c = some o) → Shared.TypeIs { s with heap := h', toks := tk } (.ref e) "StopIteration" → R (.error (.ref e)) { s with heap := h', toks := tk } := h
    refine codeAny_builtin entry_filter_next ?_
    rw [Around.under_plainId hplain _]
    unfold Builtin.«filter.__next__»
    refine wpAny_bind (m := slotArgs "__next__" 0 ⟨[.ref F], []⟩) (wpAny_of_eq (a := (Value.ref F, [])) rfl ?_)
    refine wpAny_bind (wpAny_field X.fil rfl (x := .ref b) rfl (wpAny_bind (wpAny_field X.fil rfl (x := .ref I) rfl ?_)))
    refine wpAny_bind (li_end hA X.it X.lst (by simp [hz]) fun h' e tk hx hT => ?_)
    exact h h' e tk (fun c o hc e => hx c o hc e) hT
  | succ k ih =>
    intro p s hk hp X h
    have hlt : p < xs.length := by omega
    obtain ⟨t, ht⟩ := hit p xs[p] (by simp)
    have hdx : xs.drop p = xs[p] :: xs.drop (p + 1) := List.drop_eq_getElem_cons hlt
    have hlt2 : p < items.toList.length := by rw [Array.length_toList, hz]; exact hlt
    have hdi : items.toList.drop p = .str xs[p] t :: items.toList.drop (p + 1) := by
      rw [List.drop_eq_getElem_cons hlt2]
      have : items.toList[p]? = some (.str xs[p] t) := by rw [Array.getElem?_toList]; exact ht
      rw [List.getElem?_eq_getElem hlt2] at this
      rw [Option.some.inj this]
    rw [hdx, hdi] at h
    refine codeAny_builtin entry_filter_next ?_
    rw [Around.under_plainId hplain _]
    unfold Builtin.«filter.__next__»
    refine wpAny_bind (m := slotArgs "__next__" 0 ⟨[.ref F], []⟩) (wpAny_of_eq (a := (Value.ref F, [])) rfl ?_)
    refine wpAny_bind (wpAny_field X.fil rfl (x := .ref b) rfl (wpAny_bind (wpAny_field X.fil rfl (x := .ref I) rfl ?_)))
    refine wpAny_bind (li_item X.it X.lst ht fun h' hI' hs' => ?_)
    have X' : FilSt Y F b a I l items S (p + 1) h' := X.but hne (fun c o hc e => (hs'.2 c hc).trans e) hI'
    obtain ⟨c, hS⟩ := X'.set
    have hb1 : (Value.ref b == Value.none || Value.ref b == Value.type "bool") = false := rfl
    simp only [hb1, Bool.false_eq_true, if_false]
    refine wpAny_bind (wpAny_holding (wpAny_bind (Tr.any (bound_call (Y := Y) (s := { s with heap := h' }) X'.bnd hS ?_))))
    refine wpAny_holding (wpAny_truthy_bool ?_)
    cases hSx : S xs[p] with
    | true =>
      simp only [kept2, hSx, if_true] at h
      simp only [if_true]
      exact wpAny_pure (h h' (s.toks + 1) (p + 1) hlt X' rfl fun c o hc e => (hs'.2 c hc).trans e)
    | false =>
      simp only [kept2, hSx, Bool.false_eq_true, if_false] at h
      simp only [Bool.false_eq_true, if_false]
      refine wpAny_pure ⟨plainId_quiet hplain _, ih (p + 1) { s with heap := h', toks := s.toks + 1 } (by omega) hlt X' ?_⟩
      split
      · rename_i v r hkp
        rw [hkp] at h
        intro h'' tk q hq X'' hr hk''
        exact h h'' tk q hq X'' hr fun c o hc e => hk'' c o hc ((hs'.2 c hc).trans e)
      · rename_i hkp
        rw [hkp] at h
        intro h'' e tk hk'' hT
        exact h h'' e tk (fun c o hc e => hk'' c o hc ((hs'.2 c hc).trans e)) hT

end Mine
end

section
open PySem
open Builtin Builtin.ObjectAttr
set_option maxRecDepth 100000
namespace Mine
variable {Y : Law} {n : Nat} {nm : Nm} {σ : Sto}

theorem entry_filter_iter : entryFor table "filter.__iter__" = some Builtin.«dict_keyiterator.__iter__» :=
  entryFor_alias (id' := "dict_keyiterator.__iter__") (by kernel_rfl) (by first | rfl | decide +kernel | (unfold String.splitOn; simp +decide [String.splitOnAux])) (by decide +kernel) (by kernel_rfl)
theorem fil_no_len : typeLookup (.type "filter") (Str.ofString "__len__") = pure none := fil_lookup (by kernel_rfl)
theorem fil_no_hint : typeLookup (.type "filter") (Str.ofString "__length_hint__") = pure none := fil_lookup (by kernel_rfl)

noncomputable def FilAt (Y : Law) (F b a I l : Addr) (items : Array Value) (S : Str → Bool) (xs : List Str) (i : Nat) (h : Heap) : Prop :=
  ∃ p, p ≤ xs.length ∧ FilSt Y F b a I l items S p h ∧ kept2 S (xs.drop p) (items.toList.drop p) = (kept2 S xs items.toList).drop i

theorem fil_walks {A : Around} {F b a I l : Addr} {items : Array Value} {S : Str → Bool} {xs : List Str} (hA : A.handled = none) (hne : F ≠ I ∧ b ≠ I ∧ a ≠ I ∧ l ≠ I) (hit : ∀ (i : Nat) (x : Str), xs[i]? = some x → ∃ t, items[i]? = some (Value.str x t)) (hz : items.size = xs.length) :
    Walks Y.prog Y.w A F [F, b, a, I, l] [I] (kept2 S xs items.toList).length (fun i v => (kept2 S xs items.toList)[i]? = some v) (FilAt Y F b a I l items S xs) where
  sub := fun c hc => by simp at hc; simp [hc]
  frame := fun i h h' st hk => by
    obtain ⟨p, hp, X, e⟩ := st
    obtain ⟨c, o, es, ep, tb, ho, rest⟩ := X.set
    obtain ⟨ol, hol, r⟩ := X.lst
    obtain ⟨oi, hoi, ri⟩ := X.it
    exact ⟨p, hp, ⟨hk _ (by simp) _ X.fil, hk _ (by simp) _ X.bnd, ⟨c, o, es, ep, tb, hk _ (by simp) _ ho, rest⟩, ⟨oi, hk _ (by simp) _ hoi, ri⟩, ⟨ol, hk _ (by simp) _ hol, r⟩⟩, e⟩
  item := fun i s Q E hi st hQ => by
    obtain ⟨p, hp, X, e⟩ := st
    have hT : s.TypeIs (.ref F) "filter" := ⟨_, X.fil, rfl⟩
    unfold pyNext
    refine wpAny_bind (wpAny_attempt (wpAny_callSpecial?_slot (name := Str.ofString "__next__") hT slot_filter_next (wpAny_call (codeAny_of_tree ?_))))
    show wpAny _ A.in1 (do checkBuiltinCall "filter.__next__" ⟨[.ref F], []⟩; again (.builtin "filter.__next__" ⟨[.ref F], []⟩)) _ _ s
    refine wpAny_bind (slot_filter_next.check _ _ _ _ _ _ _ _ hT (args_filter_next _) (wpAny_pure ⟨plainId_quiet slot_filter_next.plain _, filter_next hA hne hit hz (xs.length - p) p s rfl hp X ?_⟩))
    have hd : (kept2 S xs items.toList).drop i = (kept2 S xs items.toList)[i] :: (kept2 S xs items.toList).drop (i + 1) := List.drop_eq_getElem_cons hi
    rw [e, hd]
    intro h' tk q hq X' hr hk
    refine wpAny_pure (hQ _ h' tk (by simp) ⟨q, hq, X', hr⟩ fun c o hc e => hk c o (by simpa using hc) e)
  done := fun s Q E st hQ => by
    obtain ⟨p, hp, X, e⟩ := st
    have hT : s.TypeIs (.ref F) "filter" := ⟨_, X.fil, rfl⟩
    unfold pyNext
    refine wpAny_bind (wpAny_attempt (wpAny_callSpecial?_slot (name := Str.ofString "__next__") hT slot_filter_next (wpAny_call (codeAny_of_tree ?_))))
    show wpAny _ A.in1 (do checkBuiltinCall "filter.__next__" ⟨[.ref F], []⟩; again (.builtin "filter.__next__" ⟨[.ref F], []⟩)) _ _ s
    refine wpAny_bind (slot_filter_next.check _ _ _ _ _ _ _ _ hT (args_filter_next _) (wpAny_pure ⟨plainId_quiet slot_filter_next.plain _, filter_next hA hne hit hz (xs.length - p) p s rfl hp X ?_⟩))
    rw [e, List.drop_length]
    intro h' e' tk hk hT'
    refine wpAny_bind (wpAny_isInstance (T := "StopIteration") (b := true) hT' isSubtype_stop ?_)
    exact wpAny_pure (hQ h' tk fun c o hc e => hk c o (by simpa using hc) e)
  self := fun i s Q E st h => by
    obtain ⟨p, hp, X, e⟩ := st
    have hT : s.TypeIs (.ref F) "filter" := ⟨_, X.fil, rfl⟩
    refine wpAny_pyIter_slot hT slot_filter_iter (wpAny_call_entry slot_filter_iter hT entry_filter_iter ?_ (args_filter_iter _))
    show wpAny _ _ (ret (.ref F)) _ _ s
    exact wpAny_pure ⟨_, rfl, "filter", _, hT, slot_filter_next.lookup, h⟩

theorem extend_fil {A : Around} {F : Addr} {fp wr : List Addr} {G : Array GenState → Array GenState → Prop} {m : Nat} {P : Nat → Value → Prop} {St : Nat → Shared → Prop} {s : Shared} {R : Result → Shared → Prop} (W : WalksS Y.prog Y.w A.in1 F fp wr G m P St) (hT : ∀ i s, St i s → s.TypeIs (.ref F) "filter")
    (S : Addr) (c₀ : Nat) (hst : St 0 s) (hSf : S ∉ fp) (hI : F ∈ fp) (hS : s.heap.get? S = some { cls := .type "list", data := .seq #[] c₀ })
    (hR : ∀ s' acc' c', Moved (S :: wr) G s s' → s'.heap.get? S = some { cls := .type "list", dict := none, data := .seq acc' c', slots := #[] } → ItemsOf P acc' m → R (.ok (.ret .none)) s') (hn : m ≤ sizeLine) :
    wpAny (model Y.prog Y.w) A.in1 (Builtin.List.listExtendWith (.ref S) (.ref F) .none)
      (fun fin s' => match fin with | .done f => R (.ok f) s' | .again c' => c'.quiet = true ∧ codeAny (model Y.prog Y.w) A c' R s') (fun e s' => R (.error e) s') s := by
  have hSI : S ≠ F := fun e => hSf (e ▸ hI)
  unfold Builtin.List.listExtendWith
  refine wpAny_bind (wpAny_typeOf (hT 0 _ hst) ?_)
  have h1 : Builtin.List.listSameRef (.ref S) (.ref F) = false := by simp [Builtin.List.listSameRef, hSI]
  have h2 : (Value.type "filter" == Value.type "list") = false := by decide
  have h3 : (Value.type "filter" == Value.type "tuple") = false := by decide
  simp only [h1, h2, h3, Bool.or_false, Bool.false_eq_true, if_false]
  refine wpAny_bind (W.self 0 _ _ _ hst ?_)
  refine wpAny_bind (wpAny_holding ?_)
  unfold Builtin.List.listLengthHint
  refine wpAny_bind (wpAny_specialOf (hT 0 _ hst) fil_no_len ?_)
  show wpAny _ A.in1 (specialOf (Value.ref F) (Str.ofString "__length_hint__") >>= _) _ _ _
  refine wpAny_bind (wpAny_specialOf (hT 0 _ hst) fil_no_hint ?_)
  refine wpAny_pure ?_
  show wpAny _ A.in1 (rule "list.extend.makes-room" >>= fun _ => Builtin.List.listTouch (.ref S) >>= fun _ => again (.builtin "list.extend.loop" ⟨[.ref S, .ref F, .none], []⟩)) _ _ _
  refine wpAny_bind (wpAny_rule ?_)
  refine wpAny_bind ?_
  show wpAny _ A.in1 (updateSeq S (·.push .none) >>= fun _ => updateSeq S (·.pop)) _ _ _
  refine wpAny_bind (wpAny_updateSeq hS rfl ?_)
  have hS₂ := Heap.get?_update_self (Obj.mapSeq (·.push Value.none)) hS rfl
  refine wpAny_updateSeq (hz := by seq_fits) hS₂ rfl ?_
  have hS₃ := Heap.get?_update_self (Obj.mapSeq (·.pop)) hS₂ rfl
  have oth : ∀ b o, b ≠ S → s.heap.get? b = some o → ((s.heap.update S (Obj.mapSeq (·.push Value.none))).update S (Obj.mapSeq (·.pop))).get? b = some o :=
    fun b o hb e => (Heap.get?_update_other _ _ (Ne.symm hb)).trans ((Heap.get?_update_other _ _ (Ne.symm hb)).trans e)
  refine wpAny_pure ⟨plainId_quiet PySem.F.plain_extend_loop _, codeAny_extend_loopS W hn _ hSf _ m 0 _ _ _ rfl (Nat.zero_le _)
    (W.frame 0 s _ s.toks hst (Nat.le_refl _) fun b hb o e => oth b o (fun h => hSf (h ▸ hb)) e) hS₃ (ItemsOf.nil P) fun s' acc' c' hm hS' hacc => ?_⟩
  exact hR s' acc' c' (Moved.trans W.gtrans ((Moved.refl W.grefl).then_heap (Nat.le_refl _) fun b o hb e => oth b o (fun h => hb (h ▸ List.mem_cons_self)) e) hm) hS' hacc

theorem call_list_fil {A : Around} {F : Addr} {fp wr : List Addr} {m : Nat} {P : Nat → Value → Prop} {St : Nat → Heap → Prop} {s : Shared} {Q : Value → Shared → Prop} (W : Walks Y.prog Y.w A.in1.in1 F fp wr m P St) (hT : ∀ i h, St i h → ∃ o, h.get? F = some o ∧ o.cls = .type "filter")
    (hst : St 0 s.heap) (hfp : ∀ b ∈ fp, b < s.heap.objs.size) (hI : F ∈ fp)
    (hQ : ∀ h' tk acc' c', (∀ b o, b ∉ wr → s.heap.get? b = some o → h'.get? b = some o) → h'.get? s.heap.objs.size = some (listO acc' c') → ItemsOf P acc' m → Q (.ref s.heap.objs.size) { s with heap := h', toks := tk }) (hn : m ≤ sizeLine) :
    Tr Y A (call (.type "list") [.ref F]) s Q := by
  have hSf : s.heap.objs.size ∉ fp := fun hm => Nat.lt_irrefl _ (hfp _ hm)
  refine callType_codes (Q₁ := fun obj s₁ => obj = .ref s.heap.objs.size ∧ s₁ = { s with heap := s.heap.push { cls := .type "list", data := .seq #[] } }) PySem.F.called_list (PySem.F.typeCall_list_1 _) PySem.F.entry_list_init
    (code_list_new _ ⟨rfl, rfl⟩) fun obj s₁ h₁ => ?_
  obtain ⟨rfl, rfl⟩ := h₁
  have hS : (s.heap.push { cls := .type "list", data := .seq #[] }).get? s.heap.objs.size = some { cls := .type "list", data := .seq #[] } := Heap.get?_push_size _ rfl
  have hst1 : St 0 (s.heap.push { cls := .type "list", data := .seq #[] }) := W.frame 0 s.heap _ hst fun b _ o e => Heap.get?_push_of_some _ e
  refine ⟨⟨_, hS, rfl⟩, PySem.F.args_list_init_2 _ _, ?_⟩
  show wpAny _ A.in1.in1 (do let old ← Builtin.List.listItems (.ref s.heap.objs.size); Builtin.List.listUpdate (.ref s.heap.objs.size) (fun _ => #[]); letGo old.toList.reverse; Builtin.List.listExtendWith (.ref s.heap.objs.size) (.ref F) .none) _ _ _
  refine wpAny_bind ?_
  unfold Builtin.List.listItems
  refine wpAny_bind (wpAny_seqItems hS rfl (wpAny_pure ?_))
  show wpAny _ A.in1.in1 (updateSeq s.heap.objs.size (fun _ => #[]) >>= fun _ => letGo (#[] : Array Value).toList.reverse >>= fun _ => Builtin.List.listExtendWith (.ref s.heap.objs.size) (.ref F) .none) _ _ _
  refine wpAny_bind (wpAny_updateSeq hS rfl ?_)
  have hS₂ := Heap.get?_update_self (Obj.mapSeq (fun _ => (#[] : Array Value))) hS rfl
  have oth : ∀ b o, b ≠ s.heap.objs.size → (s.heap.push { cls := .type "list", data := .seq #[] }).get? b = some o → ((s.heap.push { cls := .type "list", data := .seq #[] }).update s.heap.objs.size (Obj.mapSeq (fun _ => (#[] : Array Value)))).get? b = some o :=
    fun b o hb e => (Heap.get?_update_other _ _ (Ne.symm hb)).trans e
  refine wpAny_bind (wpAny_letGo ?_)
  refine extend_fil (A := A.in1) W.toS (fun i s st => hT i s.heap st) s.heap.objs.size _ (W.frame 0 _ _ hst1 fun b hb o e => oth b o (fun h => hSf (h ▸ hb)) e) hSf hI hS₂ (fun s' acc' c' hm hS' hacc => ?_) hn
  obtain ⟨h', g', d', tk', os'⟩ := s'
  have eg : g' = s.gens := hm.gens
  have ed : d' = s.drawn := hm.drawn
  have eo : os' = s.os := hm.os
  subst eg; subst ed; subst eo
  refine ⟨rfl, hQ h' tk' acc' c' (fun b o hb e => ?_) hS' hacc⟩
  have hbs : b ≠ s.heap.objs.size := fresh_old e
  exact hm.heap b o (by simp only [List.mem_cons, not_or]; exact ⟨hbs, hb⟩) (oth b o hbs (Heap.get?_push_of_some _ e))

end Mine
end

section
open PySem
namespace Mine
variable {Y : Law} {n : Nat} {nm : Nm} {σ : Sto}

theorem kept2_rep {g : Gh} (S : Str → Bool) : ∀ {xs : List Str} {vs : List Value}, RepAll Y g (xs.map D.str) vs → RepAll Y g ((xs.filter S).map D.str) (kept2 S xs vs)
  | [], vs, h => by simp only [List.map_nil, RepAll] at h; subst h; simp [kept2, RepAll]
  | x :: xs, vs, h => by
    simp only [List.map_cons, RepAll] at h
    obtain ⟨v, r, rfl, h1, h2⟩ := h
    unfold kept2
    cases hS : S x with
    | true =>
      simp only [List.filter_cons, hS, if_true, List.map_cons, RepAll]
      exact ⟨v, _, rfl, h1, kept2_rep S h2⟩
    | false =>
      simp only [List.filter_cons, hS, Bool.false_eq_true, if_false]
      exact kept2_rep S h2

theorem listO_of {g : Gh} {s : Shared} {d : D} {xs : List D} {v : Value} (hg : Le g (Y.see s.heap)) (r : Rep Y g (.list xs) v) : ∃ a its j, v = .ref a ∧ s.heap.get? a = some (listO its j) ∧ RepAll Y g xs its.toList := by
  simp only [Rep] at r
  obtain ⟨a, its, rfl, ⟨j, la⟩, ra⟩ := r
  exact ⟨a, its, j, rfl, see_raw (hg _ _ la) (.seq rfl), ra⟩

noncomputable def keepIn (ys xs : List Str) : List Str := xs.filter fun x => ys.any (· == x)

theorem Ev_filter {nl nf ns : Str} {p1 p2 p3 p4 p5 p6 p7 : Pos} {eX eZ : Expr} {xs ys : List Str} (hl : nm.lookup nl = some .globalImplicit) (hf : nm.lookup nf = some .globalImplicit) (hs : nm.lookup ns = some .globalImplicit)
    (gl : Y.glo nl = some (.type "list")) (gf : Y.glo nf = some (.type "filter")) (gs : Y.glo ns = some (.type "set")) (dl : (nl == ("__debug__" : Str)) = false) (df : (nf == ("__debug__" : Str)) = false) (ds : (ns == ("__debug__" : Str)) = false)
    (hX : Ev Y (n + 3) nm σ eX (.list (ys.map D.str))) (hZ : Ev Y (n + 3) nm σ eZ (.list (xs.map D.str))) (zx : xs.length ≤ 1000) (zy : ys.length ≤ 1000)
    (sX : ∀ env, starEach [eX] env = [(false, eval eX env)])
    (sF : ∀ env, starEach [Expr.Attribute (.Call (.Name ns p1) [eX] [] p2) (Str.ofString "__contains__") p3, eZ] env = [(false, eval (Expr.Attribute (.Call (.Name ns p1) [eX] [] p2) (Str.ofString "__contains__") p3) env), (false, eval eZ env)])
    (sZ : ∀ env, starEach [eZ] env = [(false, eval eZ env)])
    (sL : ∀ env, starEach [Expr.Call (.Name nf p4) [Expr.Attribute (.Call (.Name ns p1) [eX] [] p2) (Str.ofString "__contains__") p3, eZ] [] p5] env = [(false, eval (Expr.Call (.Name nf p4) [Expr.Attribute (.Call (.Name ns p1) [eX] [] p2) (Str.ofString "__contains__") p3, eZ] [] p5) env)])
    (hbase : ∀ env, attributeBase (.Call (.Name ns p1) [eX] [] p2) (Str.ofString "__contains__") env (eval (.Call (.Name ns p1) [eX] [] p2) env) = eval (.Call (.Name ns p1) [eX] [] p2) env) :
    Ev Y (n + 3) nm σ (.Call (.Name nl p6) [.Call (.Name nf p4) [.Attribute (.Call (.Name ns p1) [eX] [] p2) (Str.ofString "__contains__") p3, eZ] [] p5] [] p7) (.list ((keepIn ys xs).map D.str)) := by
  intro A env k g s hA hE F
  have items1 : ∀ {e : Expr} {s : Shared} {Q : List Value → Shared → Prop} {pos : Pos}, starEach [e] env = [(false, eval e env)] → Tr Y A (eval e env) s (fun v s' => Q [v] s') → Tr Y A (spliced (backTo pos (starEach [e] env))) s Q := by
    intro e s Q pos hst h
    refine wpAny_items_cons (h.mono fun v s' h' => ?_) (by rw [hst]; rfl)
    exact wpAny_items_nil h'
  refine wpAny_Call_NameR (global_ok hE hl gl F.rawTop dl ?_)
  refine callWith_ok (.type "list") (fun env => by rw [sL]; rfl) (items1 (sL env) ?_)
  refine wpAny_Call_NameR (global_ok hE hf gf F.rawTop df ?_)
  refine callWith_ok (.type "filter") (fun env => by rw [sF]; rfl) ?_
  refine wpAny_items_cons ?_ (by rw [sF, sZ])
  -- set(..).__contains__
  refine eval_attr (hbase env) ?_
  refine wpAny_Call_NameR (global_ok hE hs gs F.rawTop ds ?_)
  refine callWith_ok (.type "set") (fun env => by rw [sX]; rfl) (items1 (sX env) ((hX A env k g s hA hE F).mono fun vX s₁ h₁ => ?_))
  obtain ⟨K₁, r₁⟩ := h₁
  have F₁ := F.grows K₁
  refine ⟨F₁.rawTop, ?_⟩
  obtain ⟨lx, itx, jx, rfl, elx, rax⟩ := listO_of (d := .none) F₁.leg r₁
  have zlx := RepAll.length rax
  rw [Array.length_toList, List.length_map] at zlx
  show Tr Y A (call (.type "set") [.ref lx]) s₁ _
  refine call_set_texts (xs := ys) hA.1 elx (fun i x hx => ?_) zlx (by unfold scanBound; omega) fun h₂ tk₂ c₂ hS₂ hk₂ => ?_
  · obtain ⟨t, ht⟩ := strs_at rax i x hx
    exact ⟨t, by rw [← Array.getElem?_toList]; exact ht⟩
  have K₂ : Kp Y s₁ { s₁ with heap := h₂, toks := tk₂ } := keeps_same hk₂
  have F₂ := F₁.grows K₂
  obtain ⟨oS, esS, epS, tbS, hoS, hexS, hdS, restS⟩ := id hS₂
  refine set_contains_attr (s := { s₁ with heap := h₂, toks := tk₂ }) hoS hexS.1 hexS.2.1 hdS fun tk₃ => ?_
  have K₃ : Kp Y { s₁ with heap := h₂, toks := tk₂ } { s₁ with heap := h₂.push (boundObj s₁.heap.objs.size), toks := tk₃ } := keeps_same (le_push _ _)
  have F₃ := F₂.grows K₃
  have eb₃ : (h₂.push (boundObj s₁.heap.objs.size)).get? h₂.objs.size = some (boundObj s₁.heap.objs.size) := Heap.get?_push_size _ rfl
  have ho₃ : (h₂.push (boundObj s₁.heap.objs.size)).get? s₁.heap.objs.size = some oS := Heap.get?_push_of_some _ hoS
  -- the other list
  refine items1 (sZ env) ((hZ A env k _ _ hA hE F₃).mono fun vZ s₄ h₄ => ?_)
  obtain ⟨K₄, r₄⟩ := h₄
  have F₄ := F₃.grows K₄
  refine ⟨F₄.rawTop, ?_⟩
  obtain ⟨lz, itz, jz, rfl, elz, raz⟩ := listO_of (d := .none) F₄.leg r₄
  have zlz := RepAll.length raz
  rw [Array.length_toList, List.length_map] at zlz
  have eb₄ := keeps_raw K₄ eb₃ (.ne nofun)
  have ho₄ := keeps_raw K₄ ho₃ (.ne (by rw [hexS.1]; exact nofun))
  show Tr Y A (call (.type "filter") [.ref h₂.objs.size, .ref lz]) s₄ _
  refine call_filter (xs := itz) ⟨_, elz, rfl, jz, rfl⟩ fun h₅ eF hI₅ hsz₅ hk₅ => ?_
  have K₅ : Kp Y s₄ { s₄ with heap := h₅ } := keeps_same hk₅
  have F₅ := F₄.grows K₅
  refine ⟨F₅.rawTop, ?_⟩
  show Tr Y A (call (.type "list") [.ref (s₄.heap.objs.size + 1)]) { s₄ with heap := h₅ } _
  have hnone : s₄.heap.get? s₄.heap.objs.size = none := size_none _
  have hlive : ∀ b o, s₄.heap.get? b = some o → b ≠ s₄.heap.objs.size := fun b o e h => by rw [h, hnone] at e; cases e
  have hXs : FilSt Y (s₄.heap.objs.size + 1) h₂.objs.size s₁.heap.objs.size s₄.heap.objs.size lz itz (fun x => ys.any (· == x)) 0 h₅ :=
    ⟨eF, hk₅ _ _ eb₄, ⟨c₂, oS, esS, epS, tbS, hk₅ _ _ ho₄, hexS, hdS, restS⟩, hI₅, ⟨_, hk₅ _ _ elz, rfl, jz, rfl⟩⟩
  have hne : s₄.heap.objs.size + 1 ≠ s₄.heap.objs.size ∧ h₂.objs.size ≠ s₄.heap.objs.size ∧ s₁.heap.objs.size ≠ s₄.heap.objs.size ∧ lz ≠ s₄.heap.objs.size := ⟨Nat.succ_ne_self _, hlive _ _ eb₄, hlive _ _ ho₄, hlive _ _ elz⟩
  have W := fil_walks (Y := Y) (A := A.in1.in1) (S := fun x => ys.any (· == x)) (xs := xs) hA.1 hne (fun i x hx => by
    obtain ⟨t, ht⟩ := strs_at raz i x hx
    exact ⟨t, by rw [← Array.getElem?_toList]; exact ht⟩) zlz
  have klen : ∀ (S : Str → Bool) (xs : List Str) (vs : List Value), (kept2 S xs vs).length ≤ xs.length := by
    intro S xs
    induction xs with
    | nil => intro vs; simp [kept2]
    | cons x xs ih =>
      intro vs
      cases vs with
      | nil => simp [kept2]
      | cons v vs =>
        unfold kept2
        have := ih vs
        split <;> simp <;> omega
  refine call_list_fil (s := { s₄ with heap := h₅ }) W (fun i h st => by obtain ⟨p, _, X, _⟩ := st; exact ⟨_, X.fil, rfl⟩) ⟨0, Nat.zero_le _, hXs, by simp⟩ ?_ (by simp) (fun h₆ tk₆ acc c₆ hk₆ eL hacc => ?_) (by have := klen (fun x => ys.any (· == x)) xs itz.toList; exact Nat.le_trans (by omega) (show 1000 ≤ sizeLine by decide))
  · intro b hb
    have hlt : ∀ o, h₅.get? b = some o → b < h₅.objs.size := fun o e => Heap.lt_size e
    simp only [List.mem_cons, List.not_mem_nil, or_false] at hb
    rcases hb with rfl | rfl | rfl | rfl | rfl
    · exact hlt _ eF
    · exact hlt _ (hk₅ _ _ eb₄)
    · exact hlt _ (hk₅ _ _ ho₄)
    · obtain ⟨o, e, _⟩ := hI₅; exact hlt _ e
    · exact hlt _ (hk₅ _ _ elz)
  have hk46 : Le s₄.heap.get? h₆.get? := fun b o e => hk₆ b o (by simpa using hlive b o e) (hk₅ b o e)
  have K₆ : Kp Y s₄ { s₄ with heap := h₆, toks := tk₆ } := keeps_same hk46
  refine post_trans K₁ (post_trans K₂ (post_trans K₃ (post_trans K₄ ⟨K₆, ?_⟩)))
  have hacc' : acc.toList = kept2 (fun x => ys.any (· == x)) xs itz.toList := by
    obtain ⟨hsz, hat⟩ := hacc
    refine List.ext_getElem? fun j => ?_
    cases hj : acc.toList[j]? with
    | some v => rw [Array.getElem?_toList] at hj; rw [hat j v hj]
    | none =>
      have : acc.toList.length ≤ j := List.getElem?_eq_none_iff.mp hj
      rw [Array.length_toList, hsz] at this
      rw [List.getElem?_eq_none this]
  simp only [Rep]
  refine ⟨_, acc, rfl, ⟨c₆, grow_new ?_ eL (.seq rfl)⟩, ?_⟩
  · show s₄.heap.get? h₅.objs.size = none
    rw [hsz₅]; exact get_above (by omega)
  · rw [hacc']
    exact RepAll.mono (le_grow F₄.leg) _ _ (kept2_rep _ raz)

end Mine
end

section
open PySem
namespace Mine
variable {Y : Law} {n : Nat} {nm : Nm} {σ : Sto}

section
variable {o : Expr} {p : Pos} {ua rl dl rr : D} {fi fa fb : Addr}
theorem Ev_ua (hY : EntOk Y fi fa fb) (ho : Ev Y n nm σ o (.ent ua rl dl rr)) (hr : NoRaw ua) (hbase : ∀ env, attributeBase o (Str.ofString "useragents") env (eval o env) = eval o env) : Ev Y n nm σ (.Attribute o (Str.ofString "useragents") p) ua :=
  Ev_ent (ua := ua) (rl := rl) (dl := dl) (rr := rr) hY ho (by simp [entNames]) hr hbase
theorem Ev_rl (hY : EntOk Y fi fa fb) (ho : Ev Y n nm σ o (.ent ua rl dl rr)) (hr : NoRaw rl) (hbase : ∀ env, attributeBase o (Str.ofString "rulelines") env (eval o env) = eval o env) : Ev Y n nm σ (.Attribute o (Str.ofString "rulelines") p) rl :=
  Ev_ent (ua := ua) (rl := rl) (dl := dl) (rr := rr) hY ho (by simp [entNames]) hr hbase
theorem Ev_dl (hY : EntOk Y fi fa fb) (ho : Ev Y n nm σ o (.ent ua rl dl rr)) (hr : NoRaw dl) (hbase : ∀ env, attributeBase o (Str.ofString "delay") env (eval o env) = eval o env) : Ev Y n nm σ (.Attribute o (Str.ofString "delay") p) dl :=
  Ev_ent (ua := ua) (rl := rl) (dl := dl) (rr := rr) hY ho (by simp [entNames]) hr hbase
theorem Ev_rr (hY : EntOk Y fi fa fb) (ho : Ev Y n nm σ o (.ent ua rl dl rr)) (hr : NoRaw rr) (hbase : ∀ env, attributeBase o (Str.ofString "req_rate") env (eval o env) = eval o env) : Ev Y n nm σ (.Attribute o (Str.ofString "req_rate") p) rr :=
  Ev_ent (ua := ua) (rl := rl) (dl := dl) (rr := rr) hY ho (by simp [entNames]) hr hbase
end

noncomputable def Small : D → Prop
  | .none => True
  | .int _ => True
  | .str _ => True
  | _ => False
theorem Small.noRaw {d : D} (h : Small d) : NoRaw d := by cases d <;> simp_all [Small, NoRaw]
noncomputable def isNoneD : D → Bool
  | .none => true
  | _ => false
noncomputable def pickD (a b : D) : D := match b with
  | .none => a
  | _ => b
theorem op_is_small {d : D} (h : Small d) : Op2 Y n (compareOp .Is) d .none (.bool (isNoneD d)) := by
  cases d <;> simp only [Small] at h
  · exact op_is_none_none
  · exact op_is_int_none
  · exact op_is_str_none
theorem Ev_pick {e a b : Expr} {p1 p2 p3 : Pos} {k : Nat} {d1 d2 : D} (h2 : Small d2) (he : Ev Y n nm σ e d2) (ha : Ev Y n nm σ a d1) (hb : Ev Y n nm σ b d2) (hm : behindInMarks .Is (.Constant .none k p1) = false) :
    Ev Y n nm σ (.IfExp (.Compare e [.Is] [.Constant .none k p1] p2) a b p3) (pickD d1 d2) := by
  refine Ev_if (EvT_cmp he Ev_none (op_is_small h2) hm) (fun h => ?_) fun h => ?_
  · cases d2 <;> simp only [Small] at h2 <;> simp_all [isNoneD, pickD]
  · cases d2 <;> simp only [Small] at h2 <;> simp_all [isNoneD, pickD]

noncomputable def entD (ua : List Str) (rl : List D) (dl rr : D) : D := .ent (.list (ua.map .str)) (.list rl) dl rr

end Mine
end

section
open PySem
namespace Mine

structure Base (w : World) (h₁ : Heap) (mg mb : Str → Option Value) (K : W.Frag) (code tab : Addr) : Prop where
  KX : K.In h₁
  kt : K.lookup tab = none
  tabs : W.CodeHd h₁ code tab
  tab0 : h₁.get? tab = some (W.tabObj #[])
  g : h₁.Ns mainGlobals mg
  b : h₁.Ns builtinsNs mb
  nolimit : h₁.NoLimit
  builtins : ∀ x : Str, x ≠ "__name__" → mb x = bootBuiltins x
  bmain : ∃ bm ob, mg "__builtins__" = some (.ref bm) ∧ bm ≠ builtinsNs ∧ h₁.get? bm = some ob ∧ ob.cls = .type "module" ∧ ob.dict = some builtinsNs ∧ ob.data = .plain

noncomputable def topOf (h₁ : Heap) (tab : Addr) : Gh := fun b => if b = tab then none else h₁.get? b
theorem topOf_ne {h₁ : Heap} {tab b : Addr} (h : b ≠ tab) : topOf h₁ tab b = h₁.get? b := by simp [topOf, h]
theorem ns_top {h₁ h : Heap} {tab a : Addr} {m} (e : h₁.get? tab = some (W.tabObj #[])) (x : h₁.Ns a m) (k : Le (topOf h₁ tab) h.get?) : h.Ns a m := by
  obtain ⟨o, es, ep, e', d, r⟩ := x
  refine ⟨o, es, ep, k _ _ ?_, d, r⟩
  rw [topOf_ne (fun h => by rw [h, e] at e'; cases e'; cases d)]; exact e'

noncomputable def lawOf (prog : Program) (w : World) (h₁ : Heap) (mg mb : Str → Option Value) (K : W.Frag) (code tab cls : Addr) (B : Base w h₁ mg mb K code tab) (lam : LamC) (lams : List (Pos × Str)) : Law where
  prog := prog
  w := w
  top := topOf h₁ tab
  cls := cls
  tab := tab
  topT := by simp [topOf]
  lam := lam
  code := code
  mg := mg
  lams := lams
  codeOk := fun h k => by
    have hg := ns_top B.tab0 B.g k
    refine ⟨?_, hg, ?_⟩
    · obtain ⟨o, vs, file, tf, flags, tg, inF, text, tt, e, c, d, r1, r2, r3, r4, r5, r6, ne⟩ := B.tabs
      exact ⟨o, vs, file, tf, flags, tg, inF, text, tt, k _ _ (by rw [topOf_ne ne]; exact e), c, d, r1, r2, r3, r4, r5, r6, ne⟩
    · obtain ⟨bm, ob, e1, e2, e3, e4, e5, e6⟩ := B.bmain
      have h1 : bm ≠ mainGlobals := fun h => by
        obtain ⟨o, es, ep, e', d, _⟩ := B.g
        rw [← h, e3] at e'; cases e'; rw [e6] at d; cases d
      have h2 : bm ≠ tab := fun h => by
        have := B.tab0
        rw [← h, e3] at this; cases this; cases e6
      exact ⟨bm, ob, e1, e2, h1, h2, k _ _ (by rw [topOf_ne h2]; exact e3), e4, e5, e6⟩
  glo := fun x => match mg x with | some v => some v | none => mb x
  gloOk := fun h k f v hv => by
    refine ⟨mg, ns_top B.tab0 B.g k, ?_⟩
    cases hm : mg f with
    | some u => rw [hm] at hv; exact .inl hv
    | none => rw [hm] at hv; exact .inr ⟨rfl, mb, ns_top B.tab0 B.b k, hv⟩
  nolimit := fun h k => by
    obtain ⟨mc, h1, h2⟩ := B.nolimit
    exact ⟨mc, ns_top B.tab0 h1 k, h2⟩

section
variable {prog : Program} {w : World} {h₁ : Heap} {mg mb : Str → Option Value} {K : W.Frag} {code tab cls : Addr} {B : Base w h₁ mg mb K code tab} {lam : LamC} {lams : List (Pos × Str)}

theorem top_K {a : Addr} {o : Obj} (B : Base w h₁ mg mb K code tab) (e : K.lookup a = some o) : topOf h₁ tab a = some o := by
  rw [topOf_ne (fun h => by rw [h, B.kt] at e; cases e)]
  exact B.KX _ _ e
theorem law_K (B : Base w h₁ mg mb K code tab) {h : Heap} (k : Le (topOf h₁ tab) h.get?) : K.In h := fun a o e => k _ _ (top_K B e)

theorem rec_K (B : Base w h₁ mg mb K code tab) {h : Heap} (k : Le (topOf h₁ tab) h.get?) {c : Addr} {o : Obj} {vs : Array Value} {q : Str} {t : Tok} (e : K.lookup c = some o) (d : o.data = .fields vs) (hv : vs[1]? = some (.str q t)) : h.CodeRec (.ref c) q :=
  ⟨c, o, vs, t, rfl, law_K B k _ _ e, d, hv⟩

theorem entOk_K {fi fa fb N : Addr} {oi : Obj} {fdi : FuncData} {body : List Stmt} {nm q : Str} {bs : List Value} {sn : List Str} {sub : List Value} {ab : Bool} {col : Option Bool} {dd : Option Addr} {k0 k1 k2 k3 k5 : Option Value} {newId : String} {on : Obj} {es : Array DictEntry} {ep : Nat} {oa ob : Obj}
    (h1 : W.makesIn K cls = true) (h2 : W.findIn K (.ref cls) "__init__" = some (some (.ref fi))) (h3 : W.typeIn K (.ref fi) = some (.type "function"))
    (h4 : K.lookup fi = some oi) (h5 : oi.data = .func fdi) (h6 : FnOk fdi [Str.ofString "self"] body) (h7 : InitBody body) (h8 : fdi.closure = []) (h9 : fdi.scope.names = [(Str.ofString "self", NameKind.local)])
    {cc : Addr} {oc : Obj} {vs : Array Value} {t : Tok} (h10 : fdi.code = .ref cc) (h11 : K.lookup cc = some oc) (h12 : oc.data = .fields vs) (h13 : vs[1]? = some (.str fdi.qualname t))
    (h14 : K.lookup cls = some (excClassObj nm q cls N bs [.type "object"] true sn sub ab col dd k0 k1 k2 k3 k5 newId)) (h15 : K.lookup N = some on) (h16 : on.data = .dict es ep) (h17 : StrKeys es)
    (h18 : NsOk (nsFind es) fa fb) (h19 : K.lookup fa = some oa) (h20 : oa.cls = .type "function") (h21 : K.lookup fb = some ob) (h22 : ob.cls = .type "function") :
    EntOk (lawOf prog w h₁ mg mb K code tab cls B lam lams) fi fa fb where
  makes := fun h k => W.makes_of (law_K B k) h1
  initL := fun h k => W.looks_findIn (law_K B k) h2
  initB := fun h self k => W.bind_fn (law_K B k) self h3
  init := ⟨oi, fdi, body, top_K B h4, h5, h6, h7, h8, fun x hx => by rw [h9] at hx; simp at hx, fun h k => h10 ▸ rec_K B k h11 h12 h13, h9⟩
  cls := fun h k => by
    have X := law_K B k
    exact ⟨nm, q, N, bs, sn, sub, ab, col, dd, k0, k1, k2, k3, k5, newId, nsFind es, X _ _ h14, ⟨on, es, ep, X _ _ h15, h16, h17, fun _ => rfl⟩, h18, ⟨oa, X _ _ h19, h20⟩, ob, X _ _ h21, h22⟩

theorem mg_K (B : Base w h₁ mg mb K code tab) {om : Obj} {es : Array DictEntry} {ep : Nat} (e : K.lookup mainGlobals = some om) (d : om.data = .dict es ep) (hk : StrKeys es) : mg = nsFind es :=
  Ns.inj B.g ⟨om, es, ep, B.KX _ _ e, d, hk, fun _ => rfl⟩
theorem glo_K {x : Str} {v : Value} (h : mg x = some v) : (lawOf prog w h₁ mg mb K code tab cls B lam lams).glo x = some v := by
  show (match mg x with | some v => some v | none => mb x) = some v
  rw [h]
theorem glo_B {x : Str} {v : Value} (h : mg x = none) (hn : x ≠ "__name__") (hb : bootBuiltins x = some v) : (lawOf prog w h₁ mg mb K code tab cls B lam lams).glo x = some v := by
  show (match mg x with | some v => some v | none => mb x) = some v
  rw [h]
  simp only
  rw [B.builtins x hn, hb]

theorem clsCall_K (h : W.keepIn K (.ref cls) = true) : ClsCall (lawOf prog w h₁ mg mb K code tab cls B lam lams) := fun hh k => by
  obtain ⟨kk, a, b⟩ := W.looks_keep (M := model prog w) h (law_K B k)
  exact ⟨kk, a.elim .inl (fun e => .inr (.inl e)), b⟩
end

end Mine
end

section
open PySem PySem.W PyProof.Rows
set_option maxRecDepth 100000
set_option maxHeartbeats 8000000
namespace Mine
open_top hd for PySem.Challenge.rw_wy0068_02
end Mine
end

section
open PySem
set_option maxRecDepth 100000
set_option maxHeartbeats 4000000
namespace Mine

noncomputable abbrev K2 (P : Params) : W.Frag := Mine.hd.heap_39 P
noncomputable def fdAt (K : W.Frag) (a : Addr) : FuncData := match K.lookup a with
  | some o => (match o.data with | .func fd => fd | _ => default)
  | none => default
noncomputable def bodyAt (K : W.Frag) (a : Addr) : List Stmt := match (fdAt K a).body with
  | .stmts ss => ss
  | _ => []
noncomputable def fnObj (fd : FuncData) : Obj := { cls := .type "function", data := .func fd }

section
variable (P : Params)
theorem k2_28 : (K2 P).lookup 28 = some (fnObj (fdAt (K2 P) 28)) := rfl
theorem k2_42 : (K2 P).lookup 42 = some (fnObj (fdAt (K2 P) 42)) := rfl
theorem k2_49 : (K2 P).lookup 49 = some (fnObj (fdAt (K2 P) 49)) := rfl
theorem k2_63 : (K2 P).lookup 63 = some (fnObj (fdAt (K2 P) 63)) := rfl
theorem k2_70 : (K2 P).lookup 70 = some (fnObj (fdAt (K2 P) 70)) := rfl
theorem k2_77 : (K2 P).lookup 77 = some (fnObj (fdAt (K2 P) 77)) := rfl
theorem k2_82 : (K2 P).lookup 82 = some (fnObj (fdAt (K2 P) 82)) := rfl
theorem k2_87 : (K2 P).lookup 87 = some (fnObj (fdAt (K2 P) 87)) := rfl
theorem k2_92 : (K2 P).lookup 92 = some (fnObj (fdAt (K2 P) 92)) := rfl
theorem k2_tab : (K2 P).lookup 72 = none := rfl
theorem fn_28 : FnOk (fdAt (K2 P) 28) [Str.ofString "self"] (bodyAt (K2 P) 28) := ⟨rfl, rfl, rfl, rfl, rfl, rfl, (by decide : ([Str.ofString "self"] : List Str).Nodup), by intro x hx; rw [List.mem_singleton.mp hx]; exact .inl rfl, fun vs h => by
  obtain ⟨v, rfl⟩ := one_of h
  rfl⟩
theorem ib_28 : InitBody (bodyAt (K2 P) 28) := .mk
theorem makes2 : W.makesIn (K2 P) 52 = true := rfl
theorem find2 : W.findIn (K2 P) (.ref 52) "__init__" = some (some (.ref 28)) := rfl
theorem type2 : W.typeIn (K2 P) (.ref 28) = some (.type "function") := rfl
theorem keep2 : W.keepIn (K2 P) (.ref 52) = true := rfl
theorem ns_51 : NsOk (nsFind (match (K2 P).lookup 51 with | some o => (match o.data with | .dict es _ => es | _ => #[]) | none => #[])) 42 49 where
  sa := rfl
  ga := rfl
  gh := rfl
  own := fun x hx => by
    simp only [entNames, List.mem_cons, List.not_mem_nil, or_false] at hx
    rcases hx with rfl | rfl | rfl | rfl <;> rfl
  app := rfl
  allow := rfl
end

end Mine
end

section
open PySem
set_option maxRecDepth 100000
set_option maxHeartbeats 4000000
namespace Mine


noncomputable def strKeyB (v : Value) : Bool := match v with
  | .str _ _ => true
  | _ => false
theorem strKeys_of {es : Array DictEntry} (h : es.toList.all (fun e => strKeyB e.key) = true) : StrKeys es := fun e he => by
  have := List.all_eq_true.mp h e (by simpa using he)
  cases hk : e.key with
  | str x t => exact ⟨x, t, rfl⟩
  | _ => rw [hk] at this; cases this

theorem noFree_of {names : Nm} (h : (names.all fun p => p.2 != .free) = true) : ∀ x, (x, NameKind.free) ∉ names := fun x hx => by
  have := List.all_eq_true.mp h _ hx
  simp at this

section
variable {w : World} {h₁ : Heap} {mg mb : Str → Option Value} {B : Base w h₁ mg mb (K2 w.params) 76 72} {n : Nat}

noncomputable def assignAt (k : Nat) (ss : List Stmt) : Expr := match ss[k]? with
  | some (.Assign _ e _) => e
  | _ => .Constant .none 0 ⟨0, 0, 0, 0⟩
noncomputable def lamArgs : Expr → Arguments
  | .Lambda a _ _ _ => a
  | _ => ⟨[], [], none, [], [], none, []⟩
noncomputable def lamBody : Expr → Expr
  | .Lambda _ b _ _ => b
  | e => e
noncomputable def lamScope : Expr → Option Scope
  | .Lambda _ _ s _ => some s
  | _ => none
noncomputable def lamPos : Expr → Pos
  | .Lambda _ _ _ p => p
  | _ => ⟨0, 0, 0, 0⟩

noncomputable def lam2 (P : Params) : LamC :=
  { params := lamArgs (assignAt 1 (bodyAt (K2 P) 77)), body := lamBody (assignAt 1 (bodyAt (K2 P) 77)), scope := (lamScope (assignAt 1 (bodyAt (K2 P) 77))).getD (fdAt (K2 P) 77).scope, var := Str.ofString "front", arg := Str.ofString "asked" }
noncomputable def lams2 (P : Params) : List (Pos × Str) :=
  [(lamPos (assignAt 0 (bodyAt (K2 P) 77)), ((fdAt (K2 P) 77).qualname ++ ".<locals>.") ++ "<lambda>"), (lamPos (assignAt 1 (bodyAt (K2 P) 77)), ((fdAt (K2 P) 77).qualname ++ ".<locals>.") ++ "<lambda>")]

noncomputable abbrev Y2 (B : Base w h₁ mg mb (K2 w.params) 76 72) : Law := lawOf PySem.Challenge.pw_wy0068_02 w h₁ mg mb (K2 w.params) 76 72 52 B (lam2 w.params) (lams2 w.params)

theorem ent2 : EntOk (Y2 B) 28 42 49 :=
  entOk_K (makes2 _) (find2 _) (type2 _) (k2_28 _) rfl (fn_28 _) (ib_28 _) rfl rfl (cc := 27) rfl rfl rfl rfl rfl rfl rfl (strKeys_of rfl) (ns_51 _) (k2_42 _) rfl (k2_49 _) rfl

theorem ok_70 (P : Params) : FnOk (fdAt (K2 P) 70) [Str.ofString "agents", Str.ofString "rules", Str.ofString "delay", Str.ofString "rate"] (bodyAt (K2 P) 70) :=
  ⟨rfl, rfl, rfl, rfl, rfl, rfl, (by decide : ([Str.ofString "agents", Str.ofString "rules", Str.ofString "delay", Str.ofString "rate", Str.ofString "record", Str.ofString "Entry"] : List Str).Nodup),
    (by intro x hx; simp only [List.mem_cons, List.not_mem_nil, or_false] at hx; rcases hx with rfl | rfl | rfl | rfl <;> exact .inl rfl),
    fun vs h => by
      obtain ⟨a, t, rfl, h'⟩ := cons_of h
      obtain ⟨b, t, rfl, h''⟩ := cons_of h'
      obtain ⟨c, d, rfl⟩ := two_of h''
      rfl⟩

noncomputable def es2 (P : Params) : Array DictEntry := match (K2 P).lookup 3 with
  | some o => (match o.data with | .dict es _ => es | _ => #[])
  | none => #[]
theorem mg2 (B : Base w h₁ mg mb (K2 w.params) 76 72) : mg = nsFind (es2 w.params) := mg_K B (om := { cls := .type "dict", data := .dict (es2 w.params) 16 }) rfl rfl (strKeys_of rfl)
theorem gloE : (Y2 B).glo (Str.ofString "Entry") = some (.ref 52) := glo_K (by rw [mg2 B]; rfl)
theorem glo_len : (Y2 B).glo (Str.ofString "len") = some (.builtin "len") := glo_B (by rw [mg2 B]; rfl) (by decide) rfl
theorem cls2 : ClsCall (Y2 B) := clsCall_K (keep2 _)
theorem top2 {a : Addr} {fd : FuncData} (B : Base w h₁ mg mb (K2 w.params) 76 72) (h : (K2 w.params).lookup a = some (fnObj fd)) : (Y2 B).top a = some (fnObj fd) := top_K B h

theorem rec2 (ua rl dl rr : D) : CallD (Y2 B) (n + 3) (.ref 70) [ua, rl, dl, rr] (.ent ua rl dl rr) := by
  refine CallD_fn (σ' := []) (top2 B (k2_70 _)) rfl (ok_70 _) (fun h k => rec_K B k (c := 69) rfl rfl rfl) rfl (noFree_of rfl) rfl ?_
  exact Ex_record ent2 cls2 (.inl rfl) rfl rfl rfl gloE rfl (fun u => Ev_name rfl rfl rfl) (fun u => Ev_name rfl rfl rfl) (fun u => Ev_name rfl rfl rfl) (fun u => Ev_name rfl rfl rfl) (fun _ => rfl) (fun _ => rfl) (fun _ => rfl) (fun _ => rfl)

theorem glo_list : (Y2 B).glo (Str.ofString "list") = some (.type "list") := glo_B (by rw [mg2 B]; rfl) (by decide) rfl
theorem glo_filter : (Y2 B).glo (Str.ofString "filter") = some (.type "filter") := glo_B (by rw [mg2 B]; rfl) (by decide) rfl
theorem glo_set : (Y2 B).glo (Str.ofString "set") = some (.type "set") := glo_B (by rw [mg2 B]; rfl) (by decide) rfl

theorem ok_63 (P : Params) : FnOk (fdAt (K2 P) 63) [Str.ofString "e1", Str.ofString "e2"] (bodyAt (K2 P) 63) :=
  ⟨rfl, rfl, rfl, rfl, rfl, rfl, (by decide : ([Str.ofString "e1", Str.ofString "e2", Str.ofString "entry", Str.ofString "Entry", Str.ofString "list", Str.ofString "filter", Str.ofString "set"] : List Str).Nodup),
    (by intro x hx; simp only [List.mem_cons, List.not_mem_nil, or_false] at hx; rcases hx with rfl | rfl <;> exact .inl rfl),
    fun vs h => by
      obtain ⟨a, b, rfl⟩ := two_of h
      rfl⟩
theorem merge2 {ua1 ua2 : List Str} {rl1 rl2 : List D} {d1 q1 d2 q2 : D} (z1 : ua1.length ≤ 1000) (z2 : ua2.length ≤ 1000) (z3 : rl1.length + rl2.length ≤ 1000) (s1 : Small d1) (s2 : Small d2) (s3 : Small q1) (s4 : Small q2) :
    CallD (Y2 B) (n + 4) (.ref 63) [entD ua1 rl1 d1 q1, entD ua2 rl2 d2 q2] (entD (keepIn ua2 ua1) (rl1 ++ rl2) (pickD d1 d2) (pickD q1 q2)) := by
  refine CallD_fn (σ' := []) (top2 B (k2_63 _)) rfl (ok_63 _) (fun h k => rec_K B k (c := 62) rfl rfl rfl) rfl (noFree_of rfl) rfl ?_
  have e1 : ∀ (u : Value) p, Ev (Y2 B) (n + 3) (fdAt (K2 w.params) 63).scope.names ((Str.ofString "entry", .val (.raw u)) :: pushes ([Str.ofString "e1", Str.ofString "e2"].zip [entD ua1 rl1 d1 q1, entD ua2 rl2 d2 q2]) []) (.Name (Str.ofString "e1") p) (entD ua1 rl1 d1 q1) := fun u p => Ev_name rfl rfl rfl
  have e2 : ∀ (u : Value) p, Ev (Y2 B) (n + 3) (fdAt (K2 w.params) 63).scope.names ((Str.ofString "entry", .val (.raw u)) :: pushes ([Str.ofString "e1", Str.ofString "e2"].zip [entD ua1 rl1 d1 q1, entD ua2 rl2 d2 q2]) []) (.Name (Str.ofString "e2") p) (entD ua2 rl2 d2 q2) := fun u p => Ev_name rfl rfl rfl
  refine Ex_record (n := n + 1) ent2 cls2 (.inl rfl) rfl rfl rfl gloE rfl (fun u => ?_) (fun u => ?_) (fun u => ?_) (fun u => ?_) (fun _ => rfl) (fun _ => rfl) (fun _ => rfl) (fun _ => rfl)
  · exact Ev_filter rfl rfl rfl glo_list glo_filter glo_set rfl rfl rfl (Ev_ua ent2 (e2 u _) trivial fun _ => rfl) (Ev_ua ent2 (e1 u _) trivial fun _ => rfl) z1 z2 (fun _ => rfl) (fun _ => rfl) (fun _ => rfl) (fun _ => rfl) (fun _ => rfl)
  · exact Ev_bin (Ev_rl ent2 (e1 u _) trivial fun _ => rfl) (Ev_rl ent2 (e2 u _) trivial fun _ => rfl) (op_add_list z3)
  · exact Ev_pick s2 (Ev_dl ent2 (e2 u _) s2.noRaw fun _ => rfl) (Ev_dl ent2 (e1 u _) s1.noRaw fun _ => rfl) (Ev_dl ent2 (e2 u _) s2.noRaw fun _ => rfl) rfl
  · exact Ev_pick s4 (Ev_rr ent2 (e2 u _) s4.noRaw fun _ => rfl) (Ev_rr ent2 (e1 u _) s3.noRaw fun _ => rfl) (Ev_rr ent2 (e2 u _) s4.noRaw fun _ => rfl) rfl

end

end Mine
end

section
open PySem
set_option maxRecDepth 100000
set_option maxHeartbeats 4000000
namespace Mine
section
variable {w : World} {h₁ : Heap} {mg mb : Str → Option Value} {B : Base w h₁ mg mb (K2 w.params) 76 72} {n : Nat}

theorem ok_77 (P : Params) : FnOk (fdAt (K2 P) 77) [Str.ofString "front", Str.ofString "verdict"] (bodyAt (K2 P) 77) :=
  ⟨rfl, rfl, rfl, rfl, rfl, rfl, (by decide : ([Str.ofString "front", Str.ofString "verdict", Str.ofString "rule"] : List Str).Nodup),
    (by intro x hx; simp only [List.mem_cons, List.not_mem_nil, or_false] at hx; rcases hx with rfl | rfl; exact .inr rfl; exact .inl rfl),
    fun vs h => by
      obtain ⟨a, b, rfl⟩ := two_of h
      rfl⟩
noncomputable abbrev l0 (P : Params) : Expr := assignAt 0 (bodyAt (K2 P) 77)
noncomputable abbrev l1 (P : Params) : Expr := assignAt 1 (bodyAt (K2 P) 77)
theorem ruleOk2 : RuleFnOk (Y2 B) (fdAt (K2 w.params) 77) (lamPos (l0 w.params)) (lamPos (l1 w.params)) (lamArgs (l0 w.params)) (lamBody (l0 w.params)) ((lamScope (l0 w.params)).getD (fdAt (K2 w.params) 77).scope) (bodyAt (K2 w.params) 77) where
  ok := ok_77 _
  body := .mk
  code := rfl
  clo := rfl
  names := rfl
  rcd := fun h k => rec_K B k (c := 76) rfl rfl rfl
  free0 := rfl
  def0 := fun _ => rfl
  def1 := fun _ => rfl
  free1 := rfl
  lams := rfl
  vne := ⟨rfl, rfl⟩
theorem rule2 (x : Str) (vd : D) : CallD (Y2 B) (n + 1) (.ref 77) [.str x, vd] (.rule x vd) := call_rule (top2 B (k2_77 _)) rfl ruleOk2

theorem lamOk2 : LamOk (Y2 B).lam where
  kind := rfl
  cor := rfl
  gen := rfl
  nodup := (by decide : ([Str.ofString "asked", Str.ofString "front", Str.ofString "len"] : List Str).Nodup)
  able := .inl rfl
  free := fun y => by
    show (y, NameKind.free) ∈ [(Str.ofString "asked", NameKind.local), (Str.ofString "front", NameKind.free), (Str.ofString "len", NameKind.globalImplicit)] ↔ y = Str.ofString "front"
    simp
  bind := fun fd h1 h2 h3 v => by
    obtain ⟨a, b, c, d, e, f, g, h, i, j, k, l, m, o, p⟩ := fd
    simp only at h1 h2 h3
    subst h1 h2 h3
    rfl

noncomputable def ruleAns (x q : Str) : Int := if Txt.startswith q x then (x.length : Int) + 1 else 0
theorem lamBody2 {x q : Str} (hx : x.length ≤ 1000) : Ev (Y2 B) n (Y2 B).lam.scope.names [((Y2 B).lam.arg, .val (.str q)), ((Y2 B).lam.var, .val (.str x))] (Y2 B).lam.body (.int (ruleAns x q)) := by
  have hq : ∀ p, Ev (Y2 B) n (Y2 B).lam.scope.names [((Y2 B).lam.arg, .val (.str q)), ((Y2 B).lam.var, .val (.str x))] (.Name (Str.ofString "asked") p) (.str q) := fun p => Ev_name rfl rfl rfl
  have hf : ∀ p, Ev (Y2 B) n (Y2 B).lam.scope.names [((Y2 B).lam.arg, .val (.str q)), ((Y2 B).lam.var, .val (.str x))] (.Name (Str.ofString "front") p) (.str x) := fun p => Ev_name rfl rfl rfl
  refine Ev_if (b := Txt.startswith q x) (EvT_val (d := .bool (Txt.startswith q x)) (Ev_meth (hq _) (fun _ => rfl) (EvArgs_cons (hf _) EvArgs_nil fun _ => rfl) meth_startswith (fun _ => rfl) (fun _ => rfl) rfl) truth_bool fun _ _ => rfl) (fun h => ?_) fun h => ?_
  · unfold ruleAns
    rw [if_pos h]
    exact Ev_bin (Ev_call rfl glo_len rfl (.builtin "len") (fun _ => rfl) (EvArgs_cons (hf _) EvArgs_nil fun _ => rfl) (call_len_s (by omega))) Ev_int op_add_int
  · unfold ruleAns
    rw [h]
    exact Ev_int
end
end Mine
end

section
open PySem
set_option maxRecDepth 100000
set_option maxHeartbeats 4000000
namespace Mine

noncomputable def truthD : D → Bool
  | .bool b => b
  | .str s => (s.length : Int) != 0
  | _ => false
noncomputable def allowStep (ra : Str → Int) (st : Int × D) (r : Str × Str) : Int × D :=
  if ra r.1 != 0 then (if decide (st.1 < ra r.1) then (ra r.1, .str r.2) else if (ra r.1 == st.1) && !truthD st.2 then (st.1, .str r.2) else st) else st
noncomputable def allowF (ra : Str → Int) (rs : List (Str × Str)) : D := (rs.foldl (allowStep ra) (-1, .bool true)).2
noncomputable def BoolStr : D → Prop
  | .bool _ => True
  | .str s => s.length ≤ 1000
  | _ => False
theorem truth_bs {Y : Law} {n : Nat} {d : D} (h : BoolStr d) : Truth Y n d (truthD d) := by
  cases d <;> simp only [BoolStr] at h
  · exact truth_bool
  · exact truth_str (by omega)

section
variable {w : World} {h₁ : Heap} {mg mb : Str → Option Value} {B : Base w h₁ mg mb (K2 w.params) 76 72} {n : Nat}

theorem ok_49 (P : Params) : FnOk (fdAt (K2 P) 49) [Str.ofString "self", Str.ofString "filename"] (bodyAt (K2 P) 49) :=
  ⟨rfl, rfl, rfl, rfl, rfl, rfl, (by decide : ([Str.ofString "self", Str.ofString "filename", Str.ofString "best_match", Str.ofString "allowance", Str.ofString "line", Str.ofString "m"] : List Str).Nodup),
    (by intro x hx; simp only [List.mem_cons, List.not_mem_nil, or_false] at hx; rcases hx with rfl | rfl <;> exact .inl rfl),
    fun vs h => by
      obtain ⟨a, b, rfl⟩ := two_of h
      rfl⟩

noncomputable def allowSto (self : D) (q : Str) (st : Int × D) : Sto := [(Str.ofString "allowance", .val st.2), (Str.ofString "best_match", .val (.int st.1)), (Str.ofString "filename", .val (.str q)), (Str.ofString "self", .val self)]
noncomputable def ruleD (r : Str × Str) : D := .rule r.1 (.str r.2)

noncomputable def forBody (k : Nat) (ss : List Stmt) : List Stmt := match ss[k]? with
  | some (.For _ _ b _ _) => b
  | _ => []

theorem allow_turn {self : D} {q : Str} {st : Int × D} {r : Str × Str} (hb : BoolStr st.2) (hr : r.1.length ≤ 1000) :
    Ex (Y2 B) (n + 1) (fdAt (K2 w.params) 49).scope.names (pushes [(Str.ofString "line", ruleD r)] (allowSto self q st)) (forBody 2 (bodyAt (K2 w.params) 49)) .next (allowSto self q (allowStep (fun x => ruleAns x q) st r)) := by
  refine Ex_cons (Ex1_assign (.inl rfl) (Ev_rule_app lamOk2 (Ev_name rfl rfl rfl) (Ev_name (d := .str q) rfl rfl rfl) (fun _ => rfl) (fun _ => rfl) (lamBody2 hr) (fun _ => rfl) (fun _ => rfl) rfl) fun _ _ => rfl)
    (Ex_cons (Ex1_if (c := ruleAns r.1 q != 0) (EvT_val (Ev_name rfl rfl rfl) truth_int fun _ _ => rfl) (fun c1 => ?_) (fun c1 => ?_)) Ex_nil)
  · refine Ex_cons (Ex1_if (c := decide (st.1 < ruleAns r.1 q)) (EvT_cmp (Ev_name rfl rfl rfl) (Ev_name rfl rfl rfl) op_gt_int rfl) (fun c2 => ?_) (fun c2 => ?_)) Ex_nil
    · refine Ex_post (Ex_cons (Ex1_assign (.inl rfl) (Ev_name rfl rfl rfl) fun _ _ => rfl) (Ex_cons (Ex1_assign (.inl rfl) (Ev_rule_allow (Ev_name rfl rfl rfl) trivial fun _ => rfl) fun _ _ => rfl) Ex_nil)) ?_
      have e : allowStep (fun x => ruleAns x q) st r = (ruleAns r.1 q, .str r.2) := by simp [allowStep, c1, c2]
      rw [e]
      exact Sub.cons rfl (Sub.cons rfl (Sub.cons rfl (Sub.cons rfl Sub.nil)))
    · refine Ex_cons (Ex1_if (c := (ruleAns r.1 q == st.1) && !truthD st.2) (EvT_and2 (EvT_cmp (Ev_name rfl rfl rfl) (Ev_name rfl rfl rfl) op_eq_int rfl) fun _ => EvT_not (EvT_val (Ev_name rfl rfl rfl) (truth_bs hb) fun _ _ => rfl)) (fun c3 => ?_) (fun c3 => ?_)) Ex_nil
      · refine Ex_post (Ex_cons (Ex1_assign (.inl rfl) (Ev_rule_allow (Ev_name rfl rfl rfl) trivial fun _ => rfl) fun _ _ => rfl) Ex_nil) ?_
        have e : allowStep (fun x => ruleAns x q) st r = (st.1, .str r.2) := by simp only [allowStep, c1, c2, c3, if_true, Bool.false_eq_true, if_false]
        rw [e]
        exact Sub.cons rfl (Sub.cons rfl (Sub.cons rfl (Sub.cons rfl Sub.nil)))
      · have e : allowStep (fun x => ruleAns x q) st r = st := by simp only [allowStep, c1, c2, c3, if_true, Bool.false_eq_true, if_false]
        rw [e]
        exact Ex_post Ex_nil (Sub.cons rfl (Sub.cons rfl (Sub.cons rfl (Sub.cons rfl Sub.nil))))
  · have e : allowStep (fun x => ruleAns x q) st r = st := by simp only [allowStep, c1, Bool.false_eq_true, if_false]
    rw [e]
    exact Ex_post Ex_nil (Sub.cons rfl (Sub.cons rfl (Sub.cons rfl (Sub.cons rfl Sub.nil))))
end
end Mine
end

section
open PySem
set_option maxRecDepth 100000
set_option maxHeartbeats 4000000
namespace Mine
section
variable {w : World} {h₁ : Heap} {mg mb : Str → Option Value} {B : Base w h₁ mg mb (K2 w.params) 76 72} {n : Nat}

theorem allow_bs {ra : Str → Int} {st : Int × D} {r : Str × Str} (hb : BoolStr st.2) (hr : r.2.length ≤ 1000) : BoolStr (allowStep ra st r).2 := by
  unfold allowStep
  split
  · split
    · exact hr
    · split
      · exact hr
      · exact hb
  · exact hb
noncomputable def forTgt (k : Nat) (ss : List Stmt) : Expr := match ss[k]? with
  | some (.For t _ _ _ _) => t
  | _ => .Constant .none 0 ⟨0, 0, 0, 0⟩
theorem allow_loop {self : D} {q : Str} : ∀ (rs : List (Str × Str)) (st : Int × D), BoolStr st.2 → (∀ r ∈ rs, r.1.length ≤ 1000 ∧ r.2.length ≤ 1000) →
    LoopEx (Y2 B) (n + 1) (fdAt (K2 w.params) 49).scope.names (forTgt 2 (bodyAt (K2 w.params) 49)) (forBody 2 (bodyAt (K2 w.params) 49)) (allowSto self q st) (rs.map ruleD) .next (allowSto self q (rs.foldl (allowStep (fun x => ruleAns x q)) st))
  | [], st, _, _ => .nil
  | r :: rs, st, hb, hr => .next (.name (.inl rfl)) (allow_turn hb (hr r (by simp)).1) (allow_loop rs _ (allow_bs hb (hr r (by simp)).2) fun r' h' => hr r' (by simp [h']))

theorem allow2 {ua dl rr : D} {q : Str} {rs : List (Str × Str)} (hr : ∀ r ∈ rs, r.1.length ≤ 1000 ∧ r.2.length ≤ 1000) :
    CallD (Y2 B) (n + 2) (.ref 49) [.ent ua (.list (rs.map ruleD)) dl rr, .str q] (allowF (fun x => ruleAns x q) rs) := by
  refine CallD_fn (σ' := []) (top2 B (k2_49 _)) rfl (ok_49 _) (fun h k => rec_K B k (c := 48) rfl rfl rfl) rfl (noFree_of rfl) rfl ?_
  refine Ex_post (Ex_cons (Ex1_assign (.inl rfl) (Ev_un Ev_int op_neg_int) fun _ _ => rfl) (Ex_cons (Ex1_assign (.inl rfl) Ev_bool fun _ _ => rfl)
    (Ex_cons (Ex1_for (EvIt_list rfl (Ev_rl ent2 (Ev_name rfl rfl rfl) trivial fun _ => rfl)) (allow_loop rs (-1, .bool true) trivial hr) fun _ _ => rfl)
      (Ex_cons_ret (Ex1_ret (Ev_name rfl rfl rfl)))))) Sub.nil
end
end Mine
end

section
open PySem
set_option maxRecDepth 100000
set_option maxHeartbeats 4000000
namespace Mine

noncomputable def nodupB : List Str → Bool
  | [] => true
  | x :: xs => xs.all (fun y => !(x == y)) && nodupB xs
theorem nodup_of : ∀ {l : List Str}, nodupB l = true → l.Nodup
  | [], _ => List.nodup_nil
  | x :: xs, h => by
    simp only [nodupB, Bool.and_eq_true, List.all_eq_true] at h
    refine List.nodup_cons.mpr ⟨fun hx => ?_, nodup_of h.2⟩
    have := h.1 x hx
    simp at this
noncomputable def isFree : NameKind → Bool
  | .free => true
  | _ => false
noncomputable def cellOrFree : Option NameKind → Bool
  | some .cell => true
  | some .free => true
  | _ => false
noncomputable def compNmB (nm nmc : Nm) : Bool := nodupB (nmc.map (·.1)) && nmc.all fun p => !isFree p.2 || cellOrFree (nm.lookup p.1)
theorem compNm_of {nm nmc : Nm} (h : compNmB nm nmc = true) : CompNm nm nmc := by
  simp only [compNmB, Bool.and_eq_true, List.all_eq_true] at h
  refine ⟨nodup_of h.1, fun x hx => ?_⟩
  have := h.2 _ (mem_of_lookup hx)
  simp only [isFree, Bool.not_true, Bool.false_or] at this
  revert this
  generalize nm.lookup x = o
  intro h
  match o, h with
  | some .cell, _ => exact .inl rfl
  | some .free, _ => exact .inr rfl

section
variable {Y : Law} {n : Nat} {nm : Nm} {σ : Sto}
theorem call_min_2 {a b : Int} : CallD Y n (.builtin "min") [.int a, .int b] (.int (min a b)) := by
  intro A g s vs hA _ hg r
  obtain ⟨u, v, rfl, r1, r2⟩ := two_args r
  simp only [Rep] at r1 r2
  obtain ⟨t, rfl⟩ := r1; obtain ⟨t', rfl⟩ := r2
  refine min_two_ints hA.1 fun h' tk hk => ?_
  refine ⟨keeps_same hk, ?_⟩
  simp only [Rep]
  by_cases hb : b < a
  · rw [if_pos hb]; exact ⟨t', by rw [Int.min_eq_right (by omega)]⟩
  · rw [if_neg hb]; exact ⟨t, by rw [Int.min_eq_left (by omega)]⟩

noncomputable def onInt (f : Int → Option D) : D → Option D
  | .int i => f i
  | _ => none
end

section
variable {w : World} {h₁ : Heap} {mg mb : Str → Option Value} {B : Base w h₁ mg mb (K2 w.params) 76 72} {n : Nat}
theorem glo_min : (Y2 B).glo (Str.ofString "min") = some (.builtin "min") := glo_B (by rw [mg2 B]; rfl) (by decide) rfl
theorem glo_sum : (Y2 B).glo (Str.ofString "sum") = some (.builtin "sum") := glo_B (by rw [mg2 B]; rfl) (by decide) rfl
theorem glo_range : (Y2 B).glo (Str.ofString "range") = some (.type "range") := glo_B (by rw [mg2 B]; rfl) (by decide) rfl
theorem glo_enum : (Y2 B).glo (Str.ofString "enumerate") = some (.type "enumerate") := glo_B (by rw [mg2 B]; rfl) (by decide) rfl
theorem glo_rec : (Y2 B).glo (Str.ofString "_law_record") = some (.ref 70) := glo_K (by rw [mg2 B]; rfl)
theorem glo_rule : (Y2 B).glo (Str.ofString "_law_rule") = some (.ref 77) := glo_K (by rw [mg2 B]; rfl)
theorem glo_fewest : (Y2 B).glo (Str.ofString "_law_fewest") = some (.ref 82) := glo_K (by rw [mg2 B]; rfl)
theorem glo_last : (Y2 B).glo (Str.ofString "_law_last") = some (.ref 87) := glo_K (by rw [mg2 B]; rfl)
theorem glo_merge : (Y2 B).glo (Str.ofString "merge_entries") = some (.ref 63) := glo_K (by rw [mg2 B]; rfl)

theorem ok_82 (P : Params) : FnOk (fdAt (K2 P) 82) [Str.ofString "left", Str.ofString "right"] (bodyAt (K2 P) 82) :=
  ⟨rfl, rfl, rfl, rfl, rfl, rfl, (by decide : ([Str.ofString "left", Str.ofString "right", Str.ofString "range"] : List Str).Nodup),
    (by intro x hx; simp only [List.mem_cons, List.not_mem_nil, or_false] at hx; rcases hx with rfl | rfl <;> exact .inr rfl),
    fun vs h => by
      obtain ⟨a, b, rfl⟩ := two_of h
      rfl⟩
noncomputable def intsD (xs : List Int) : D := .list (xs.map .int)
noncomputable def fewK (xs ys : List Int) (k : Nat) : Int := min (valAt xs k) (1 + minI xs) + min (valAt ys k) (1 + minI ys)
noncomputable def fewF (xs ys : List Int) : List Int := [fewK xs ys 0, fewK xs ys 1, fewK xs ys 2]
theorem op_item_ints {xs : List Int} {k : Nat} (h : k < xs.length) (hz : xs.length ≤ 1000) : Op2 (Y2 B) n getItem (intsD xs) (.int k) (.int (valAt xs k)) :=
  op_item (by omega) (by omega) (by simp [valAt, h])
theorem few_elt {xs ys : List Int} {k : Nat} {σ : Sto} {nm : Nm} (hx : xs.length = 3) (hy : ys.length = 3) (hk : k < 3) (h1 : σ.lookup (Str.ofString "left") = some (.val (intsD xs))) (h2 : σ.lookup (Str.ofString "right") = some (.val (intsD ys))) (h3 : σ.lookup (Str.ofString "k") = some (.val (.int k)))
    (hm : nm.lookup (Str.ofString "min") = some .globalImplicit) {p1 p2 p3 p4 p5 p6 p7 p8 p9 p10 p11 p12 p13 p14 p15 p16 p17 p18 p19 p20 p21 : Pos} {j j' : Nat} :
    Ev (Y2 B) n nm σ (.BinOp (.Call (.Name (Str.ofString "min") p1) [.Subscript (.Name (Str.ofString "left") p2) (.Name (Str.ofString "k") p3) p4, .BinOp (.Constant (.int 1) j p5) .Add (.Call (.Name (Str.ofString "min") p6) [.Name (Str.ofString "left") p7] [] p8) p9] [] p10) .Add
      (.Call (.Name (Str.ofString "min") p11) [.Subscript (.Name (Str.ofString "right") p12) (.Name (Str.ofString "k") p13) p14, .BinOp (.Constant (.int 1) j' p15) .Add (.Call (.Name (Str.ofString "min") p16) [.Name (Str.ofString "right") p17] [] p18) p19] [] p20) p21) (.int (fewK xs ys k)) := by
  have one : ∀ {x : Str} {zs : List Int} {q1 q2 q3 q4 q5 q6 q7 q8 q9 q10 : Pos} {i : Nat}, zs.length = 3 → σ.lookup x = some (.val (intsD zs)) → (x == ("__debug__" : Str)) = false → (x == ("__classdict__" : Str)) = false →
      Ev (Y2 B) n nm σ (.Call (.Name (Str.ofString "min") q1) [.Subscript (.Name x q2) (.Name (Str.ofString "k") q3) q4, .BinOp (.Constant (.int 1) i q5) .Add (.Call (.Name (Str.ofString "min") q6) [.Name x q7] [] q8) q9] [] q10) (.int (min (valAt zs k) (1 + minI zs))) := by
    intro x zs q1 q2 q3 q4 q5 q6 q7 q8 q9 q10 i hz hl hd hc
    refine Ev_call hm glo_min rfl (.builtin "min") (fun _ => rfl) (EvArgs_cons (Ev_sub (Ev_name hl hd hc) (Ev_name h3 rfl rfl) (op_item_ints (by omega) (by omega)) (fun _ _ => rfl) (.inl rfl)) (EvArgs_cons (Ev_bin Ev_int
      (Ev_call hm glo_min rfl (.builtin "min") (fun _ => rfl) (EvArgs_cons (Ev_name hl hd hc) EvArgs_nil fun _ => rfl) (call_min_l (by intro h; rw [h] at hz; cases hz))) op_add_int) EvArgs_nil fun _ => rfl) fun _ => rfl) call_min_2
  exact Ev_bin (one hx h1 rfl rfl) (one hy h2 rfl rfl) op_add_int
theorem fewest2 {xs ys : List Int} (hx : xs.length = 3) (hy : ys.length = 3) : CallD (Y2 B) (n + 1) (.ref 82) [intsD xs, intsD ys] (intsD (fewF xs ys)) := by
  refine CallD_fn (σ' := pushes ([Str.ofString "left", Str.ofString "right"].zip [intsD xs, intsD ys]) []) (top2 B (k2_82 _)) rfl (ok_82 _) (fun h k => rec_K B k (c := 81) rfl rfl rfl) rfl (noFree_of rfl) rfl ?_
  refine Ex_cons_ret (Ex1_ret (d := intsD (fewF xs ys)) ?_)
  refine Ev_comp (F := onInt fun i => some (.int (fewK xs ys i.toNat))) (ds := rangeD 0 1 3) rfl (compNm_of rfl) (EvIt_range1 (m := 3) rfl glo_range rfl (fun _ => rfl) Ev_int rfl (by decide)) (fun _ _ => rfl) (fun d hd => ?_) (by decide)
  simp only [rangeD, List.mem_cons, List.not_mem_nil, or_false] at hd
  rcases hd with rfl | rfl | rfl
  · exact ⟨_, .name (.inl rfl), Tests_nil, fun o ho => by cases ho; exact few_elt (k := 0) hx hy (by omega) rfl rfl rfl rfl⟩
  · exact ⟨_, .name (.inl rfl), Tests_nil, fun o ho => by cases ho; exact few_elt (k := 1) hx hy (by omega) rfl rfl rfl rfl⟩
  · exact ⟨_, .name (.inl rfl), Tests_nil, fun o ho => by cases ho; exact few_elt (k := 2) hx hy (by omega) rfl rfl rfl rfl⟩

theorem ok_87 (P : Params) : FnOk (fdAt (K2 P) 87) [Str.ofString "row"] (bodyAt (K2 P) 87) :=
  ⟨rfl, rfl, rfl, rfl, rfl, rfl, (by decide : ([Str.ofString "row"] : List Str).Nodup),
    (by intro x hx; rw [List.mem_singleton.mp hx]; exact .inl rfl),
    fun vs h => by
      obtain ⟨a, rfl⟩ := one_of h
      rfl⟩
noncomputable def notNone (d : D) : Option D := if isNoneD d then none else some d
noncomputable def lastF (ds : List D) : D := ((.none :: ds.filterMap notNone).getLast?).getD .none
noncomputable def NumD : D → Prop
  | .none => True
  | .int _ => True
  | _ => False
theorem last2 {ds : List D} (hd : ∀ d ∈ ds, NumD d) (hz : ds.length ≤ 900) : CallD (Y2 B) (n + 1) (.ref 87) [.list ds] (lastF ds) := by
  have hl : (ds.filterMap notNone).length ≤ ds.length := List.length_filterMap_le ..
  refine CallD_fn (σ' := pushes ([Str.ofString "row"].zip [.list ds]) []) (top2 B (k2_87 _)) rfl (ok_87 _) (fun h k => rec_K B k (c := 86) rfl rfl rfl) rfl (noFree_of rfl) rfl ?_
  refine Ex_cons_ret (Ex1_ret (d := lastF ds) ?_)
  refine Ev_sub (o := .list (.none :: ds.filterMap notNone)) (Ev_bin (Ev_list (ds := [.none]) (EvArgs_cons Ev_none EvArgs_nil fun _ => rfl) (by decide))
    (Ev_comp (F := notNone) (ds := ds) rfl (compNm_of rfl) (EvIt_list rfl (Ev_name rfl rfl rfl)) (fun _ _ => rfl) (fun d h => ?_) (by omega)) (op_add_list (by simp only [List.length_cons, List.length_nil]; omega))) (Ev_un Ev_int op_neg_int)
    (op_item_neg (by decide) (by simp only [List.length_cons]; omega) (by decide) ?_) (fun _ _ => rfl) (.inl rfl)
  · refine ⟨_, .name (.inl rfl), Tests_one ?_, fun o ho => ?_⟩
    · have := hd d h
      cases d <;> simp only [NumD] at this
      · exact EvT_cmp (Ev_name rfl rfl rfl) Ev_none op_isNot_none_none rfl
      · exact EvT_cmp (Ev_name rfl rfl rfl) Ev_none op_isNot_int_none rfl
    · have e : o = d := by
        unfold notNone at ho
        split at ho
        · cases ho
        · cases ho; rfl
      subst e
      exact Ev_name rfl rfl rfl
  · unfold lastF
    rw [List.getLast?_eq_getElem?]
    have : (-1 + ((D.none :: ds.filterMap notNone).length : Int)).toNat = (D.none :: ds.filterMap notNone).length - 1 := by simp only [List.length_cons]; omega
    rw [this, List.getElem?_eq_getElem (by simp)]
    rfl
end
end Mine
end

section
open PySem
set_option maxRecDepth 100000
set_option maxHeartbeats 4000000
namespace Mine

section
variable {Y : Law} {n : Nat} {nm : Nm} {σ : Sto}

theorem kept_get {nmc : Nm} : ∀ {σ : Sto} {x : Str} {sl : Sl}, (nmc.lookup x == some .free) = true → σ.lookup x = some sl → (kept nmc σ).lookup x = some sl
  | [], _, _, _, h => by cases h
  | (y, s) :: σ, x, sl, hf, h => by
    rw [List.lookup_cons] at h
    unfold kept
    rw [List.filter_cons]
    cases hb : x == y with
    | true =>
      rw [hb] at h
      have : x = y := beq_iff_eq.mp hb
      subst this
      rw [if_pos hf, List.lookup_cons, hb]
      exact h
    | false =>
      rw [hb] at h
      have ih := kept_get (σ := σ) hf h
      unfold kept at ih
      split
      · rw [List.lookup_cons, hb]; exact ih
      · exact ih

theorem Ev_comp_eq {t iter elt : Expr} {ifs : List Expr} {scope : Scope} {pos : Pos} (F : D → Option D) {ds es : List D} (he : ds.filterMap F = es) (hk : scope.kind = .function) (hc : CompNm nm scope.names) (hit : EvIt Y n nm σ t iter ds) (hs : ∀ env x, foldedSetIterable iter env x = pure x)
    (hb : ∀ d ∈ ds, CompBody Y n scope.names (kept scope.names σ) t ifs elt d (F d)) (hlen : ds.length ≤ 100000) : Ev Y n nm σ (.ListComp elt [⟨t, iter, ifs, 0⟩] scope pos) (.list es) := he ▸ Ev_comp hk hc hit hs hb hlen

theorem Item.mk {nmc : Nm} {σc : Sto} {t elt : Expr} {d o : D} {bs : List (Str × D)} (h : Binds nmc t d bs) (he : Ev Y n nmc (pushes bs σc) elt o) : CompBody Y n nmc σc t [] elt d (some o) :=
  ⟨bs, h, Tests_nil, fun _ e => by cases e; exact he⟩

theorem mem_rangeD : ∀ {m : Nat} {a : Int} {d : D}, d ∈ rangeD a 1 m → ∃ i : Nat, i < m ∧ d = .int (a + i)
  | m + 1, a, d, h => by
    rw [rangeD, List.mem_cons] at h
    rcases h with rfl | h
    · exact ⟨0, by omega, by simp⟩
    · obtain ⟨i, hi, rfl⟩ := mem_rangeD h
      exact ⟨i + 1, by omega, by congr 1; omega⟩
theorem mem_range0 {m : Nat} {d : D} (h : d ∈ rangeD 0 1 m) : ∃ i : Nat, i < m ∧ d = .int i := by
  obtain ⟨i, hi, rfl⟩ := mem_rangeD h
  exact ⟨i, hi, by simp⟩
theorem mem_enumD : ∀ {xs : List D} {a : Nat} {d : D}, d ∈ enumD a xs → ∃ (i : Nat) (x : D), xs[i]? = some x ∧ d = .tup [.int ((a + i : Nat) : Int), x]
  | x :: xs, a, d, h => by
    rw [enumD, List.mem_cons] at h
    rcases h with rfl | h
    · exact ⟨0, x, rfl, rfl⟩
    · obtain ⟨i, y, hi, rfl⟩ := mem_enumD h
      exact ⟨i + 1, y, by simpa using hi, by rw [show a + 1 + i = a + (i + 1) by omega]⟩

noncomputable def ipick (xs : List Int) (lo hi st : Option Int) : List Int :=
  ((sliceRange (sliceBounds lo hi st xs.length).1 (sliceBounds lo hi st xs.length).2.1 (sliceBounds lo hi st xs.length).2.2).filterMap (xs[·]?))
theorem lpick_map {xs : List Int} {lo hi st : Option Int} : lpick (xs.map D.int) lo hi st = (ipick xs lo hi st).map D.int := by
  unfold lpick ipick
  rw [List.length_map, List.map_filterMap]
  congr 1
  funext i
  simp
theorem filterMap_int {xs : List Int} {f : Int → Int} : (xs.map D.int).filterMap (onInt fun x => some (.int (f x))) = (xs.map f).map D.int := by
  rw [List.filterMap_map, List.map_map, ← List.filterMap_eq_map]
  rfl
end

section
variable {w : World} {h₁ : Heap} {mg mb : Str → Option Value} {B : Base w h₁ mg mb (K2 w.params) 76 72} {n : Nat} {σ : Sto}
noncomputable abbrev nm2 (P : Params) : Nm := (fdAt (K2 P) 92).scope.names
noncomputable abbrev law2 (P : Params) : List Stmt := bodyAt (K2 P) 92

noncomputable def basesL : List Int := [0, 1, 34, 2, 5, 30, 37, 4, 9, 12, 6, 35, 14, 11, 2, 13]
noncomputable def modM (x : Int) : Int := x.fmod (10 ^ (6 : Int).toNat)
noncomputable def cellOf (scr : List Int) (k b : Int) : Int := b + ((ipick scr (some k) (some 60) (some 16)).map modM).sum
noncomputable def onPair (f : Int → D → Option D) : D → Option D
  | .tup [.int k, d] => f k d
  | _ => none
noncomputable def intOf : D → Int
  | .int i => i
  | _ => 0
noncomputable def cellsOf (scr : List Int) : List Int := [cellOf scr 0 0, cellOf scr 1 1, cellOf scr 2 34, cellOf scr 3 2, cellOf scr 4 5, cellOf scr 5 30, cellOf scr 6 37, cellOf scr 7 4, cellOf scr 8 9, cellOf scr 9 12, cellOf scr 10 6, cellOf scr 11 35, cellOf scr 12 14, cellOf scr 13 11, cellOf scr 14 2, cellOf scr 15 13]
theorem ipick_len {xs : List Int} {k : Nat} : (ipick xs (some k) (some 60) (some 16)).length ≤ xs.length := by
  refine Nat.le_trans (List.length_filterMap_le ..) (sliceRange_length_le _ _ _ _ (fun _ => ?_) fun h => absurd ?_ h)
  · simp only [sliceBounds, Option.getD_some]
    constructor <;> simp <;> omega
  · simp [sliceBounds]
theorem cells_ev {scr : List Int} (hz : scr.length ≤ 1000) (hb : σ.lookup (Str.ofString "bases") = some (.val (intsD basesL))) (hs : σ.lookup (Str.ofString "script") = some (.val (intsD scr))) :
    Ev (Y2 B) n (nm2 w.params) σ (assignAt 1 (law2 w.params)) (intsD (cellsOf scr)) := by
  refine Ev_comp_eq (onPair fun k b => some (.int (cellOf scr k (intOf b)))) (ds := enumD 0 (basesL.map .int)) rfl rfl (compNm_of rfl) (EvIt_enum rfl glo_enum rfl (fun _ => rfl) (Ev_name hb rfl rfl)) (fun _ _ => rfl) (fun d hd => ?_) (by decide)
  obtain ⟨i, x, hx, rfl⟩ := mem_enumD hd
  rw [List.getElem?_map, Option.map_eq_some_iff] at hx
  obtain ⟨b, hb', rfl⟩ := hx
  refine Item.mk (.pair (.inl rfl) (.inl rfl)) (Ev_bin (Ev_name rfl rfl rfl) ?_ op_add_int)
  refine Ev_call rfl glo_sum rfl (.builtin "sum") (fun _ => rfl) (EvArgs_cons (d := .list (((ipick scr (some ((0 + i : Nat) : Int)) (some 60) (some 16)).map modM).map D.int)) ?_ EvArgs_nil fun _ => rfl) call_sum_l
  refine Ev_comp_eq (onInt fun x => some (.int (modM x))) (ds := (ipick scr (some ((0 + i : Nat) : Int)) (some 60) (some 16)).map .int) filterMap_int rfl (compNm_of rfl) (EvIt_list rfl (lpick_map ▸ Ev_slice_list (Ev_name (kept_get rfl hs) rfl rfl) (EvPart_some (Ev_name rfl rfl rfl)) (EvPart_some Ev_int) (EvPart_some Ev_int) (by decide) (by rw [List.length_map]; omega))) (fun _ _ => rfl) (fun d hd => ?_) ?_
  · rw [List.mem_map] at hd
    obtain ⟨y, _, rfl⟩ := hd
    exact Item.mk (.name (.inl rfl)) (Ev_bin (Ev_name rfl rfl rfl) (Ev_bin Ev_int Ev_int (op_pow_int (by decide) (by decide))) (op_mod_int (by decide)))
  · have := ipick_len (xs := scr) (k := 0 + i)
    rw [List.length_map]; omega
end
end Mine
end

section
open PySem
set_option maxRecDepth 100000
set_option maxHeartbeats 4000000
namespace Mine

noncomputable def chb (k p : Nat) : Nat := if k / 2 ^ p % 2 = 1 then 98 else 97
noncomputable def nameS (k : Nat) : Str := ⟨#[47, chb k 3, chb k 2, chb k 1, chb k 0]⟩
noncomputable def lettersL : List Str := [Str.ofString "x", Str.ofString "X", Str.ofString ""]
noncomputable def tabOf (c : Int) : Str := (lettersL[(c.fmod 3).toNat]?).getD (Str.ofString "")
noncomputable def delOf (c : Int) : D := if (c.fdiv 3).fmod 3 != 0 then .int ((c.fdiv 9).fmod 3) else .none
noncomputable def rng (n : Nat) (f : Nat → D) : D := .list ((List.range n).map f)
section
variable (c : Nat → Int)
noncomputable def tb (k : Nat) : Str := tabOf (c k)
noncomputable def dl (k : Nat) : D := delOf (c k)
noncomputable def rt (k : Nat) : D := dl c ((k + 15) % 16)
noncomputable def ag0 (k : Nat) : List Str := List.replicate (1 + ((c k).fdiv 27).fmod 2).toNat (tb c k)
noncomputable def few0 (k : Nat) : List Int := lettersL.map fun l => if l == tb c k then 0 else 99
end
noncomputable def strsD (xs : List Str) : D := .list (xs.map .str)
theorem name_char : ∀ k : Fin 16, ∀ p ∈ [3, 2, 1, 0], ((seqIndex? (Builtin.bitAnd (((k.val : Nat) : Int).fdiv (2 ^ ((p : Nat) : Int).toNat)) 1) (Str.ofString "ab").length).bind ((Str.ofString "ab").cps[·]?)) = some (chb k.val p) := by decide +kernel
theorem name_small : ∀ k : Fin 16, ∀ p ∈ [3, 2, 1, 0], (-1000000 : Int) < Builtin.bitAnd (((k.val : Nat) : Int).fdiv (2 ^ ((p : Nat) : Int).toNat)) 1 ∧ Builtin.bitAnd (((k.val : Nat) : Int).fdiv (2 ^ ((p : Nat) : Int).toNat)) 1 < (1000000 : Int) := by decide +kernel
noncomputable def strOf : D → Str
  | .str s => s
  | _ => Str.ofString ""

section
variable {w : World} {h₁ : Heap} {mg mb : Str → Option Value} {B : Base w h₁ mg mb (K2 w.params) 76 72} {n : Nat} {σ : Sto} {c : Nat → Int}

theorem bit_item {k : Fin 16} {p : Nat} (hp : p ∈ [3, 2, 1, 0]) {σ : Sto} {nm : Nm} (h1 : σ.lookup (Str.ofString "k") = some (.val (.int (k.val : Nat)))) (h2 : σ.lookup (Str.ofString "place") = some (.val (.int (p : Nat)))) {p1 p2 p3 p4 p5 p6 p7 : Pos} {i j : Nat} :
    Ev (Y2 B) n nm σ (.Subscript (.Constant (.str (Str.ofString "ab")) i p1) (.BinOp (.BinOp (.Name (Str.ofString "k") p2) .RShift (.Name (Str.ofString "place") p3) p4) .BitAnd (.Constant (.int 1) j p5) p6) p7) (.str ⟨#[chb k.val p]⟩) :=
  Ev_sub (o := .str (Str.ofString "ab")) Ev_str (Ev_bin (Ev_bin (Ev_name h1 rfl rfl) (Ev_name h2 rfl rfl) (op_shr_int (by omega))) Ev_int op_and_int) (op_char (name_small k p hp).1 (name_small k p hp).2 (name_char k p hp)) (fun _ _ => rfl) (.inr (.inl rfl))

theorem names_ev : Ev (Y2 B) n (nm2 w.params) σ (assignAt 3 (law2 w.params)) (rng 16 fun k => .str (nameS k)) := by
  refine Ev_comp_eq (onInt fun k => some (.str (nameS k.toNat))) (ds := rangeD 0 1 16) rfl rfl (compNm_of rfl) (EvIt_range1 (m := 16) rfl glo_range rfl (fun _ => rfl) Ev_int rfl (by decide)) (fun _ _ => rfl) (fun d hd => ?_) (by decide)
  obtain ⟨i, hi, rfl⟩ := mem_range0 hd
  refine Item.mk (.name (.inr rfl)) ?_
  refine Ev_bin (a := .str (Str.ofString "/")) (b := .str ⟨#[chb i 3, chb i 2, chb i 1, chb i 0]⟩) Ev_str ?_ (op_add_str (show 1 + 4 ≤ 2 ^ 24 by decide))
  refine Ev_meth (od := .str (Str.ofString "")) (ds := [strsD [⟨#[chb i 3]⟩, ⟨#[chb i 2]⟩, ⟨#[chb i 1]⟩, ⟨#[chb i 0]⟩]]) Ev_str (fun _ => rfl) (EvArgs_cons ?_ EvArgs_nil fun _ => rfl) (meth_join rfl) (fun _ => rfl) (fun _ => rfl) rfl
  refine Ev_comp_eq (onInt fun p => some (.str ⟨#[chb i p.toNat]⟩)) (ds := [.int 3, .int 2, .int 1, .int 0]) rfl rfl (compNm_of rfl) (EvIt_list rfl (Ev_list (EvArgs_cons Ev_int (EvArgs_cons Ev_int (EvArgs_cons Ev_int (EvArgs_cons Ev_int EvArgs_nil fun _ => rfl) fun _ => rfl) fun _ => rfl) fun _ => rfl) (by decide))) (fun _ _ => rfl) (fun d hd => ?_) (by decide)
  simp only [List.mem_cons, List.not_mem_nil, or_false] at hd
  rcases hd with rfl | rfl | rfl | rfl
  · exact Item.mk (.name (.inl rfl)) (bit_item (k := ⟨i, hi⟩) (p := 3) (by decide) rfl rfl)
  · exact Item.mk (.name (.inl rfl)) (bit_item (k := ⟨i, hi⟩) (p := 2) (by decide) rfl rfl)
  · exact Item.mk (.name (.inl rfl)) (bit_item (k := ⟨i, hi⟩) (p := 1) (by decide) rfl rfl)
  · exact Item.mk (.name (.inl rfl)) (bit_item (k := ⟨i, hi⟩) (p := 0) (by decide) rfl rfl)

theorem mem_rng {n : Nat} {f : Nat → D} {d : D} (h : d ∈ (List.range n).map f) : ∃ i : Nat, i < n ∧ d = f i := by
  obtain ⟨i, hi, rfl⟩ := List.mem_map.mp h
  exact ⟨i, List.mem_range.mp hi, rfl⟩
theorem letters_item {c : Int} : lettersL[(c.fmod 3).toNat]? = some (tabOf c) := by
  have h1 : 0 ≤ c.fmod 3 := Int.fmod_nonneg_of_pos _ (by decide)
  have h2 : c.fmod 3 < 3 := Int.fmod_lt_of_pos _ (by decide)
  have : (c.fmod 3).toNat < lettersL.length := by show _ < 3; omega
  unfold tabOf
  rw [List.getElem?_eq_getElem this]; rfl
theorem table_ev (h1 : σ.lookup (Str.ofString "cells") = some (.val (rng 16 fun k => .int (c k)))) (h2 : σ.lookup (Str.ofString "letters") = some (.val (strsD lettersL))) :
    Ev (Y2 B) n (nm2 w.params) σ (assignAt 4 (law2 w.params)) (rng 16 fun k => .str (tb c k)) := by
  refine Ev_comp_eq (onInt fun k => some (.str (tabOf k))) (ds := (List.range 16).map fun k => .int (c k)) rfl rfl (compNm_of rfl) (EvIt_list rfl (Ev_name h1 rfl rfl)) (fun _ _ => rfl) (fun d hd => ?_) (by simp)
  obtain ⟨i, hi, rfl⟩ := mem_rng hd
  have g1 : 0 ≤ (c i).fmod 3 := Int.fmod_nonneg_of_pos _ (by decide)
  have g2 : (c i).fmod 3 < 3 := Int.fmod_lt_of_pos _ (by decide)
  exact Item.mk (.name (.inl rfl)) (Ev_sub (Ev_name (kept_get rfl h2) rfl rfl) (Ev_bin (Ev_name rfl rfl rfl) Ev_int (op_mod_int (by decide))) (op_item g1 (by omega) (by rw [List.getElem?_map, letters_item]; rfl)) (fun _ _ => rfl) (.inl rfl))
theorem delays_ev (h1 : σ.lookup (Str.ofString "cells") = some (.val (rng 16 fun k => .int (c k)))) :
    Ev (Y2 B) n (nm2 w.params) σ (assignAt 5 (law2 w.params)) (rng 16 (dl c)) := by
  refine Ev_comp_eq (onInt fun k => some (delOf k)) (ds := (List.range 16).map fun k => .int (c k)) rfl rfl (compNm_of rfl) (EvIt_list rfl (Ev_name h1 rfl rfl)) (fun _ _ => rfl) (fun d hd => ?_) (by simp)
  obtain ⟨i, hi, rfl⟩ := mem_rng hd
  refine Item.mk (.name (.inl rfl)) (Ev_if (b := ((c i).fdiv 3).fmod 3 != 0) (EvT_val (Ev_bin (Ev_bin (Ev_name rfl rfl rfl) Ev_int (op_div_int (by decide) (by decide))) Ev_int (op_mod_int (by decide))) truth_int fun _ _ => rfl) (fun h => ?_) fun h => ?_)
  · unfold delOf
    rw [if_pos h]
    exact Ev_bin (Ev_bin (Ev_name rfl rfl rfl) Ev_int (op_div_int (by decide) (by decide))) Ev_int (op_mod_int (by decide))
  · unfold delOf
    rw [if_neg (by rw [h]; decide)]
    exact Ev_none
theorem lpick_of {xs : List D} {lo hi st : Option Int} {is : List Nat} (m : Nat) (hn : xs.length = m) (h : sliceRange (sliceBounds lo hi st m).1 (sliceBounds lo hi st m).2.1 (sliceBounds lo hi st m).2.2 = is) : lpick xs lo hi st = is.filterMap (xs[·]?) := by
  unfold lpick
  rw [hn, h]
theorem rates_a {f : Nat → D} : lpick ((List.range 16).map f) (some (-1)) none none = [f 15] := by
  rw [lpick_of (is := [15]) 16 (by simp) (by decide +kernel)]
  simp
theorem rates_b {f : Nat → D} : lpick ((List.range 16).map f) none (some (-1)) none = (List.range 15).map f := by
  rw [lpick_of (is := List.range 15) 16 (by simp) (by decide +kernel)]
  simp [List.range_succ]
theorem rates_c {c : Nat → Int} : [dl c 15] ++ (List.range 15).map (dl c) = (List.range 16).map (rt c) := by
  simp [List.range_succ, rt]
theorem rates_ev (h1 : σ.lookup (Str.ofString "delays") = some (.val (rng 16 (dl c)))) : Ev (Y2 B) n (nm2 w.params) σ (assignAt 6 (law2 w.params)) (rng 16 (rt c)) := by
  have e1 := fun p1 p2 p3 p4 i p5 => Ev_slice_list (Y := Y2 B) (n := n) (nm := nm2 w.params) (sp := p3) (p := p4) (l := some (-1)) (u := none) (t := none) (Ev_name (p := p1) h1 rfl rfl) (EvPart_some (Ev_un (p := p2) (Ev_int (k := i) (p := p5)) op_neg_int)) EvPart_none EvPart_none (by decide) (by simp)
  have e2 := fun p1 p2 p3 p4 i p5 => Ev_slice_list (Y := Y2 B) (n := n) (nm := nm2 w.params) (sp := p3) (p := p4) (l := none) (u := some (-1)) (t := none) (Ev_name (p := p1) h1 rfl rfl) EvPart_none (EvPart_some (Ev_un (p := p2) (Ev_int (k := i) (p := p5)) op_neg_int)) EvPart_none (by decide) (by simp)
  simp only [rates_a, rates_b] at e1 e2
  have e3 := fun p p1 p2 p3 p4 i p5 q1 q2 q3 q4 j q5 => Ev_bin (p := p) (e1 p1 p2 p3 p4 i p5) (e2 q1 q2 q3 q4 j q5) (op_add_list (by simp))
  simp only [rates_c] at e3
  exact e3 _ _ _ _ _ _ _ _ _ _ _ _ _
end
end Mine
end

section
open PySem
set_option maxRecDepth 100000
set_option maxHeartbeats 4000000
namespace Mine

noncomputable def item0 : Expr → Expr
  | .List (e :: _) _ => e
  | e => e
noncomputable def recD (ua rl : List Str) (d q : D) : D := entD ua (rl.map .str) d q
section
variable {w : World} {h₁ : Heap} {mg mb : Str → Option Value} {B : Base w h₁ mg mb (K2 w.params) 76 72} {n : Nat} {σ : Sto} {c : Nat → Int}

theorem rng_item {m : Nat} {f : Nat → D} {k : Nat} (h : k < m) (hm : m ≤ 1000) : Op2 (Y2 B) n getItem (rng m f) (.int (k : Nat)) (f k) :=
  op_item (by omega) (by omega) (by simp [h])
theorem flat_one {m : Nat} {d : D} : (List.replicate m [d]).flatten = List.replicate m d := by
  induction m with
  | zero => rfl
  | succ m ih => rw [List.replicate_succ, List.flatten_cons, ih]; rfl
theorem agents_ev (h1 : σ.lookup (Str.ofString "cells") = some (.val (rng 16 fun k => .int (c k)))) (h2 : σ.lookup (Str.ofString "table") = some (.val (rng 16 fun k => .str (tb c k)))) :
    Ev (Y2 B) n (nm2 w.params) σ (item0 (assignAt 7 (law2 w.params))) (rng 16 fun k => strsD (ag0 c k)) := by
  refine Ev_comp_eq (onInt fun k => some (strsD (ag0 c k.toNat))) (ds := rangeD 0 1 16) rfl rfl (compNm_of rfl) (EvIt_range1 (m := 16) rfl glo_range rfl (fun _ => rfl) Ev_int rfl (by decide)) (fun _ _ => rfl) (fun d hd => ?_) (by decide)
  obtain ⟨i, hi, rfl⟩ := mem_range0 hd
  have g1 : 0 ≤ ((c i).fdiv 27).fmod 2 := Int.fmod_nonneg_of_pos _ (by decide)
  have g2 : ((c i).fdiv 27).fmod 2 < 2 := Int.fmod_lt_of_pos _ (by decide)
  have e : strsD (ag0 c i) = .list (List.replicate (1 + ((c i).fdiv 27).fmod 2).toNat [D.str (tb c i)]).flatten := by
    rw [flat_one]; simp [strsD, ag0]
  have hd' : onInt (fun k => some (strsD (ag0 c k.toNat))) (.int (i : Nat)) = some (strsD (ag0 c i)) := rfl
  rw [hd', e]
  exact Item.mk (.name (.inl rfl)) (Ev_bin (Ev_list (EvArgs_cons (Ev_sub (Ev_name (kept_get rfl h2) rfl rfl) (Ev_name rfl rfl rfl) (rng_item hi (by decide)) (fun _ _ => rfl) (.inl rfl)) EvArgs_nil fun _ => rfl) (by simp))
    (Ev_bin Ev_int (Ev_bin (Ev_bin (Ev_sub (Ev_name (kept_get rfl h1) rfl rfl) (Ev_name rfl rfl rfl) (rng_item hi (by decide)) (fun _ _ => rfl) (.inl rfl)) Ev_int (op_div_int (by decide) (by decide))) Ev_int (op_mod_int (by decide))) op_add_int)
    (op_mul_list (by omega) (by omega) (by simp) (by simp)))
theorem fewest_ev (h1 : σ.lookup (Str.ofString "letters") = some (.val (strsD lettersL))) (h2 : σ.lookup (Str.ofString "table") = some (.val (rng 16 fun k => .str (tb c k)))) :
    Ev (Y2 B) n (nm2 w.params) σ (item0 (assignAt 8 (law2 w.params))) (rng 16 fun k => intsD (few0 c k)) := by
  refine Ev_comp_eq (fun d => some (intsD (lettersL.map fun l => if l == strOf d then 0 else 99))) (ds := (List.range 16).map fun k => .str (tb c k)) rfl rfl (compNm_of rfl) (EvIt_list rfl (Ev_name h2 rfl rfl)) (fun _ _ => rfl) (fun d hd => ?_) (by simp)
  obtain ⟨i, hi, rfl⟩ := mem_rng hd
  refine Item.mk (.name (.inr rfl)) ?_
  refine Ev_comp_eq (fun l => some (.int (if strOf l == tb c i then 0 else 99))) (ds := lettersL.map .str) rfl rfl (compNm_of rfl) (EvIt_list rfl (Ev_name (kept_get rfl h1) rfl rfl)) (fun _ _ => rfl) (fun d hd => ?_) (by simp [lettersL])
  obtain ⟨l, hl, rfl⟩ := List.mem_map.mp hd
  refine Item.mk (.name (.inl rfl)) (Ev_if (b := l == tb c i) (EvT_cmp (Ev_name rfl rfl rfl) (Ev_name rfl rfl rfl) op_eq_str rfl) (fun h => ?_) fun h => ?_)
  · rw [if_pos (by exact h)]; exact Ev_int
  · rw [if_neg (by show ¬ (l == tb c i) = true; rw [h]; decide)]; exact Ev_int
theorem levels_ev (h1 : σ.lookup (Str.ofString "agents") = some (.own [rng 16 fun k => strsD (ag0 c k)])) (h2 : σ.lookup (Str.ofString "names") = some (.val (rng 16 fun k => .str (nameS k))))
    (h3 : σ.lookup (Str.ofString "delays") = some (.val (rng 16 (dl c)))) (h4 : σ.lookup (Str.ofString "rates") = some (.val (rng 16 (rt c)))) :
    Ev (Y2 B) (n + 3) (nm2 w.params) σ (item0 (assignAt 9 (law2 w.params))) (rng 16 fun k => recD (ag0 c k) [nameS k] (dl c k) (rt c k)) := by
  refine Ev_comp_eq (onInt fun k => some (recD (ag0 c k.toNat) [nameS k.toNat] (dl c k.toNat) (rt c k.toNat))) (ds := rangeD 0 1 16) rfl rfl (compNm_of rfl) (EvIt_range1 (m := 16) rfl glo_range rfl (fun _ => rfl) Ev_int rfl (by decide)) (fun _ _ => rfl) (fun d hd => ?_) (by decide)
  obtain ⟨i, hi, rfl⟩ := mem_range0 hd
  refine Item.mk (.name (.inl rfl)) (Ev_call rfl glo_rec rfl (.fn _ _ _ (top2 B (k2_70 _)) rfl) (fun _ => rfl) (EvArgs_cons (d := strsD (ag0 c i)) ?_ (EvArgs_cons (Ev_list (EvArgs_cons (Ev_sub (Ev_name (kept_get rfl h2) rfl rfl) (Ev_name rfl rfl rfl) (rng_item hi (by decide)) (fun _ _ => rfl) (.inl rfl)) EvArgs_nil fun _ => rfl) (by simp))
    (EvArgs_cons (Ev_sub (Ev_name (kept_get rfl h3) rfl rfl) (Ev_name rfl rfl rfl) (rng_item hi (by decide)) (fun _ _ => rfl) (.inl rfl)) (EvArgs_cons (Ev_sub (Ev_name (kept_get rfl h4) rfl rfl) (Ev_name rfl rfl rfl) (rng_item hi (by decide)) (fun _ _ => rfl) (.inl rfl)) EvArgs_nil fun _ => rfl) fun _ => rfl) fun _ => rfl) fun _ => rfl) (rec2 _ _ _ _))
  have e : strsD (ag0 c i) = .list ((ag0 c i).map .str ++ []) := by simp [strsD]
  have g2 : ((c i).fdiv 27).fmod 2 < 2 := Int.fmod_lt_of_pos _ (by decide)
  rw [e]
  exact Ev_bin (Ev_sub (Ev_own_item (kept_get rfl h1) rfl rfl Ev_int (fun _ _ => rfl) (by decide) (by decide) rfl) (Ev_name rfl rfl rfl) (rng_item hi (by decide)) (fun _ _ => rfl) (.inl rfl)) (Ev_list EvArgs_nil (by simp)) (op_add_list (by simp [ag0]; omega))
end
end Mine
end

section
open PySem
set_option maxRecDepth 100000
set_option maxHeartbeats 4000000
namespace Mine

theorem four {l : Nat} (h : l < 4) : l = 0 ∨ l = 1 ∨ l = 2 ∨ l = 3 := by omega
theorem five {d : Nat} (h : d < 5) : d = 0 ∨ d = 1 ∨ d = 2 ∨ d = 3 ∨ d = 4 := by omega
theorem nat_hi {k : Nat} (h : k < 1000000) : ((k : Nat) : Int) < 1000000 := by omega
theorem abs_hi {k : Nat} (h : k < 1000000) : ((k : Nat) : Int).natAbs < 2 ^ 64 := by omega
theorem nat_lo {k : Nat} : (0 : Int) ≤ ((k : Nat) : Int) := Int.natCast_nonneg k

noncomputable def heardF (a b : List Str) (x y : List Int) : List Str :=
  (a ++ if minI x + minI y < minI (fewF x y) then b else []).filter fun s => valAt (fewF x y) (lettersL.idxOf s) == minI (fewF x y)
noncomputable def bothUa (a b : List Str) : List Str := if keepIn b a = [] then a ++ b else keepIn b a
noncomputable def joinN (a b : List Str) : Int := if keepIn b a = [] then 1 else 0
section
variable (c : Nat → Int)
noncomputable def fewT : Nat → Nat → List Int
  | 0, k => few0 c k
  | l + 1, j => fewF (fewT l (2 * j)) (fewT l (2 * j + 1))
noncomputable def agT : Nat → Nat → List Str
  | 0, k => ag0 c k
  | l + 1, j => heardF (agT l (2 * j)) (agT l (2 * j + 1)) (fewT c l (2 * j)) (fewT c l (2 * j + 1))
noncomputable def uaT : Nat → Nat → List Str
  | 0, k => ag0 c k
  | l + 1, j => bothUa (uaT l (2 * j)) (uaT l (2 * j + 1))
noncomputable def rlT : Nat → Nat → List Str
  | 0, k => [nameS k]
  | l + 1, j => rlT l (2 * j) ++ rlT l (2 * j + 1)
noncomputable def dlT : Nat → Nat → D
  | 0, k => dl c k
  | l + 1, j => pickD (dlT l (2 * j)) (dlT l (2 * j + 1))
noncomputable def rtT : Nat → Nat → D
  | 0, k => rt c k
  | l + 1, j => pickD (rtT l (2 * j)) (rtT l (2 * j + 1))
noncomputable def recT (l k : Nat) : D := recD (uaT c l k) (rlT l k) (dlT c l k) (rtT c l k)
noncomputable def joinsAt (l : Nat) : Nat → Int
  | 0 => 0
  | j + 1 => joinsAt l j + joinN (uaT c l (2 * j)) (uaT c l (2 * j + 1))
noncomputable def joinsTo : Nat → Int
  | 0 => 0
  | l + 1 => joinsTo l + joinsAt c l (8 / 2 ^ l)
noncomputable def lvls (f : Nat → Nat → D) (l : Nat) : List D := (List.range (l + 1)).map fun i => rng (16 / 2 ^ i) (f i)
end

section
variable {c : Nat → Int}
theorem few0_len {k : Nat} : (few0 c k).length = 3 := by simp [few0, lettersL]
theorem fewT_len : ∀ {l k : Nat}, (fewT c l k).length = 3
  | 0, _ => few0_len
  | l + 1, j => rfl
theorem ag0_len {k : Nat} : (ag0 c k).length ≤ 2 := by
  have : ((c k).fdiv 27).fmod 2 < 2 := Int.fmod_lt_of_pos _ (by decide)
  simp [ag0]; omega
theorem agT_len : ∀ {l k : Nat}, (agT c l k).length ≤ 2 ^ (l + 1)
  | 0, _ => ag0_len
  | l + 1, j => by
    have h1 := agT_len (l := l) (k := 2 * j)
    have h2 := agT_len (l := l) (k := 2 * j + 1)
    unfold agT heardF
    refine Nat.le_trans (List.length_filter_le ..) ?_
    rw [List.length_append, Nat.pow_succ]
    split
    · omega
    · simp; omega
theorem uaT_len : ∀ {l k : Nat}, (uaT c l k).length ≤ 2 ^ (l + 1)
  | 0, _ => ag0_len
  | l + 1, j => by
    have h1 := uaT_len (l := l) (k := 2 * j)
    have h2 := uaT_len (l := l) (k := 2 * j + 1)
    unfold uaT bothUa
    split
    · rw [List.length_append, Nat.pow_succ]; omega
    · refine Nat.le_trans (List.length_filter_le ..) ?_
      rw [Nat.pow_succ]; omega
theorem rlT_len : ∀ {l k : Nat}, (rlT l k).length = 2 ^ l
  | 0, _ => rfl
  | l + 1, j => by
    unfold rlT
    rw [List.length_append, rlT_len, rlT_len, Nat.pow_succ]; omega
theorem tabOf_mem {x : Int} : tabOf x ∈ lettersL := List.mem_of_getElem? letters_item
theorem ag0_mem {k : Nat} : ∀ s ∈ ag0 c k, s ∈ lettersL := fun s hs => by
  rw [(List.mem_replicate.mp hs).2]; exact tabOf_mem
theorem agT_mem : ∀ {l k : Nat}, ∀ s ∈ agT c l k, s ∈ lettersL
  | 0, _ => ag0_mem
  | l + 1, j => fun s hs => by
    unfold agT heardF at hs
    have := (List.mem_filter.mp hs).1
    rw [List.mem_append] at this
    rcases this with h | h
    · exact agT_mem s h
    · split at h
      · exact agT_mem s h
      · cases h
theorem dl_num {k : Nat} : NumD (dl c k) := by unfold dl delOf; split <;> trivial
theorem dlT_num : ∀ {l k : Nat}, NumD (dlT c l k)
  | 0, _ => dl_num
  | l + 1, j => by
    have h1 := dlT_num (l := l) (k := 2 * j)
    have h2 := dlT_num (l := l) (k := 2 * j + 1)
    unfold dlT pickD
    split <;> assumption
theorem rtT_num : ∀ {l k : Nat}, NumD (rtT c l k)
  | 0, _ => dl_num
  | l + 1, j => by
    have h1 := rtT_num (l := l) (k := 2 * j)
    have h2 := rtT_num (l := l) (k := 2 * j + 1)
    unfold rtT pickD
    split <;> assumption
theorem NumD.small {d : D} (h : NumD d) : Small d := by cases d <;> simp_all [NumD, Small]
end
end Mine
end

section
open PySem
set_option maxRecDepth 100000
set_option maxHeartbeats 4000000
namespace Mine

theorem not_inter {nm : Nm} : ∀ env, EnvOk nm env → interactive env = false := fun env hE => by
  unfold interactive
  rw [hE.kind]
  rfl

section
variable (c : Nat → Int)
noncomputable def fixSto (scr : List Int) : Sto := [(Str.ofString "rates", .val (rng 16 (rt c))), (Str.ofString "delays", .val (rng 16 (dl c))), (Str.ofString "table", .val (rng 16 fun k => .str (tb c k))), (Str.ofString "names", .val (rng 16 fun k => .str (nameS k))),
  (Str.ofString "letters", .val (strsD lettersL)), (Str.ofString "cells", .val (rng 16 fun k => .int (c k))), (Str.ofString "script", .val (intsD scr))]
noncomputable def midSto (scr : List Int) (l j : Nat) : Sto := [(Str.ofString "counts", .own ((List.range j).map fun i => intsD (fewT c (l + 1) i))), (Str.ofString "heard", .own ((List.range j).map fun i => strsD (agT c (l + 1) i))), (Str.ofString "row", .own ((List.range j).map (recT c (l + 1)))),
  (Str.ofString "joins", .val (.int (joinsTo c l + joinsAt c l j))), (Str.ofString "level", .val (.int (l : Nat))), (Str.ofString "levels", .own (lvls (recT c) l)), (Str.ofString "fewest", .own (lvls (fun i k => intsD (fewT c i k)) l)), (Str.ofString "agents", .own (lvls (fun i k => strsD (agT c i k)) l))] ++ fixSto c scr
end

section
variable {w : World} {h₁ : Heap} {mg mb : Str → Option Value} {B : Base w h₁ mg mb (K2 w.params) 76 72} {n : Nat} {σ : Sto} {c : Nat → Int}

theorem lvls_item {f : Nat → Nat → D} {l i : Nat} (h : i ≤ l) : (lvls f l)[((i : Nat) : Int).toNat]? = some (rng (16 / 2 ^ i) (f i)) := by
  have : i < l + 1 := by omega
  simp [lvls, this]
theorem at_lvl {x : Str} {f : Nat → Nat → D} {l j : Nat} {nm : Nm} {sl : Expr} {p1 p2 p3 p4 : Pos} (hx : σ.lookup x = some (.own (lvls f l))) (hd : (x == ("__debug__" : Str)) = false) (hc : (x == ("__classdict__" : Str)) = false) (hl : σ.lookup (Str.ofString "level") = some (.val (.int (l : Nat)))) (hj : j < 16 / 2 ^ l) (hlz : l ≤ 4)
    (hs : Ev (Y2 B) n nm σ sl (.int (j : Nat))) (hs1 : ∀ o i, subscripted sl false o i = operate [o, i] (getItem o i)) :
    Ev (Y2 B) n nm σ (.Subscript (.Subscript (.Name x p1) (.Name (Str.ofString "level") p2) p3) sl p4) (f l j) :=
  Ev_sub (Ev_own_item hx hd hc (Ev_name hl rfl rfl) (fun _ _ => rfl) (by omega) (by omega) (lvls_item (Nat.le_refl _))) hs (rng_item hj (Nat.le_trans (Nat.div_le_self ..) (by decide))) hs1 (.inl rfl)
end
end Mine
end

section
open PySem
set_option maxRecDepth 100000
set_option maxHeartbeats 400000
namespace Mine
section
variable {Y : Law} {n : Nat} {nm : Nm} {σ : Sto}
theorem local_kind {env : Env} {x : Str} (hE : EnvOk nm env) (h : nm.lookup x = some .local) : env.kindOf x = some .local := by
  rcases hE.kinds _ _ h with h | ⟨h, _⟩
  · exact h
  · cases h
noncomputable def starB : Expr → Bool
  | .Starred .. => true
  | _ => false
noncomputable def locB (env : Env) (l : Nat) : Expr → Option Str
  | .Name id pos => if env.kindOf id == some .local && pos.line == l then some id else none
  | _ => none
noncomputable def swTail (ts vs : List Expr) (env : Env) : Sem (Option (List Str)) := do
  if !(ts.length == 2 || ts.length == 3) || vs.length != ts.length || env.blockKind != .function then return none
  if vs.any starB then return none
  let line := (ts.head?.map (·.pos.line)).getD 0
  let names := ts.filterMap (locB env line)
  if names.length != ts.length || names.eraseDups.length != names.length then return none
  if vs.all (foldedForSure 8) then return none
  if vs.all (constantsAlone 8) then unsupported "assign.tuple-of-constant-expressions:order-of-the-stores"
  return some names
theorem sw_is {ts vs : List Expr} {p1 p2 : Pos} {i q : Nat} {env : Env} : swappedStores [.Tuple ts i p1] (.Tuple vs q p2) env = swTail ts vs env := rfl
theorem swapped2 {x y : Str} {p1 p2 tp vp : Pos} {i q : Nat} {a b : Expr} (hx : nm.lookup x = some .local) (hy : nm.lookup y = some .local) (hl : (p2.line == p1.line) = true) (hxy : (x == y) = false)
    (hs : (starB a || starB b) = false) (hf : (foldedForSure 8 a && foldedForSure 8 b) = false) (hc : (constantsAlone 8 a && constantsAlone 8 b) = false) :
    ∀ env, EnvOk nm env → swappedStores [.Tuple [.Name x p1, .Name y p2] i tp] (.Tuple [a, b] q vp) env = pure (some [x, y]) := fun env hE => by
  have kx := local_kind hE hx
  have ky := local_kind hE hy
  have hb : env.blockKind = .function := by unfold Env.blockKind; rw [hE.kind]; rfl
  have hne : x ≠ y := by intro h; subst h; simp at hxy
  have hs' : [a, b].any starB = false := by simpa using hs
  have hf' : [a, b].all (foldedForSure 8) = false := by simp only [List.all_cons, List.all_nil, Bool.and_true]; exact hf
  have hc' : [a, b].all (constantsAlone 8) = false := by simp only [List.all_cons, List.all_nil, Bool.and_true]; exact hc
  have e1 : locB env p1.line (.Name x p1) = some x := by
    show (if (env.kindOf x == some .local && p1.line == p1.line) = true then some x else none) = some x
    have hl1 : (p1.line == p1.line) = true := beq_self_eq_true _
    rw [kx, hl1]; rfl
  have e2 : locB env p1.line (.Name y p2) = some y := by
    show (if (env.kindOf y == some .local && p2.line == p1.line) = true then some y else none) = some y
    rw [ky, hl]; rfl
  have hn : [Expr.Name x p1, .Name y p2].filterMap (locB env p1.line) = [x, y] := by
    rw [List.filterMap_cons_some e1, List.filterMap_cons_some e2]; rfl
  have hd : [x, y].eraseDups = [x, y] := by simp [List.eraseDups_cons, hne, Ne.symm hne]
  rw [sw_is]
  unfold swTail
  have hp : (Expr.Name x p1).pos = p1 := rfl
  simp only [hb, hs', hf', hc', List.head?_cons, Option.map_some, Option.getD_some, hp, hn, hd]
  rfl
end
end Mine
end

section
open PySem
set_option maxRecDepth 100000
set_option maxHeartbeats 4000000
namespace Mine

theorem Sub.cons2 {p : Str × Sl} {a b : Sto} (h : Sub a b) : Sub (p :: a) (p :: b) := fun y s hy => by
  rw [List.lookup_cons] at hy ⊢
  split
  · rename_i hb; rw [hb] at hy; exact hy
  · rename_i hb; rw [hb] at hy; exact h y s hy
theorem Sub.shadow {x : Str} {u v : Sl} {a : Sto} : Sub ((x, u) :: a) ((x, u) :: (x, v) :: a) := fun y s hy => by
  rw [List.lookup_cons] at hy ⊢
  split
  · rename_i hb; rw [hb] at hy; exact hy
  · rename_i hb; rw [hb] at hy; rw [List.lookup_cons, hb]; exact hy

theorem range_map_succ {f : Nat → D} {j : Nat} : (List.range (j + 1)).map f = (List.range j).map f ++ [f j] := by simp [List.range_succ]
noncomputable abbrev inner2 (P : Params) : List Stmt := forBody 1 (forBody 11 (law2 P))
section
variable {w : World} {h₁ : Heap} {mg mb : Str → Option Value} {B : Base w h₁ mg mb (K2 w.params) 76 72} {n : Nat} {σ : Sto} {c : Nat → Int}

theorem Ev_k1 {nm : Nm} {k : Nat} {p q r : Pos} {i : Nat} (h : σ.lookup (Str.ofString "k") = some (.val (.int (k : Nat)))) : Ev (Y2 B) n nm σ (.BinOp (.Name (Str.ofString "k") p) .Add (.Constant (.int 1) i q) r) (.int ((k + 1 : Nat) : Int)) :=
  Ev_bin (Ev_name h rfl rfl) Ev_int op_add_int
theorem pow_half {l : Nat} (hl : l < 4) : 16 / 2 ^ l = 2 * (8 / 2 ^ l) := by
  rcases four hl with rfl | rfl | rfl | rfl <;> rfl
theorem pow_le8 {l : Nat} (hl : l < 4) : 2 ^ l ≤ 8 := by
  rcases four hl with rfl | rfl | rfl | rfl <;> decide
theorem two_lt {j m : Nat} (h : j < m) : 2 * j < 2 * m ∧ 2 * j + 1 < 2 * m := by omega
theorem lvl_facts {l j : Nat} (hl : l < 4) (hj : j < 8 / 2 ^ l) : 2 * j < 16 / 2 ^ l ∧ 2 * j + 1 < 16 / 2 ^ l := by
  rw [pow_half hl]; exact two_lt hj
theorem ua_small {l k : Nat} (hl : l < 4) : (uaT c l k).length ≤ 16 := Nat.le_trans uaT_len (by rw [Nat.pow_succ]; exact Nat.mul_le_mul_right 2 (pow_le8 hl))
theorem ag_small {l k : Nat} (hl : l < 4) : (agT c l k).length ≤ 16 := Nat.le_trans agT_len (by rw [Nat.pow_succ]; exact Nat.mul_le_mul_right 2 (pow_le8 hl))
theorem rl_small {l k : Nat} (hl : l < 4) : ((rlT l k).map D.str).length ≤ 8 := by rw [List.length_map, rlT_len]; exact pow_le8 hl
theorem add_small {a b : Nat} (h1 : a ≤ 16) (h2 : b ≤ 16) : a + b ≤ 1000 := Nat.le_trans (Nat.add_le_add h1 h2) (by decide)
theorem rm_len {f : Nat → D} {j : Nat} (h : j < 1000) : ((List.range j).map f).length ≤ 100000 := by rw [List.length_map, List.length_range]; exact Nat.le_of_lt (Nat.lt_trans h (by decide))
theorem own_last {xs : List D} {d : D} {x : Str} {xp p q : Pos} {i : Nat} {nm : Nm} (hx : σ.lookup x = some (.own (xs ++ [d]))) (hd : (x == ("__debug__" : Str)) = false) (hc : (x == ("__classdict__" : Str)) = false) {r : Pos} :
    Ev (Y2 B) n nm σ (.Subscript (.Name x xp) (.UnaryOp .USub (.Constant (.int 1) i q) r) p) d :=
  Ev_own_item_neg hx hd hc (Ev_un Ev_int op_neg_int) (fun _ _ => rfl) (by decide) (by simp only [List.length_append, List.length_cons, List.length_nil]; omega) (by decide) (by
    have : ((-1 : Int) + ((xs ++ [d]).length : Int)).toNat = xs.length := by simp only [List.length_append, List.length_cons, List.length_nil]; omega
    rw [this]; simp)

noncomputable def preSto (c : Nat → Int) (scr : List Int) (l j : Nat) : Sto :=
  (Str.ofString "left", .val (recT c l (2 * j))) :: (Str.ofString "right", .val (recT c l (2 * j + 1))) :: (Str.ofString "k", .val (.int ((2 * j : Nat) : Int))) :: midSto c scr l j
noncomputable def postSto (c : Nat → Int) (scr : List Int) (l j : Nat) : Sto :=
  (Str.ofString "joins", .val (.int (joinsTo c l + joinsAt c l (j + 1)))) :: (Str.ofString "both", .val (recT c (l + 1) j)) :: preSto c scr l j

theorem inner_a {scr : List Int} {l j : Nat} (hl : l < 4) (hj : j < 8 / 2 ^ l) {ss : List Stmt} {σ' : Sto} (h : Ex (Y2 B) (n + 4) (nm2 w.params) (postSto c scr l j) ss .next σ') :
    Ex (Y2 B) (n + 4) (nm2 w.params) ((Str.ofString "k", .val (.int ((2 * j : Nat) : Int))) :: midSto c scr l j) ((inner2 w.params).take 3 ++ ss) .next σ' := by
  have hf := lvl_facts hl hj
  have hl4 := Nat.le_of_lt hl
  refine Ex_cons (Ex1_swapped (xs := [Str.ofString "left", Str.ofString "right"]) (sls := [.val (recT c l (2 * j)), .val (recT c l (2 * j + 1))]) ?_
    (EvSls_val (at_lvl rfl rfl rfl rfl hf.1 hl4 (Ev_name rfl rfl rfl) (fun _ _ => rfl)) (EvSls_val (at_lvl rfl rfl rfl rfl hf.2 hl4 (Ev_k1 rfl) (fun _ _ => rfl)) EvSls_nil fun _ => rfl) fun _ => rfl) rfl (by simp) (fun _ => rfl)
    (swapped2 rfl rfl rfl rfl rfl rfl rfl)) ?_
  · intro x hx; simp only [List.mem_cons, List.not_mem_nil, or_false] at hx; rcases hx with rfl | rfl <;> exact .inl rfl
  show Ex _ _ _ (preSto c scr l j) _ _ _
  have hu1 := ua_small (c := c) (k := 2 * j) hl
  have hu2 := ua_small (c := c) (k := 2 * j + 1) hl
  have z3 := Nat.le_trans (Nat.add_le_add (rl_small (k := 2 * j) hl) (rl_small (k := 2 * j + 1) hl)) (show 8 + 8 ≤ 1000 by decide)
  refine Ex_cons (Ex1_assign (.inl rfl) (Ev_call rfl glo_merge rfl (.fn _ _ _ (top2 B (k2_63 _)) rfl) (fun _ => rfl) (EvArgs_cons (Ev_name rfl rfl rfl) (EvArgs_cons (Ev_name rfl rfl rfl) EvArgs_nil fun _ => rfl) fun _ => rfl)
    (merge2 (Nat.le_trans hu1 (by decide)) (Nat.le_trans hu2 (by decide)) z3 dlT_num.small dlT_num.small rtT_num.small rtT_num.small)) fun _ _ => rfl) ?_
  have hjn : joinsAt c l (j + 1) = joinsAt c l j + joinN (uaT c l (2 * j)) (uaT c l (2 * j + 1)) := rfl
  have hrl : rlT (l + 1) j = rlT l (2 * j) ++ rlT l (2 * j + 1) := rfl
  have hua : uaT c (l + 1) j = bothUa (uaT c l (2 * j)) (uaT c l (2 * j + 1)) := rfl
  have hrec : recT c (l + 1) j = entD (bothUa (uaT c l (2 * j)) (uaT c l (2 * j + 1))) ((rlT l (2 * j)).map .str ++ (rlT l (2 * j + 1)).map .str) (pickD (dlT c l (2 * j)) (dlT c l (2 * j + 1))) (pickD (rtT c l (2 * j)) (rtT c l (2 * j + 1))) := by
    rw [← List.map_append]; rfl
  refine Ex_cons ?_ h
  by_cases he : keepIn (uaT c l (2 * j + 1)) (uaT c l (2 * j)) = []
  · have e1 : joinN (uaT c l (2 * j)) (uaT c l (2 * j + 1)) = 1 := if_pos he
    have e2 : bothUa (uaT c l (2 * j)) (uaT c l (2 * j + 1)) = uaT c l (2 * j) ++ uaT c l (2 * j + 1) := if_pos he
    refine Ex1_if (c := true) (EvT_cmp (Ev_ua ent2 (Ev_name rfl rfl rfl) trivial fun _ => rfl) (Ev_list EvArgs_nil (by simp)) (by rw [he]; exact op_eq_list_same rfl (by decide)) rfl) (fun _ => ?_) (fun h => by cases h)
    refine Ex_post (Ex_cons (Ex1_assign (.inl rfl) (Ev_call rfl glo_rec rfl (.fn _ _ _ (top2 B (k2_70 _)) rfl) (fun _ => rfl) (EvArgs_cons (Ev_bin (Ev_ua ent2 (Ev_name rfl rfl rfl) trivial fun _ => rfl) (Ev_ua ent2 (Ev_name rfl rfl rfl) trivial fun _ => rfl) (op_add_list ?_))
      (EvArgs_cons (Ev_rl ent2 (Ev_name rfl rfl rfl) trivial fun _ => rfl) (EvArgs_cons (Ev_dl ent2 (Ev_name rfl rfl rfl) ?_ fun _ => rfl) (EvArgs_cons (Ev_rr ent2 (Ev_name rfl rfl rfl) ?_ fun _ => rfl) EvArgs_nil fun _ => rfl) fun _ => rfl) fun _ => rfl) fun _ => rfl) (rec2 _ _ _ _)) fun _ _ => rfl)
      (Ex_cons (Ex1_assign (.inl rfl) (Ev_bin (Ev_name rfl rfl rfl) Ev_int op_add_int) fun _ _ => rfl) Ex_nil)) ?_
    · rw [List.length_map, List.length_map]; exact add_small hu1 hu2
    · exact (dlT_num (c := c) (l := l + 1) (k := j)).small.noRaw
    · exact (rtT_num (c := c) (l := l + 1) (k := j)).small.noRaw
    · unfold postSto
      rw [hjn, e1, ← Int.add_assoc, hrec, e2]
      unfold entD
      rw [List.map_append]
      exact Sub.cons2 Sub.shadow
  · have e1 : joinN (uaT c l (2 * j)) (uaT c l (2 * j + 1)) = 0 := if_neg he
    have e2 : bothUa (uaT c l (2 * j)) (uaT c l (2 * j + 1)) = keepIn (uaT c l (2 * j + 1)) (uaT c l (2 * j)) := if_neg he
    refine Ex1_if (c := false) (EvT_cmp (Ev_ua ent2 (Ev_name rfl rfl rfl) trivial fun _ => rfl) (Ev_list EvArgs_nil (by simp)) ?_ rfl) (fun h => by cases h) (fun _ => ?_)
    · cases hk : keepIn (uaT c l (2 * j + 1)) (uaT c l (2 * j)) with
      | nil => exact absurd hk he
      | cons a t => exact op_eq_list_nil
    refine Ex_post Ex_nil ?_
    unfold postSto
    rw [hjn, e1, Int.add_zero, hrec, e2]
    exact Sub.cons rfl Sub.rfl
end
end Mine
end

section
open PySem
set_option maxRecDepth 100000
set_option maxHeartbeats 4000000
namespace Mine

theorem filterMap_strs {xs : List Str} {p : Str → Bool} : (xs.map D.str).filterMap (fun d => if p (strOf d) then some d else none) = (xs.filter p).map D.str := by
  induction xs with
  | nil => rfl
  | cons x xs ih =>
    rw [List.map_cons, List.filterMap_cons, List.filter_cons]
    have e : strOf (D.str x) = x := rfl
    rw [e, ih]
    cases hp : p x <;> rfl

section
variable {w : World} {h₁ : Heap} {mg mb : Str → Option Value} {B : Base w h₁ mg mb (K2 w.params) 76 72} {n : Nat} {σ : Sto} {c : Nat → Int}

theorem letters_idx {s : Str} (h : s ∈ lettersL) : ∃ j, lettersL.idxOf s = j ∧ j < 3 ∧ lettersL[j]? = some s ∧ ∀ m, m < j → lettersL[m]? ≠ some s := by
  simp only [lettersL, List.mem_cons, List.not_mem_nil, or_false] at h
  rcases h with rfl | rfl | rfl
  · exact ⟨0, by decide, by decide, by decide, by intro m hm; omega⟩
  · refine ⟨1, by decide, by decide, by decide, fun m hm => ?_⟩
    rcases (by omega : m = 0) with rfl
    decide
  · refine ⟨2, by decide, by decide, by decide, fun m hm => ?_⟩
    rcases (by omega : m = 0 ∨ m = 1) with rfl | rfl <;> decide

theorem min_of {x : Str} {xp p q : Pos} {zs : List Int} (hz : zs.length = 3) (hl : σ.lookup x = some (.val (intsD zs))) (hd : (x == ("__debug__" : Str)) = false) (hc : (x == ("__classdict__" : Str)) = false) :
    Ev (Y2 B) n (nm2 w.params) σ (.Call (.Name (Str.ofString "min") p) [.Name x xp] [] q) (.int (minI zs)) :=
  Ev_call rfl glo_min rfl (.builtin "min") (fun _ => rfl) (EvArgs_cons (Ev_name hl hd hc) EvArgs_nil fun _ => rfl) (call_min_l (by intro h; rw [h] at hz; cases hz))

theorem inner_b {scr : List Int} {l j : Nat} (hl : l < 4) (hj : j < 8 / 2 ^ l) :
    Ex (Y2 B) (n + 4) (nm2 w.params) (postSto c scr l j) ((inner2 w.params).drop 3) .next (midSto c scr l (j + 1)) := by
  have hf := lvl_facts hl hj
  have hl4 := Nat.le_of_lt hl
  have hj8 : j < 1000 := Nat.lt_of_lt_of_le (Nat.lt_of_lt_of_le hj (Nat.div_le_self ..)) (by decide)
  have ha1 := ag_small (c := c) (k := 2 * j) hl
  have ha2 := ag_small (c := c) (k := 2 * j + 1) hl
  refine Ex_post (Ex_cons (Ex1_append rfl rfl rfl (Ev_name rfl rfl rfl) (fun _ => rfl) (fun _ => rfl) rfl (fun _ => rfl) not_inter (rm_len hj8))
    (Ex_cons (Ex1_swapped (xs := [Str.ofString "near", Str.ofString "far"]) (sls := [.val (intsD (fewT c l (2 * j))), .val (intsD (fewT c l (2 * j + 1)))]) ?_
      (EvSls_val (at_lvl (f := fun i k => intsD (fewT c i k)) (l := l) (j := 2 * j) rfl rfl rfl rfl hf.1 hl4 (Ev_name rfl rfl rfl) (fun _ _ => rfl)) (EvSls_val (at_lvl (f := fun i k => intsD (fewT c i k)) (l := l) (j := 2 * j + 1) rfl rfl rfl rfl hf.2 hl4 (Ev_k1 rfl) (fun _ _ => rfl)) EvSls_nil fun _ => rfl) fun _ => rfl) rfl (by simp) (fun _ => rfl)
      (swapped2 rfl rfl rfl rfl rfl rfl rfl))
    (Ex_cons (Ex1_append rfl rfl rfl (Ev_call rfl glo_fewest rfl (.fn _ _ _ (top2 B (k2_82 _)) rfl) (fun _ => rfl) (EvArgs_cons (Ev_name rfl rfl rfl) (EvArgs_cons (Ev_name rfl rfl rfl) EvArgs_nil fun _ => rfl) fun _ => rfl) (fewest2 fewT_len fewT_len))
      (fun _ => rfl) (fun _ => rfl) rfl (fun _ => rfl) not_inter (rm_len hj8))
    (Ex_cons (Ex1_assign (d := .int (minI (fewF (fewT c l (2 * j)) (fewT c l (2 * j + 1))))) (.inr rfl) (Ev_call rfl glo_min rfl (.builtin "min") (fun _ => rfl) (EvArgs_cons (own_last rfl rfl rfl) EvArgs_nil fun _ => rfl) (call_min_l (by intro h; cases h))) fun _ _ => rfl)
    (Ex_cons (Ex1_assign (d := strsD (agT c l (2 * j) ++ if minI (fewT c l (2 * j)) + minI (fewT c l (2 * j + 1)) < minI (fewF (fewT c l (2 * j)) (fewT c l (2 * j + 1))) then agT c l (2 * j + 1) else [])) (.inl rfl) ?_ fun _ _ => rfl)
    (Ex_cons (Ex1_append (d := strsD (agT c (l + 1) j)) rfl rfl rfl ?_ (fun _ => rfl) (fun _ => rfl) rfl (fun _ => rfl) not_inter (rm_len hj8)) Ex_nil)))))) ?_
  · intro x hx; simp only [List.mem_cons, List.not_mem_nil, or_false] at hx; rcases hx with rfl | rfl <;> exact .inl rfl
  · have e : ∀ b : List Str, strsD (agT c l (2 * j) ++ b) = .list ((agT c l (2 * j)).map .str ++ b.map .str) := fun b => by unfold strsD; rw [List.map_append]
    rw [e]
    refine Ev_bin (at_lvl (f := fun i k => strsD (agT c i k)) (l := l) (j := 2 * j) rfl rfl rfl rfl hf.1 hl4 (Ev_name rfl rfl rfl) (fun _ _ => rfl)) (Ev_if (b := decide (minI (fewT c l (2 * j)) + minI (fewT c l (2 * j + 1)) < minI (fewF (fewT c l (2 * j)) (fewT c l (2 * j + 1)))))
      (EvT_cmp (Ev_name rfl rfl rfl) (Ev_bin (min_of fewT_len rfl rfl rfl) (min_of fewT_len rfl rfl rfl) op_add_int) op_gt_int rfl) (fun h => ?_) (fun h => ?_)) (op_add_list ?_)
    · rw [if_pos (of_decide_eq_true h)]
      exact at_lvl (f := fun i k => strsD (agT c i k)) (l := l) (j := 2 * j + 1) rfl rfl rfl rfl hf.2 hl4 (Ev_k1 rfl) (fun _ _ => rfl)
    · rw [if_neg (of_decide_eq_false h)]
      exact Ev_list EvArgs_nil (by simp)
    · rw [List.length_map, List.length_map]
      split
      · exact add_small ha1 ha2
      · exact add_small ha1 (Nat.zero_le _)
  · refine Ev_comp_eq (fun d => if (fun s => valAt (fewF (fewT c l (2 * j)) (fewT c l (2 * j + 1))) (lettersL.idxOf s) == minI (fewF (fewT c l (2 * j)) (fewT c l (2 * j + 1)))) (strOf d) then some d else none) (filterMap_strs (p := fun s => valAt (fewF (fewT c l (2 * j)) (fewT c l (2 * j + 1))) (lettersL.idxOf s) == minI (fewF (fewT c l (2 * j)) (fewT c l (2 * j + 1))))) rfl (compNm_of rfl) (EvIt_list rfl (Ev_name rfl rfl rfl)) (fun _ _ => rfl) (fun d hd => ?_) ?_
    · obtain ⟨s, hs, rfl⟩ := List.mem_map.mp hd
      have hsl : s ∈ lettersL := by
        rw [List.mem_append] at hs
        rcases hs with h | h
        · exact agT_mem s h
        · split at h
          · exact agT_mem s h
          · cases h
      obtain ⟨i, hi, hi3, hit, hno⟩ := letters_idx hsl
      have hb : ∀ b : Bool, (if b = true then some (D.str s) else none).isSome = b := by intro b; cases b <;> rfl
      refine ⟨_, .name (.inl rfl), Tests_one ?_, fun o ho => ?_⟩
      · show EvT _ _ _ _ _ (if (valAt (fewF (fewT c l (2 * j)) (fewT c l (2 * j + 1))) (lettersL.idxOf s) == minI (fewF (fewT c l (2 * j)) (fewT c l (2 * j + 1)))) = true then some (D.str s) else none).isSome
        rw [hb, hi]
        refine EvT_cmp (Ev_sub (own_last (by exact kept_get rfl rfl) rfl rfl) (Ev_meth (od := strsD lettersL) (ds := [.str s]) (Ev_name (kept_get rfl rfl) rfl rfl) (fun _ => rfl) (EvArgs_cons (Ev_name rfl rfl rfl) EvArgs_nil fun _ => rfl) (meth_index hi3 (by decide) hit hno) (fun _ => rfl) (fun _ => rfl) rfl)
          (op_item_ints (xs := fewF (fewT c l (2 * j)) (fewT c l (2 * j + 1))) (k := i) hi3 (show 3 ≤ 1000 by decide)) (fun _ _ => rfl) (.inl rfl)) (Ev_name (kept_get rfl rfl) rfl rfl) op_eq_int rfl
      · have : o = .str s := by
          simp only at ho
          split at ho
          · cases ho; rfl
          · cases ho
        subst this
        exact Ev_name rfl rfl rfl
    · rw [List.length_map, List.length_append]
      split
      · exact Nat.le_trans (add_small ha1 ha2) (by decide)
      · exact Nat.le_trans (add_small ha1 (Nat.zero_le _)) (by decide)
  · unfold midSto
    simp only [range_map_succ]
    exact Sub.cons rfl (Sub.cons rfl (Sub.cons rfl (Sub.cons rfl (Sub.cons rfl (Sub.cons rfl (Sub.cons rfl (Sub.cons rfl (Sub.cons rfl (Sub.cons rfl (Sub.cons rfl (Sub.cons rfl (Sub.cons rfl (Sub.cons rfl (Sub.cons rfl Sub.nil))))))))))))))
end
end Mine
end

section
open PySem
set_option maxRecDepth 100000
set_option maxHeartbeats 1000000
namespace Mine

theorem three_of {xs : List Int} (h : xs.length = 3) : ∃ a b d, xs = [a, b, d] := by
  obtain ⟨a, t, rfl, h'⟩ := cons_of h
  obtain ⟨b, d, rfl⟩ := two_of h'
  exact ⟨a, b, d, rfl⟩
theorem lt3 {i : Nat} (h : i < 3) : i = 0 ∨ i = 1 ∨ i = 2 := by omega
theorem minI_le {xs : List Int} (h : xs.length = 3) {i : Nat} (hi : i < 3) : minI xs ≤ valAt xs i := by
  obtain ⟨a, b, d, rfl⟩ := three_of h
  rcases lt3 hi with rfl | rfl | rfl
  · exact Int.le_trans (Int.min_le_left (min a b) d) (Int.min_le_left a b)
  · exact Int.le_trans (Int.min_le_left (min a b) d) (Int.min_le_right a b)
  · exact Int.min_le_right (min a b) d
theorem min_or (a b : Int) : min a b = a ∨ min a b = b := by
  rcases Int.le_total a b with h | h
  · exact .inl (Int.min_eq_left h)
  · exact .inr (Int.min_eq_right h)
theorem minI_at {xs : List Int} (h : xs.length = 3) : ∃ i, i < 3 ∧ valAt xs i = minI xs := by
  obtain ⟨a, b, d, rfl⟩ := three_of h
  rcases min_or (min a b) d with h | h
  · rcases min_or a b with h' | h'
    · exact ⟨0, by decide, (h.trans h').symm⟩
    · exact ⟨1, by decide, (h.trans h').symm⟩
  · exact ⟨2, by decide, h.symm⟩
theorem minI_eq {xs : List Int} (h : xs.length = 3) {m : Int} (h1 : ∀ i, i < 3 → m ≤ valAt xs i) (h2 : ∃ i, i < 3 ∧ valAt xs i = m) : minI xs = m := by
  obtain ⟨i, hi, e⟩ := h2
  obtain ⟨j, hj, e'⟩ := minI_at h
  exact Int.le_antisymm (e ▸ minI_le h hi) (e' ▸ h1 j hj)
noncomputable def letB (i : Nat) : Str := (lettersL[i]?).getD (Str.ofString "")
theorem letB_mem {i : Nat} (hi : i < 3) : letB i ∈ lettersL ∧ lettersL.idxOf (letB i) = i := by
  rcases lt3 hi with rfl | rfl | rfl <;> decide
theorem idx_lt {s : Str} (h : s ∈ lettersL) : lettersL.idxOf s < 3 := List.idxOf_lt_length_iff.mpr h

structure Fit (a : List Str) (F : List Int) : Prop where
  len : F.length = 3
  sub : ∀ s ∈ a, s ∈ lettersL
  iff : ∀ s ∈ lettersL, s ∈ a ↔ valAt F (lettersL.idxOf s) = minI F
theorem Fit.one {a : List Str} {F : List Int} (h : Fit a F) : ∃ s, s ∈ a := by
  obtain ⟨i, hi, e⟩ := minI_at h.len
  have := letB_mem hi
  exact ⟨letB i, (h.iff _ this.1).mpr (by rw [this.2]; exact e)⟩
theorem few_at {x y : List Int} {i : Nat} (hi : i < 3) : valAt (fewF x y) i = min (valAt x i) (1 + minI x) + min (valAt y i) (1 + minI y) := by
  rcases lt3 hi with rfl | rfl | rfl <;> rfl
theorem min_in {x m : Int} {p : Prop} [Decidable p] (h : m ≤ x) (hi : p ↔ x = m) : min x (1 + m) = m + (if p then 0 else 1) := by
  split
  · rename_i hp
    rw [hi.mp hp]; omega
  · rename_i hp
    have : x ≠ m := fun e => hp (hi.mpr e)
    omega
theorem add4 (a b c d : Int) : a + b + (c + d) = a + c + b + d := by omega
theorem sum_eq {T p q r : Int} : T + p + q = T + r ↔ p + q = r := by constructor <;> intro h <;> omega
theorem few_let {a b : List Str} {x y : List Int} (ha : Fit a x) (hb : Fit b y) {s : Str} (hs : s ∈ lettersL) : valAt (fewF x y) (lettersL.idxOf s) = minI x + minI y + (if s ∈ a then 0 else 1) + (if s ∈ b then 0 else 1) := by
  have hi := idx_lt hs
  rw [few_at hi, min_in (minI_le ha.len hi) (ha.iff s hs), min_in (minI_le hb.len hi) (hb.iff s hs)]
  exact add4 _ _ _ _
theorem mem_keepIn {a b : List Str} {s : Str} : s ∈ keepIn b a ↔ s ∈ a ∧ s ∈ b := by
  simp [keepIn, List.mem_filter]
theorem few_min {a b : List Str} {x y : List Int} (ha : Fit a x) (hb : Fit b y) : minI (fewF x y) = minI x + minI y + joinN a b := by
  have back : ∀ i, i < 3 → ∃ s, s ∈ lettersL ∧ lettersL.idxOf s = i := fun i hi => ⟨letB i, letB_mem hi⟩
  unfold joinN
  split
  · rename_i hk
    refine minI_eq rfl (fun i hi => ?_) ?_
    · obtain ⟨s, hs, rfl⟩ := back i hi
      rw [few_let ha hb hs]
      by_cases h1 : s ∈ a
      · by_cases h2 : s ∈ b
        · have := mem_keepIn.mpr ⟨h1, h2⟩
          rw [hk] at this; cases this
        · rw [if_pos h1, if_neg h2]; omega
      · rw [if_neg h1]; split <;> omega
    · obtain ⟨s, h1⟩ := ha.one
      have h2 : s ∉ b := fun h2 => by
        have := mem_keepIn.mpr ⟨h1, h2⟩
        rw [hk] at this; cases this
      exact ⟨_, idx_lt (ha.sub s h1), by rw [few_let ha hb (ha.sub s h1), if_pos h1, if_neg h2]; omega⟩
  · rename_i hk
    refine minI_eq rfl (fun i hi => ?_) ?_
    · obtain ⟨s, hs, rfl⟩ := back i hi
      rw [few_let ha hb hs]
      split <;> split <;> omega
    · obtain ⟨s, h⟩ := List.exists_mem_of_ne_nil _ hk
      obtain ⟨h1, h2⟩ := mem_keepIn.mp h
      exact ⟨_, idx_lt (ha.sub s h1), by rw [few_let ha hb (ha.sub s h1), if_pos h1, if_pos h2]; omega⟩
theorem heard_both {a b : List Str} {x y : List Int} (ha : Fit a x) (hb : Fit b y) : heardF a b x y = bothUa a b := by
  have hm := few_min ha hb
  unfold heardF bothUa
  unfold joinN at hm
  by_cases hk : keepIn b a = []
  · rw [if_pos hk] at hm
    rw [if_pos hk, if_pos (by omega)]
    refine List.filter_eq_self.mpr fun s hs => ?_
    have hno : s ∈ a → s ∈ b → False := fun h1 h2 => by
      have := mem_keepIn.mpr ⟨h1, h2⟩
      rw [hk] at this; cases this
    rw [List.mem_append] at hs
    rw [beq_iff_eq]
    rcases hs with h | h
    · rw [few_let ha hb (ha.sub s h), if_pos h, if_neg (hno h)]; omega
    · rw [few_let ha hb (hb.sub s h), if_pos h, if_neg (fun h1 => hno h1 h)]; omega
  · rw [if_neg hk] at hm
    rw [if_neg hk, if_neg (by omega), List.append_nil]
    unfold keepIn
    refine List.filter_congr fun s hs => ?_
    rw [few_let ha hb (ha.sub s hs), if_pos hs]
    by_cases h2 : s ∈ b
    · rw [if_pos h2]
      have : b.any (· == s) = true := List.any_eq_true.mpr ⟨s, h2, by simp⟩
      rw [this, beq_iff_eq]; omega
    · rw [if_neg h2]
      have : b.any (· == s) = false := by
        rw [← Bool.not_eq_true, List.any_eq_true]
        rintro ⟨t, ht, e⟩
        rw [beq_iff_eq] at e
        subst e
        exact h2 ht
      rw [this, beq_eq_false_iff_ne]; omega
theorem fit_both {a b : List Str} {x y : List Int} (ha : Fit a x) (hb : Fit b y) : Fit (bothUa a b) (fewF x y) where
  len := rfl
  sub := fun s hs => by
    unfold bothUa at hs
    split at hs
    · rcases List.mem_append.mp hs with h | h
      · exact ha.sub s h
      · exact hb.sub s h
    · exact ha.sub s (mem_keepIn.mp hs).1
  iff := fun s hs => by
    rw [few_let ha hb hs, few_min ha hb, sum_eq]
    unfold bothUa joinN
    by_cases hk : keepIn b a = []
    · rw [if_pos hk, if_pos hk, List.mem_append]
      by_cases h1 : s ∈ a
      · have h2 : s ∉ b := fun h2 => by
          have := mem_keepIn.mpr ⟨h1, h2⟩
          rw [hk] at this; cases this
        simp [h1, h2]
      · by_cases h2 : s ∈ b <;> simp [h1, h2]
    · rw [if_neg hk, if_neg hk, mem_keepIn]
      by_cases h1 : s ∈ a <;> by_cases h2 : s ∈ b <;> simp [h1, h2]

section
variable {c : Nat → Int}
theorem fit0 {k : Nat} : Fit (ag0 c k) (few0 c k) where
  len := few0_len
  sub := ag0_mem
  iff := fun s hs => by
    have h0 : 0 ≤ ((c k).fdiv 27).fmod 2 := Int.fmod_nonneg_of_pos _ (by decide)
    have e1 : s ∈ ag0 c k ↔ s = tb c k := by
      unfold ag0
      rw [List.mem_replicate]
      constructor
      · exact fun h => h.2
      · exact fun h => ⟨by omega, h⟩
    rw [e1]
    have ht : tb c k ∈ lettersL := tabOf_mem
    unfold few0
    generalize tb c k = t at ht
    simp only [lettersL, List.mem_cons, List.not_mem_nil, or_false] at hs ht
    rcases ht with rfl | rfl | rfl <;> rcases hs with rfl | rfl | rfl <;> decide
theorem fitT : ∀ {l k : Nat}, Fit (uaT c l k) (fewT c l k) ∧ agT c l k = uaT c l k
  | 0, k => ⟨fit0, rfl⟩
  | l + 1, j => by
    obtain ⟨f1, e1⟩ := fitT (l := l) (k := 2 * j)
    obtain ⟨f2, e2⟩ := fitT (l := l) (k := 2 * j + 1)
    refine ⟨fit_both f1 f2, ?_⟩
    unfold agT
    rw [e1, e2, heard_both f1 f2]
    rfl
theorem ag_ua {l k : Nat} : agT c l k = uaT c l k := fitT.2
theorem min_up {l j : Nat} : minI (fewT c (l + 1) j) = minI (fewT c l (2 * j)) + minI (fewT c l (2 * j + 1)) + joinN (uaT c l (2 * j)) (uaT c l (2 * j + 1)) := few_min fitT.1 fitT.1
theorem min_leaf {k : Nat} : minI (fewT c 0 k) = 0 := by
  have ht : tb c k ∈ lettersL := tabOf_mem
  show minI (few0 c k) = 0
  unfold few0
  generalize tb c k = t at ht
  simp only [lettersL, List.mem_cons, List.not_mem_nil, or_false] at ht
  rcases ht with rfl | rfl | rfl <;> decide
noncomputable def minsAt (c : Nat → Int) (l : Nat) : Nat → Int
  | 0 => 0
  | j + 1 => minsAt c l j + minI (fewT c l j)
theorem mins_up {l : Nat} : ∀ {j : Nat}, minsAt c (l + 1) j = minsAt c l (2 * j) + joinsAt c l j
  | 0 => rfl
  | j + 1 => by
    have e : 2 * (j + 1) = 2 * j + 1 + 1 := by omega
    rw [e]
    show minsAt c (l + 1) j + minI (fewT c (l + 1) j) = minsAt c l (2 * j) + minI (fewT c l (2 * j)) + minI (fewT c l (2 * j + 1)) + (joinsAt c l j + _)
    rw [mins_up, min_up]; omega
theorem mins_leaf : ∀ {j : Nat}, minsAt c 0 j = 0
  | 0 => rfl
  | j + 1 => by
    show minsAt c 0 j + minI (fewT c 0 j) = 0
    rw [mins_leaf, min_leaf]; rfl
theorem min_root : minI (fewT c 4 0) = joinsTo c 4 := by
  have h4 : minsAt c 4 1 = minI (fewT c 4 0) := Int.zero_add _
  have e3 : minsAt c 4 1 = minsAt c 3 2 + joinsAt c 3 1 := mins_up
  have e2 : minsAt c 3 2 = minsAt c 2 4 + joinsAt c 2 2 := mins_up
  have e1 : minsAt c 2 4 = minsAt c 1 8 + joinsAt c 1 4 := mins_up
  have e0 : minsAt c 1 8 = minsAt c 0 16 + joinsAt c 0 8 := mins_up
  have hz := mins_leaf (c := c) (j := 16)
  have hj : joinsTo c 4 = 0 + joinsAt c 0 8 + joinsAt c 1 4 + joinsAt c 2 2 + joinsAt c 3 1 := rfl
  omega
end
end Mine
end

section
open PySem
set_option maxRecDepth 100000
set_option maxHeartbeats 4000000
namespace Mine

theorem rangeD_at {c : Int} {d : D} : ∀ {m j : Nat} {a : Int}, (rangeD a c m)[j]? = some d → j < m ∧ d = .int (a + c * j)
  | 0, j, a, h => by simp [rangeD] at h
  | m + 1, 0, a, h => by
    have : d = .int a := by simpa [rangeD] using h.symm
    exact ⟨by omega, by rw [this]; congr 1; simp⟩
  | m + 1, j + 1, a, h => by
    have h' : (rangeD (a + c) c m)[j]? = some d := by simpa [rangeD] using h
    obtain ⟨h1, h2⟩ := rangeD_at h'
    refine ⟨by omega, ?_⟩
    rw [h2]; congr 1; rw [Int.natCast_add, Int.mul_add, Int.natCast_one, Int.mul_one]; omega
theorem rangeD_len {c : Int} : ∀ {m : Nat} {a : Int}, (rangeD a c m).length = m
  | 0, _ => rfl
  | m + 1, a => by rw [rangeD, List.length_cons, rangeD_len]

theorem swapped3_none {nm : Nm} {x y z : Str} {p1 p2 p3 tp vp : Pos} {i q : Nat} {a b d : Expr} (hz : nm.lookup z = some .cell) :
    ∀ env, EnvOk nm env → swappedStores [.Tuple [.Name x p1, .Name y p2, .Name z p3] i tp] (.Tuple [a, b, d] q vp) env = pure none := fun env hE => by
  have kz := cell_kind hE hz
  have e3 : locB env p1.line (.Name z p3) = none := by
    show (if (env.kindOf z == some .local && p3.line == p1.line) = true then some z else none) = none
    rw [kz]
    rfl
  have hn : ((([Expr.Name x p1, .Name y p2, .Name z p3].filterMap (locB env p1.line)).length != 3) = true) := by
    have h1 : [Expr.Name x p1, .Name y p2, .Name z p3].filterMap (locB env p1.line) = [Expr.Name x p1, .Name y p2].filterMap (locB env p1.line) := by
      rw [show [Expr.Name x p1, .Name y p2, .Name z p3] = [Expr.Name x p1, .Name y p2] ++ [.Name z p3] from rfl, List.filterMap_append, List.filterMap_cons_none e3]
      simp
    have h2 := List.length_filterMap_le (locB env p1.line) [Expr.Name x p1, .Name y p2]
    rw [h1]
    simp only [List.length_cons, List.length_nil] at h2
    simp only [bne_iff_ne]
    omega
  rw [sw_is]
  unfold swTail
  split
  · rfl
  · split
    · rfl
    · show (if (([Expr.Name x p1, .Name y p2, .Name z p3].filterMap (locB env p1.line)).length != 3 || _) = true then _ else _) = _
      rw [hn]
      rfl

noncomputable def topSto (c : Nat → Int) (scr : List Int) (l : Nat) : Sto := [(Str.ofString "joins", .val (.int (joinsTo c l))), (Str.ofString "levels", .own (lvls (recT c) l)), (Str.ofString "fewest", .own (lvls (fun i k => intsD (fewT c i k)) l)), (Str.ofString "agents", .own (lvls (fun i k => strsD (agT c i k)) l))] ++ fixSto c scr

section
variable {w : World} {h₁ : Heap} {mg mb : Str → Option Value} {B : Base w h₁ mg mb (K2 w.params) 76 72} {n : Nat} {σ : Sto} {c : Nat → Int}

theorem inner_loop {scr : List Int} {l : Nat} (hl : l < 4) : LoopEx (Y2 B) (n + 4) (nm2 w.params) (forTgt 1 (forBody 11 (law2 w.params))) (inner2 w.params) (midSto c scr l 0) (rangeD 0 2 (8 / 2 ^ l)) .next (midSto c scr l (0 + (rangeD 0 2 (8 / 2 ^ l)).length)) := by
  refine LoopEx.of (midSto c scr l) _ 0 fun j d hd => ?_
  obtain ⟨hj, rfl⟩ := rangeD_at hd
  refine ⟨_, .name (.inl rfl), ?_⟩
  have e : (0 : Int) + 2 * (j : Nat) = ((2 * j : Nat) : Int) := by simp
  rw [e, Nat.zero_add]
  exact inner_a hl hj (inner_b hl hj)
theorem shr16 {l : Nat} (hl : l < 4) : Builtin.Range.small 0 ((16 : Int).fdiv (2 ^ ((l : Nat) : Int).toNat)) 2 = true ∧ Builtin.Range.rangeSize 0 ((16 : Int).fdiv (2 ^ ((l : Nat) : Int).toNat)) 2 = ((8 / 2 ^ l : Nat) : Int) := by
  rcases four hl with rfl | rfl | rfl | rfl <;> exact ⟨by decide, by decide⟩
theorem rng_lvl {f : Nat → Nat → D} {l : Nat} (hl : l < 4) : lvls f (l + 1) = lvls f l ++ [.list ((List.range (8 / 2 ^ l)).map (f (l + 1)))] := by
  have e : 16 / 2 ^ (l + 1) = 8 / 2 ^ l := by
    rcases four hl with rfl | rfl | rfl | rfl <;> rfl
  unfold lvls
  rw [range_map_succ, e]
  rfl
theorem lvls_len {f : Nat → Nat → D} {l : Nat} : (lvls f l).length = l + 1 := by simp [lvls]
theorem outer_turn {scr : List Int} {l : Nat} (hl : l < 4) :
    Ex (Y2 B) (n + 4) (nm2 w.params) ((Str.ofString "level", .val (.int (l : Nat))) :: topSto c scr l) (forBody 11 (law2 w.params)) .next (topSto c scr (l + 1)) := by
  refine Ex_cons (Ex1_tuple (xs := [Str.ofString "row", Str.ofString "heard", Str.ofString "counts"]) (sls := [.own [], .own [], .own []]) (.cons (.cons (.cons .nil))) ?_ (EvSls_own EvArgs_nil (by simp) (EvSls_own EvArgs_nil (by simp) (EvSls_own EvArgs_nil (by simp) EvSls_nil fun _ => rfl) fun _ => rfl) fun _ => rfl) rfl (by simp) (fun _ => rfl) ?_) ?_
  · intro x hx; simp only [List.mem_cons, List.not_mem_nil, or_false] at hx; rcases hx with rfl | rfl | rfl
    · exact .inl rfl
    · exact .inl rfl
    · exact .inr rfl
  · exact swapped3_none rfl
  refine Ex_pre (σ₀ := midSto c scr l 0) ?_ ?_
  · refine Ex_cons (Ex1_for (EvIt_range3 rfl glo_range rfl (fun _ => rfl) (fun _ => rfl) (fun _ => rfl) Ev_int (Ev_bin Ev_int (Ev_name rfl rfl rfl) (op_shr_int (by omega))) Ev_int (by decide) (by decide) (shr16 hl).1 (shr16 hl).2) (inner_loop hl) fun _ _ => rfl) ?_
    rw [Nat.zero_add, rangeD_len]
    refine Ex_freeze (x := Str.ofString "row") rfl (Ex_cons (Ex1_append rfl rfl rfl (Ev_name rfl rfl rfl) (fun _ => rfl) (fun _ => rfl) rfl (fun _ => rfl) not_inter (by rw [lvls_len]; omega)) ?_)
    refine Ex_freeze (x := Str.ofString "heard") rfl (Ex_cons (Ex1_append rfl rfl rfl (Ev_name rfl rfl rfl) (fun _ => rfl) (fun _ => rfl) rfl (fun _ => rfl) not_inter (by rw [lvls_len]; omega)) ?_)
    refine Ex_freeze (x := Str.ofString "counts") rfl (Ex_post (Ex_cons (Ex1_append rfl rfl rfl (Ev_name rfl rfl rfl) (fun _ => rfl) (fun _ => rfl) rfl (fun _ => rfl) not_inter (by rw [lvls_len]; omega)) Ex_nil) ?_)
    unfold topSto
    simp only [rng_lvl hl]
    exact Sub.cons rfl (Sub.cons rfl (Sub.cons rfl (Sub.cons rfl (Sub.cons rfl (Sub.cons rfl (Sub.cons rfl (Sub.cons rfl (Sub.cons rfl (Sub.cons rfl (Sub.cons rfl Sub.nil))))))))))
  · unfold midSto
    exact Sub.cons rfl (Sub.cons rfl (Sub.cons rfl (Sub.cons (by show _ = some (Sl.val (.int (joinsTo c l + 0))); rw [Int.add_zero]; rfl) (Sub.cons rfl (Sub.cons rfl (Sub.cons rfl (Sub.cons rfl (Sub.cons rfl (Sub.cons rfl (Sub.cons rfl (Sub.cons rfl (Sub.cons rfl (Sub.cons rfl (Sub.cons rfl Sub.nil))))))))))))))
theorem outer_loop {scr : List Int} : LoopEx (Y2 B) (n + 4) (nm2 w.params) (forTgt 11 (law2 w.params)) (forBody 11 (law2 w.params)) (topSto c scr 0) (rangeD 0 1 4) .next (topSto c scr 4) := by
  refine LoopEx.of (topSto c scr) _ 0 fun j d hd => ?_
  obtain ⟨hj, rfl⟩ := rangeD_at hd
  refine ⟨_, .name (.inl rfl), ?_⟩
  have e : (0 : Int) + 1 * (j : Nat) = ((j : Nat) : Int) := by simp
  rw [e, Nat.zero_add]
  exact outer_turn hj
end
end Mine
end

section
open PySem
set_option maxRecDepth 100000
set_option maxHeartbeats 400000
namespace Mine

section
variable {w : World} {h₁ : Heap} {mg mb : Str → Option Value} {B : Base w h₁ mg mb (K2 w.params) 76 72} {n : Nat} {σ : Sto}
noncomputable def cOf (scr : List Int) (k : Nat) : Int := valAt (cellsOf scr) k

theorem star_plain {e : Expr} {es : List Expr} (h : starB e = false) : ∀ env, starEach (e :: es) env = (false, eval e env) :: starEach es env := by
  intro env
  cases e <;> first | rfl | cases h
theorem bases_d : intsD basesL = .list [.int 0, .int 1, .int 34, .int 2, .int 5, .int 30, .int 37, .int 4, .int 9, .int 12, .int 6, .int 35, .int 14, .int 11, .int 2, .int 13] := rfl
theorem bases_ev : Ev (Y2 B) n (nm2 w.params) σ (assignAt 0 (law2 w.params)) (intsD basesL) := by
  rw [bases_d]
  refine Ev_list ?_ ?_
  · refine EvArgs_cons ?e0 ?r0 ?s0
    case e0 => exact Ev_int
    case s0 => exact star_plain rfl
    refine EvArgs_cons ?e1 ?r1 ?s1
    case e1 => exact Ev_int
    case s1 => exact star_plain rfl
    refine EvArgs_cons ?e2 ?r2 ?s2
    case e2 => exact Ev_int
    case s2 => exact star_plain rfl
    refine EvArgs_cons ?e3 ?r3 ?s3
    case e3 => exact Ev_int
    case s3 => exact star_plain rfl
    refine EvArgs_cons ?e4 ?r4 ?s4
    case e4 => exact Ev_int
    case s4 => exact star_plain rfl
    refine EvArgs_cons ?e5 ?r5 ?s5
    case e5 => exact Ev_int
    case s5 => exact star_plain rfl
    refine EvArgs_cons ?e6 ?r6 ?s6
    case e6 => exact Ev_int
    case s6 => exact star_plain rfl
    refine EvArgs_cons ?e7 ?r7 ?s7
    case e7 => exact Ev_int
    case s7 => exact star_plain rfl
    refine EvArgs_cons ?e8 ?r8 ?s8
    case e8 => exact Ev_int
    case s8 => exact star_plain rfl
    refine EvArgs_cons ?e9 ?r9 ?s9
    case e9 => exact Ev_int
    case s9 => exact star_plain rfl
    refine EvArgs_cons ?e10 ?r10 ?s10
    case e10 => exact Ev_int
    case s10 => exact star_plain rfl
    refine EvArgs_cons ?e11 ?r11 ?s11
    case e11 => exact Ev_int
    case s11 => exact star_plain rfl
    refine EvArgs_cons ?e12 ?r12 ?s12
    case e12 => exact Ev_int
    case s12 => exact star_plain rfl
    refine EvArgs_cons ?e13 ?r13 ?s13
    case e13 => exact Ev_int
    case s13 => exact star_plain rfl
    refine EvArgs_cons ?e14 ?r14 ?s14
    case e14 => exact Ev_int
    case s14 => exact star_plain rfl
    refine EvArgs_cons ?e15 ?r15 ?s15
    case e15 => exact Ev_int
    case s15 => exact star_plain rfl
    exact EvArgs_nil
  · decide
noncomputable def stAt (k : Nat) (ss : List Stmt) : Stmt := match ss[k]? with
  | some s => s
  | none => .Pass ⟨0, 0, 0, 0⟩
theorem bases_e {e : Expr} (he : e = assignAt 0 (law2 w.params)) : Ev (Y2 B) n (nm2 w.params) σ e (intsD basesL) := by
  rw [he]
  with_reducible exact bases_ev
theorem bases_st' {e : Expr} {st : Stmt} {p p' : Pos} (he : e = assignAt 0 (law2 w.params)) (hst : st = .Assign [.Name (Str.ofString "bases") p] e p') (hsw : ∀ env, EnvOk (nm2 w.params) env → swapsWith e (some (.Name (Str.ofString "bases") p)) p'.line env = pure false) :
    Ex1 (Y2 B) n (nm2 w.params) σ st .next ((Str.ofString "bases", .val (intsD basesL)) :: σ) := by
  subst hst
  exact Ex1_assign (.inl rfl) (bases_e he) hsw
theorem bases_st : Ex1 (Y2 B) n (nm2 w.params) σ (stAt 0 (law2 w.params)) .next ((Str.ofString "bases", .val (intsD basesL)) :: σ) := by
  have h1 : stAt 0 (law2 w.params) = .Assign [.Name (Str.ofString "bases") ⟨75, 4, 75, 9⟩] (assignAt 0 (law2 w.params)) ⟨75, 4, 75, 68⟩ := rfl
  have h2 : ∀ env, EnvOk (nm2 w.params) env → swapsWith (assignAt 0 (law2 w.params)) (some (.Name (Str.ofString "bases") ⟨75, 4, 75, 9⟩)) 75 env = pure false := fun _ _ => rfl
  revert h1 h2
  generalize he : assignAt 0 (law2 w.params) = e
  generalize stAt 0 (law2 w.params) = st
  intro h1 h2
  exact bases_st' he.symm h1 h2
theorem start_a {scr : List Int} (hz : scr.length ≤ 1000) {ss : List Stmt} {φ : Fl} {σ' : Sto} (h : Ex (Y2 B) (n + 4) (nm2 w.params) (fixSto (cOf scr) scr) ss φ σ') :
    Ex (Y2 B) (n + 4) (nm2 w.params) [(Str.ofString "script", .val (intsD scr))] ((law2 w.params).take 7 ++ ss) φ σ' := by
  have e0 : (law2 w.params).take 7 ++ ss = stAt 0 (law2 w.params) :: (((law2 w.params).take 7).drop 1 ++ ss) := rfl
  rw [e0]
  with_reducible refine Ex_cons (σ₁ := (Str.ofString "bases", .val (intsD basesL)) :: [(Str.ofString "script", .val (intsD scr))]) ?h ?r
  case h => with_reducible exact bases_st
  refine Ex_cons (Ex1_assign (.inr rfl) (cells_ev hz rfl rfl) fun env hE => swaps_cell hE rfl) ?_
  refine Ex_cons (Ex1_assign (d := strsD lettersL) (.inr rfl) (Ev_list (EvArgs_cons Ev_str (EvArgs_cons Ev_str (EvArgs_cons Ev_str EvArgs_nil fun _ => rfl) fun _ => rfl) fun _ => rfl) (by decide)) fun _ _ => rfl) ?_
  refine Ex_cons (Ex1_assign (.inr rfl) names_ev fun env hE => swaps_cell hE rfl) ?_
  refine Ex_pre (σ₀ := [(Str.ofString "names", .val (rng 16 fun k => .str (nameS k))), (Str.ofString "letters", .val (strsD lettersL)), (Str.ofString "cells", .val (rng 16 fun k => .int (cOf scr k))), (Str.ofString "script", .val (intsD scr))]) ?_
    (Sub.cons rfl (Sub.cons rfl (Sub.cons rfl (Sub.cons rfl Sub.nil))))
  refine Ex_cons (Ex1_assign (.inr rfl) (table_ev rfl rfl) fun env hE => swaps_cell hE rfl) ?_
  refine Ex_cons (Ex1_assign (.inr rfl) (delays_ev rfl) fun env hE => swaps_cell hE rfl) ?_
  exact Ex_cons (Ex1_assign (.inr rfl) (rates_ev rfl) fun _ _ => rfl) h
variable {c : Nat → Int}
theorem start_b {scr : List Int} {ss : List Stmt} {φ : Fl} {σ' : Sto} (h : Ex (Y2 B) (n + 4) (nm2 w.params) (topSto c scr 4) ss φ σ') :
    Ex (Y2 B) (n + 4) (nm2 w.params) (fixSto c scr) (((law2 w.params).take 12).drop 7 ++ ss) φ σ' := by
  refine Ex_cons (Ex1_own (.inr rfl) (EvArgs_cons (agents_ev rfl rfl) EvArgs_nil fun _ => rfl) (by simp) (fun _ => rfl)) ?_
  refine Ex_cons (Ex1_own (.inl rfl) (EvArgs_cons (fewest_ev rfl rfl) EvArgs_nil fun _ => rfl) (by simp) (fun _ => rfl)) ?_
  refine Ex_cons (Ex1_own (.inl rfl) (EvArgs_cons (levels_ev rfl rfl rfl rfl) EvArgs_nil fun _ => rfl) (by simp) (fun _ => rfl)) ?_
  refine Ex_cons (Ex1_assign (.inl rfl) Ev_int fun _ _ => rfl) ?_
  refine Ex_pre (σ₀ := topSto c scr 0) ?_ (Sub.cons rfl (Sub.cons rfl (Sub.cons rfl (Sub.cons rfl (Sub.cons rfl (Sub.cons rfl (Sub.cons rfl (Sub.cons rfl (Sub.cons rfl (Sub.cons rfl (Sub.cons rfl Sub.nil)))))))))))
  exact Ex_cons (Ex1_for (EvIt_range1 (m := 4) rfl glo_range rfl (fun _ => rfl) Ev_int rfl (by decide)) outer_loop fun _ _ => rfl) h
end
end Mine
end

section
open PySem
set_option maxRecDepth 100000
set_option maxHeartbeats 1000000
namespace Mine

theorem span_split {α : Type} {f : Nat → α} {l k : Nat} : (List.range (2 ^ (l + 1))).map (fun i => f (k * 2 ^ (l + 1) + i)) = (List.range (2 ^ l)).map (fun i => f (2 * k * 2 ^ l + i)) ++ (List.range (2 ^ l)).map (fun i => f ((2 * k + 1) * 2 ^ l + i)) := by
  have e : 2 ^ (l + 1) = 2 ^ l + 2 ^ l := by rw [Nat.pow_succ]; omega
  rw [e, List.range_add, List.map_append, List.map_map]
  have h1 : k * (2 ^ l + 2 ^ l) = 2 * k * 2 ^ l := by
    generalize 2 ^ l = m
    rw [Nat.mul_add, Nat.mul_assoc, Nat.two_mul]
  have h2 : (2 * k + 1) * 2 ^ l = k * (2 ^ l + 2 ^ l) + 2 ^ l := by rw [Nat.add_mul, h1]; omega
  rw [h1, h2, h1]
  congr 1
  refine List.map_congr_left fun i _ => ?_
  show f (2 * k * 2 ^ l + (2 ^ l + i)) = f (2 * k * 2 ^ l + 2 ^ l + i)
  congr 1
  omega
theorem rlT_span : ∀ {l k : Nat}, rlT l k = (List.range (2 ^ l)).map fun i => nameS (k * 2 ^ l + i)
  | 0, k => by simp [rlT]
  | l + 1, k => by
    unfold rlT
    rw [rlT_span, rlT_span, span_split (f := nameS)]
theorem lastF_app {xs ys : List D} : lastF (xs ++ ys) = pickD (lastF xs) (lastF ys) := by
  unfold lastF
  rw [List.filterMap_append]
  generalize xs.filterMap notNone = a
  have hb : ∀ d ∈ ys.filterMap notNone, isNoneD d = false := fun d hd => by
    obtain ⟨e, _, he⟩ := List.mem_filterMap.mp hd
    unfold notNone at he
    split at he
    · cases he
    · cases he
      rename_i h
      simpa using h
  revert hb
  generalize ys.filterMap notNone = b
  intro hb
  rcases List.eq_nil_or_concat b with rfl | ⟨b', z, rfl⟩
  · simp [pickD]
  · rw [List.concat_eq_append] at hb ⊢
    have hz := hb z (by simp)
    have e1 : (D.none :: (a ++ (b' ++ [z]))).getLast? = some z := by
      rw [← List.append_assoc, ← List.cons_append, List.getLast?_append]; rfl
    have e2 : (D.none :: (b' ++ [z])).getLast? = some z := by
      rw [← List.cons_append, List.getLast?_append]; rfl
    rw [e1, e2]
    simp only [Option.getD_some]
    unfold pickD
    cases z <;> first | rfl | cases hz
theorem lastF_one {d : D} (h : NumD d) : lastF [d] = d := by
  cases d <;> first | rfl | cases h
section
variable {c : Nat → Int}
theorem rt_num {k : Nat} : NumD (rt c k) := dl_num
theorem dlT_span : ∀ {l k : Nat}, dlT c l k = lastF ((List.range (2 ^ l)).map fun i => dl c (k * 2 ^ l + i))
  | 0, k => by
    show dl c k = lastF [dl c (k * 1 + 0)]
    rw [lastF_one dl_num, Nat.mul_one, Nat.add_zero]
  | l + 1, k => by
    rw [span_split (f := dl c), lastF_app, ← dlT_span, ← dlT_span]
    rfl
theorem rtT_span : ∀ {l k : Nat}, rtT c l k = lastF ((List.range (2 ^ l)).map fun i => rt c (k * 2 ^ l + i))
  | 0, k => by
    show rt c k = lastF [rt c (k * 1 + 0)]
    rw [lastF_one rt_num, Nat.mul_one, Nat.add_zero]
  | l + 1, k => by
    rw [span_split (f := rt c), lastF_app, ← rtT_span, ← rtT_span]
    rfl
end
theorem slice_span : ∀ l : Fin 5, ∀ k : Fin 16, k.val < 16 / 2 ^ l.val → sliceRange (sliceBounds (some (((k.val : Nat) : Int) * 2 ^ (((l.val : Nat) : Int).toNat))) (some (((k.val : Nat) : Int) + 1 |> (· * 2 ^ (((l.val : Nat) : Int).toNat)))) none 16).1
    (sliceBounds (some (((k.val : Nat) : Int) * 2 ^ (((l.val : Nat) : Int).toNat))) (some (((k.val : Nat) : Int) + 1 |> (· * 2 ^ (((l.val : Nat) : Int).toNat)))) none 16).2.1
    (sliceBounds (some (((k.val : Nat) : Int) * 2 ^ (((l.val : Nat) : Int).toNat))) (some (((k.val : Nat) : Int) + 1 |> (· * 2 ^ (((l.val : Nat) : Int).toNat)))) none 16).2.2 = (List.range (2 ^ l.val)).map fun i => k.val * 2 ^ l.val + i := by decide +kernel
theorem pick_all {f : Nat → D} : ∀ {is : List Nat}, (∀ i ∈ is, i < 16) → is.filterMap (((List.range 16).map f)[·]?) = is.map f
  | [], _ => rfl
  | i :: is, h => by
    have hi := h i (by simp)
    rw [List.filterMap_cons_some (b := f i) (by simp [hi]), pick_all fun j hj => h j (by simp [hj]), List.map_cons]
theorem lpick_span {f : Nat → D} {l k : Nat} (hl : l < 5) (hk : k < 16 / 2 ^ l) : lpick ((List.range 16).map f) (some (((k : Nat) : Int) * 2 ^ (((l : Nat) : Int).toNat))) (some ((((k : Nat) : Int) + 1) * 2 ^ (((l : Nat) : Int).toNat))) none = (List.range (2 ^ l)).map fun i => f (k * 2 ^ l + i) := by
  have hk16 : k < 16 := Nat.lt_of_lt_of_le hk (Nat.div_le_self ..)
  rw [lpick_of 16 (by simp) (slice_span ⟨l, hl⟩ ⟨k, hk16⟩ hk), pick_all, List.map_map]
  · rfl
  · intro i hi
    obtain ⟨j, hj, rfl⟩ := List.mem_map.mp hi
    have hj : j < 2 ^ l := List.mem_range.mp hj
    show k * 2 ^ l + j < 16
    have : k + 1 ≤ 16 / 2 ^ l := hk
    have h2 : (k + 1) * 2 ^ l ≤ 16 := Nat.le_trans (Nat.mul_le_mul_right _ this) (Nat.div_mul_le_self ..)
    rw [Nat.add_mul, Nat.one_mul] at h2
    omega
end Mine
end

section
open PySem
set_option maxRecDepth 100000
set_option maxHeartbeats 1000000
namespace Mine

theorem enumD_at : ∀ {xs : List D} {a j : Nat} {d : D}, (enumD a xs)[j]? = some d → ∃ x, xs[j]? = some x ∧ d = .tup [.int ((a + j : Nat) : Int), x]
  | [], _, _, _, h => by simp [enumD] at h
  | x :: xs, a, 0, d, h => by
    refine ⟨x, rfl, ?_⟩
    rw [enumD] at h
    simpa using h.symm
  | x :: xs, a, j + 1, d, h => by
    rw [enumD] at h
    obtain ⟨y, hy, rfl⟩ := enumD_at (by simpa using h)
    exact ⟨y, by simpa using hy, by rw [show a + 1 + j = a + (j + 1) by omega]⟩
theorem enumD_len : ∀ {xs : List D} {a : Nat}, (enumD a xs).length = xs.length
  | [], _ => rfl
  | x :: xs, a => by rw [enumD, List.length_cons, enumD_len, List.length_cons]
theorem plain_strs : ∀ {xs : List Str}, PlainAll (xs.map .str) = true
  | [] => rfl
  | x :: xs => by rw [List.map_cons, PlainAll, plain_strs]; rfl
theorem deep_strs : ∀ {xs : List Str}, deepAll (xs.map .str) = 0
  | [] => rfl
  | x :: xs => by rw [List.map_cons, deepAll, deep_strs]; rfl
theorem NumD.plain {d : D} (h : NumD d) : Plain d = true := by cases d <;> first | rfl | cases h
theorem NumD.deep {d : D} (h : NumD d) : deep d = 0 := by cases d <;> first | rfl | cases h

section
variable {w : World} {h₁ : Heap} {mg mb : Str → Option Value} {B : Base w h₁ mg mb (K2 w.params) 76 72} {n : Nat} {σ : Sto} {c : Nat → Int}

theorem lvls_item' {f : Nat → Nat → D} {m l : Nat} (h : l ≤ m) : (lvls f m)[((l : Nat) : Int).toNat]? = some (rng (16 / 2 ^ l) (f l)) := lvls_item h
theorem lvl_at {x : Str} {f : Nat → Nat → D} {m l : Nat} {nm : Nm} {p1 p2 p3 : Pos} (hx : σ.lookup x = some (.own (lvls f m))) (hd : (x == ("__debug__" : Str)) = false) (hc : (x == ("__classdict__" : Str)) = false) (hl : σ.lookup (Str.ofString "level") = some (.val (.int (l : Nat)))) (hlm : l ≤ m) (hm : m ≤ 4) :
    Ev (Y2 B) n nm σ (.Subscript (.Name x p1) (.Name (Str.ofString "level") p2) p3) (rng (16 / 2 ^ l) (f l)) :=
  Ev_own_item hx hd hc (Ev_name hl rfl rfl) (fun _ _ => rfl) (by omega) (by omega) (lvls_item' hlm)
theorem at_lvl2 {x : Str} {f : Nat → Nat → D} {m l j : Nat} {nm : Nm} {sl : Expr} {p1 p2 p3 p4 : Pos} (hx : σ.lookup x = some (.own (lvls f m))) (hd : (x == ("__debug__" : Str)) = false) (hc : (x == ("__classdict__" : Str)) = false) (hl : σ.lookup (Str.ofString "level") = some (.val (.int (l : Nat)))) (hj : j < 16 / 2 ^ l) (hlm : l ≤ m) (hm : m ≤ 4)
    (hs : Ev (Y2 B) n nm σ sl (.int (j : Nat))) (hs1 : ∀ o i, subscripted sl false o i = operate [o, i] (getItem o i)) :
    Ev (Y2 B) n nm σ (.Subscript (.Subscript (.Name x p1) (.Name (Str.ofString "level") p2) p3) sl p4) (f l j) :=
  Ev_sub (lvl_at hx hd hc hl hlm hm) hs (rng_item hj (Nat.le_trans (Nat.div_le_self ..) (by decide))) hs1 (.inl rfl)

theorem span_ev {x : Str} {f : Nat → D} {l k : Nat} {nm : Nm} {p1 p2 p3 p4 p5 : Pos} (hl : l < 5) (hk : k < 16 / 2 ^ l) (hx : σ.lookup x = some (.val (rng 16 f))) (hd : (x == ("__debug__" : Str)) = false) (hc : (x == ("__classdict__" : Str)) = false)
    (h1 : σ.lookup (Str.ofString "low") = some (.val (.int (((k : Nat) : Int) * 2 ^ (((l : Nat) : Int).toNat))))) (h2 : σ.lookup (Str.ofString "high") = some (.val (.int ((((k : Nat) : Int) + 1) * 2 ^ (((l : Nat) : Int).toNat))))) :
    Ev (Y2 B) n nm σ (.Subscript (.Name x p1) (.Slice (some (.Name (Str.ofString "low") p2)) (some (.Name (Str.ofString "high") p3)) none p4) p5) (.list ((List.range (2 ^ l)).map fun i => f (k * 2 ^ l + i))) := by
  rw [← lpick_span hl hk]
  exact Ev_slice_list (Ev_name hx hd hc) (EvPart_some (Ev_name h1 rfl rfl)) (EvPart_some (Ev_name h2 rfl rfl)) EvPart_none (by decide) (by simp)

theorem pow_le16 {l : Nat} (hl : l < 5) : 2 ^ l ≤ 16 := by
  rcases five hl with rfl | rfl | rfl | rfl | rfl <;> decide
theorem span_len {f : Nat → D} {m : Nat} (hp : m ≤ 16) : ((List.range m).map f).length ≤ 900 := by rw [List.length_map, List.length_range]; exact Nat.le_trans hp (by decide)
theorem check_turn {scr : List Int} {l k : Nat} (hl : l < 5) (hk : k < 16 / 2 ^ l) :
    Ex (Y2 B) (n + 4) (nm2 w.params) ((Str.ofString "one", .val (recT c l k)) :: (Str.ofString "k", .val (.int ((k : Nat) : Int))) :: (Str.ofString "level", .val (.int (l : Nat))) :: topSto c scr 4) (forBody 0 (forBody 12 (law2 w.params))) .next
      ((Str.ofString "level", .val (.int (l : Nat))) :: topSto c scr 4) := by
  have hk16 : k < 16 := Nat.lt_of_lt_of_le hk (Nat.div_le_self ..)
  have hl4 : l ≤ 4 := Nat.le_of_lt_succ hl
  have hl6 : ((l : Nat) : Int) ≤ 1000000 := Int.le_of_lt (nat_hi (Nat.lt_trans hl (by decide)))
  have hk6 : k < 1000000 := Nat.lt_trans hk16 (by decide)
  have hk7 : k + 1 < 1000000 := Nat.lt_trans (Nat.succ_lt_succ hk16) (by decide)
  have hp := pow_le16 hl
  refine Ex_cons (Ex1_swapped (xs := [Str.ofString "low", Str.ofString "high"]) (sls := [.val (.int (((k : Nat) : Int) * 2 ^ (((l : Nat) : Int).toNat))), .val (.int ((((k : Nat) : Int) + 1) * 2 ^ (((l : Nat) : Int).toNat)))]) ?_
    (EvSls_val (Ev_bin (Ev_name rfl rfl rfl) (Ev_name rfl rfl rfl) (op_shl_int nat_lo hl6 (abs_hi hk6))) (EvSls_val (Ev_bin (Ev_bin (Ev_name rfl rfl rfl) Ev_int op_add_int) (Ev_name rfl rfl rfl) (op_shl_int nat_lo hl6 (abs_hi (k := k + 1) hk7))) EvSls_nil fun _ => rfl) fun _ => rfl) rfl (by simp) (fun _ => rfl)
    (swapped2 rfl rfl rfl rfl rfl rfl rfl)) ?_
  · intro x hx; simp only [List.mem_cons, List.not_mem_nil, or_false] at hx; rcases hx with rfl | rfl <;> exact .inl rfl
  refine Ex_cons (Ex1_if (c := false) (σ' := (Str.ofString "low", .val (.int (((k : Nat) : Int) * 2 ^ (((l : Nat) : Int).toNat)))) :: (Str.ofString "high", .val (.int ((((k : Nat) : Int) + 1) * 2 ^ (((l : Nat) : Int).toNat)))) :: (Str.ofString "one", .val (recT c l k)) :: (Str.ofString "k", .val (.int ((k : Nat) : Int))) :: (Str.ofString "level", .val (.int (l : Nat))) :: topSto c scr 4)
    (EvT_or2 (a := false) (b := false) ?_ fun _ => ?_) (fun h => by cases h) (fun _ => Ex_post Ex_nil ?_)) ?_
  · refine EvT_cmp (Ev_ua ent2 (Ev_name rfl rfl rfl) trivial fun _ => rfl) (at_lvl2 (f := fun i k => strsD (agT c i k)) (l := l) (j := k) rfl rfl rfl rfl hk hl4 (Nat.le_refl 4) (Ev_name rfl rfl rfl) (fun _ _ => rfl)) ?_ rfl
    show Op2 _ _ _ _ (strsD (agT c l k)) _
    rw [ag_ua]
    exact op_ne_list_same plain_strs (by rw [deep_strs]; exact Nat.zero_le _)
  · refine EvT_cmp (Ev_rl ent2 (Ev_name rfl rfl rfl) trivial fun _ => rfl) (span_ev (f := fun k => .str (nameS k)) hl hk rfl rfl rfl rfl rfl) ?_ rfl
    have e : (List.range (2 ^ l)).map (fun i => D.str (nameS (k * 2 ^ l + i))) = (rlT l k).map .str := by
      rw [rlT_span, List.map_map]; rfl
    rw [e]
    exact op_ne_list_same plain_strs (by rw [deep_strs]; exact Nat.zero_le _)
  · exact Sub.rfl
  refine Ex_cons (Ex1_if (c := false) (σ' := (Str.ofString "level", .val (.int (l : Nat))) :: topSto c scr 4) (EvT_cmp (Ev_list (ds := [dlT c l k, rtT c l k]) (EvArgs_cons (Ev_dl ent2 (Ev_name rfl rfl rfl) dlT_num.small.noRaw fun _ => rfl) (EvArgs_cons (Ev_rr ent2 (Ev_name rfl rfl rfl) rtT_num.small.noRaw fun _ => rfl) EvArgs_nil fun _ => rfl) fun _ => rfl) (by simp))
    (Ev_list (ds := [dlT c l k, rtT c l k]) (EvArgs_cons ?_ (EvArgs_cons ?_ EvArgs_nil fun _ => rfl) fun _ => rfl) (by simp)) (op_ne_list_same ?_ ?_) rfl) (fun h => by cases h) (fun _ => Ex_post Ex_nil ?_)) Ex_nil
  · rw [dlT_span]
    exact Ev_call rfl glo_last rfl (.fn _ _ _ (top2 B (k2_87 _)) rfl) (fun _ => rfl) (EvArgs_cons (span_ev hl hk rfl rfl rfl rfl rfl) EvArgs_nil fun _ => rfl) (last2 (fun d hd => by obtain ⟨i, _, rfl⟩ := List.mem_map.mp hd; exact dl_num) (span_len hp))
  · rw [rtT_span]
    exact Ev_call rfl glo_last rfl (.fn _ _ _ (top2 B (k2_87 _)) rfl) (fun _ => rfl) (EvArgs_cons (span_ev hl hk rfl rfl rfl rfl rfl) EvArgs_nil fun _ => rfl) (last2 (fun d hd => by obtain ⟨i, _, rfl⟩ := List.mem_map.mp hd; exact rt_num) (span_len hp))
  · simp only [PlainAll, dlT_num.plain, rtT_num.plain, Bool.and_self]
  · simp only [deepAll, dlT_num.deep, rtT_num.deep]; decide
  · exact Sub.cons rfl (Sub.cons rfl (Sub.cons rfl (Sub.cons rfl (Sub.cons rfl (Sub.cons rfl (Sub.cons rfl (Sub.cons rfl (Sub.cons rfl (Sub.cons rfl (Sub.cons rfl (Sub.cons rfl (Sub.nil))))))))))))
end
end Mine
end

section
open PySem
set_option maxRecDepth 100000
set_option maxHeartbeats 1000000
namespace Mine
section
variable {w : World} {h₁ : Heap} {mg mb : Str → Option Value} {B : Base w h₁ mg mb (K2 w.params) 76 72} {n : Nat} {σ : Sto} {c : Nat → Int}
theorem check_level {scr : List Int} {l : Nat} (hl : l < 5) :
    Ex (Y2 B) (n + 4) (nm2 w.params) ((Str.ofString "level", .val (.int (l : Nat))) :: topSto c scr 4) (forBody 12 (law2 w.params)) .next (topSto c scr 4) := by
  refine Ex_post (Ex_cons (Ex1_for (ds := enumD 0 ((List.range (16 / 2 ^ l)).map (recT c l))) (EvIt_enum rfl glo_enum rfl (fun _ => rfl) (lvl_at (f := recT c) (m := 4) (l := l) rfl rfl rfl rfl (by omega) (by omega)))
    (LoopEx.of (fun _ => (Str.ofString "level", .val (.int (l : Nat))) :: topSto c scr 4) _ 0 fun j d hd => ?_) fun _ _ => rfl) Ex_nil) ?_
  · obtain ⟨x, hx, rfl⟩ := enumD_at hd
    have hj : j < 16 / 2 ^ l := by
      have := (List.getElem?_eq_some_iff.mp hx).1
      simpa using this
    have e : x = recT c l j := by
      rw [List.getElem?_map, List.getElem?_range hj] at hx
      exact (Option.some.inj hx).symm
    subst e
    refine ⟨_, .pair (.inl rfl) (.inl rfl), ?_⟩
    rw [Nat.zero_add]
    exact check_turn hl hj
  · exact Sub.cons rfl (Sub.cons rfl (Sub.cons rfl (Sub.cons rfl (Sub.cons rfl (Sub.cons rfl (Sub.cons rfl (Sub.cons rfl (Sub.cons rfl (Sub.cons rfl (Sub.cons rfl Sub.nil))))))))))
theorem check_all {scr : List Int} {st : Stmt} (hs : st = stAt 12 (law2 w.params)) : Ex1 (Y2 B) (n + 4) (nm2 w.params) (topSto c scr 4) st .next (topSto c scr 4) := by
  subst hs
  refine Ex1_for (EvIt_range1 (m := 5) rfl glo_range rfl (fun _ => rfl) Ev_int rfl (by decide)) (LoopEx.of (fun _ => topSto c scr 4) _ 0 fun j d hd => ?_) fun _ _ => rfl
  obtain ⟨hj, rfl⟩ := rangeD_at hd
  refine ⟨_, .name (.inl rfl), ?_⟩
  have e : (0 : Int) + 1 * (j : Nat) = ((j : Nat) : Int) := by simp
  rw [e]
  exact check_level hj
end
end Mine
end

section
open PySem
set_option maxRecDepth 100000
set_option maxHeartbeats 1000000
namespace Mine

noncomputable def ruleTup (r : Str × Str) : D := .tup [.str r.1, .str r.2]
noncomputable def frontS (l k : Nat) : Str := spick (nameS (k * 2 ^ l)) none (some (5 - ((l : Nat) : Int))) none
section
variable (c : Nat → Int)
noncomputable def pickI (l k : Nat) : Int := ((c k).fdiv 3).fmod ((agT c l k).length : Nat)
noncomputable def pickR (l k : Nat) : Str := ((agT c l k)[(pickI c l k).toNat]?).getD (Str.ofString "")
noncomputable def takD : Nat → Nat → Str
  | 0, k => pickR c 4 k
  | d + 1, k => if takD d (k / 2) ∈ agT c (3 - d) k then takD d (k / 2) else pickR c (3 - d) k
noncomputable def givI : Nat → Nat → D
  | 0, _ => .none
  | d + 1, k => .str (takD c d k)
noncomputable def inB (d k : Nat) : Bool := ((agT c (4 - d) k).map D.str).any (sameText · (givI c d (k / 2)))
noncomputable def rulesAt (d : Nat) : Nat → List (Str × Str)
  | 0 => []
  | j + 1 => rulesAt d j ++ if inB c d j then [] else [(frontS (4 - d) j, takD c d j)]
noncomputable def rulesTo : Nat → List (Str × Str)
  | 0 => []
  | d + 1 => rulesTo d ++ rulesAt c d (2 ^ d)
end
section
variable {c : Nat → Int}
theorem ag_one {l k : Nat} : 0 < (agT c l k).length := by
  rw [ag_ua]
  obtain ⟨s, hs⟩ := (fitT (c := c) (l := l) (k := k)).1.one
  exact List.length_pos_of_mem hs
theorem pickI_lo {l k : Nat} : 0 ≤ pickI c l k := Int.fmod_nonneg_of_pos _ (by have := ag_one (c := c) (l := l) (k := k); omega)
theorem pickI_hi {l k : Nat} : pickI c l k < ((agT c l k).length : Nat) := Int.fmod_lt_of_pos _ (by have := ag_one (c := c) (l := l) (k := k); omega)
theorem pick_item {l k : Nat} : (agT c l k)[(pickI c l k).toNat]? = some (pickR c l k) := by
  have h1 := pickI_lo (c := c) (l := l) (k := k)
  have h2 := pickI_hi (c := c) (l := l) (k := k)
  have : (pickI c l k).toNat < (agT c l k).length := by omega
  unfold pickR
  rw [List.getElem?_eq_getElem this]; rfl
theorem pick_mem {l k : Nat} : pickR c l k ∈ agT c l k := List.mem_of_getElem? pick_item
theorem takD_mem : ∀ {d k : Nat}, takD c d k ∈ agT c (4 - d) k
  | 0, k => pick_mem
  | d + 1, k => by
    unfold takD
    rw [show 4 - (d + 1) = 3 - d by omega]
    split
    · assumption
    · exact pick_mem
theorem inB_zero {k : Nat} : inB c 0 k = false := by
  unfold inB
  rw [List.any_map, List.any_eq_false]
  intro s _
  simp [givI, sameText]
theorem inB_succ {d k : Nat} : inB c (d + 1) k = decide (takD c d (k / 2) ∈ agT c (3 - d) k) := by
  unfold inB
  rw [List.any_map, show 4 - (d + 1) = 3 - d by omega, Bool.eq_iff_iff, List.any_eq_true, decide_eq_true_iff]
  constructor
  · rintro ⟨s, hs, e⟩
    have : s = takD c d (k / 2) := by simpa [givI, sameText] using e
    rw [← this]; exact hs
  · intro h
    exact ⟨_, h, by simp [givI, sameText]⟩
theorem tak_in : ∀ {d k : Nat}, inB c d k = true → givI c d (k / 2) = .str (takD c d k)
  | 0, k, h => by rw [inB_zero] at h; cases h
  | d + 1, k, h => by
    rw [inB_succ, decide_eq_true_iff] at h
    unfold takD
    rw [if_pos h]; rfl
theorem tak_out : ∀ {d k : Nat}, inB c d k = false → takD c d k = pickR c (4 - d) k
  | 0, k, h => rfl
  | d + 1, k, h => by
    rw [inB_succ, decide_eq_false_iff_not] at h
    unfold takD
    rw [if_neg h, show 4 - (d + 1) = 3 - d by omega]
theorem rulesAt_len {d : Nat} : ∀ {j : Nat}, (rulesAt c d j).length ≤ j
  | 0 => Nat.le_refl _
  | j + 1 => by
    have := rulesAt_len (d := d) (j := j)
    unfold rulesAt
    rw [List.length_append]
    split <;> simp only [List.length_cons, List.length_nil] <;> omega
theorem rulesTo_len : ∀ {d : Nat}, (rulesTo c d).length ≤ 2 ^ d
  | 0 => by simp [rulesTo]
  | d + 1 => by
    have h1 := rulesTo_len (d := d)
    have h2 := rulesAt_len (c := c) (d := d) (j := 2 ^ d)
    unfold rulesTo
    rw [List.length_append, Nat.pow_succ]; omega
theorem half_int {k : Nat} : ((k : Nat) : Int).fdiv 2 = ((k / 2 : Nat) : Int) := by
  rw [Int.fdiv_eq_ediv_of_nonneg _ (by decide)]; rfl
end
end Mine
end

section
open PySem
set_option maxRecDepth 100000
set_option maxHeartbeats 1000000
namespace Mine

noncomputable def rulSto (c : Nat → Int) (scr : List Int) (d j : Nat) : Sto := [(Str.ofString "rules", .own ((rulesTo c d ++ rulesAt c d j).map ruleTup)), (Str.ofString "taken", .own ((List.range j).map fun k => .str (takD c d k))), (Str.ofString "given", .val (.list ((List.range (2 ^ (d - 1))).map (givI c d)))), (Str.ofString "level", .val (.int ((4 - d : Nat) : Int)))] ++ topSto c scr 4
theorem front_len : ∀ l : Fin 5, ∀ k : Fin 16, (frontS l.val k.val).length ≤ 5 := by decide +kernel
theorem isText_strs {xs : List Str} : (xs.map D.str).all isText = true := by rw [List.all_map]; simp [isText]
theorem rulesAt_in {c : Nat → Int} {d j : Nat} (h : inB c d j = true) : rulesAt c d (j + 1) = rulesAt c d j := by
  show rulesAt c d j ++ (if inB c d j = true then [] else _) = _
  rw [if_pos h, List.append_nil]
theorem rulesAt_out {c : Nat → Int} {d j : Nat} (h : inB c d j = false) : rulesAt c d (j + 1) = rulesAt c d j ++ [(frontS (4 - d) j, takD c d j)] := by
  show rulesAt c d j ++ (if inB c d j = true then [] else _) = _
  rw [if_neg (by rw [h]; decide)]
section
variable {w : World} {h₁ : Heap} {mg mb : Str → Option Value} {B : Base w h₁ mg mb (K2 w.params) 76 72} {n : Nat} {σ : Sto} {c : Nat → Int}
theorem rt_facts {d j : Nat} (hd : d < 5) (hj : j < 2 ^ d) : j < 16 ∧ j * 2 ^ (4 - d) < 16 ∧ j / 2 < 2 ^ (d - 1) := by
  rcases five hd with rfl | rfl | rfl | rfl | rfl <;> simp at hj ⊢ <;> omega
theorem rt_len {c : Nat → Int} {d j : Nat} (hd : d < 5) (hj : j < 2 ^ d) : ((rulesTo c d ++ rulesAt c d j).map ruleTup).length ≤ 100000 := by
  rw [List.length_map, List.length_append]
  exact Nat.le_trans (Nat.add_le_add (Nat.le_trans rulesTo_len (pow_le16 hd)) (Nat.le_trans rulesAt_len (Nat.le_of_lt (rt_facts hd hj).1))) (by decide)
theorem rt_agents {c : Nat → Int} {d j : Nat} (hd : d < 5) : (agT c (4 - d) j).length ≤ 32 := by
  refine Nat.le_trans agT_len ?_
  rcases five hd with rfl | rfl | rfl | rfl | rfl <;> decide
theorem rule_turn {scr : List Int} {d j : Nat} (hd : d < 5) (hj : j < 2 ^ d) :
    Ex (Y2 B) (n + 4) (nm2 w.params) ((Str.ofString "row", .val (strsD (agT c (4 - d) j))) :: (Str.ofString "k", .val (.int ((j : Nat) : Int))) :: rulSto c scr d j) (forBody 1 (forBody 14 (law2 w.params))) .next (rulSto c scr d (j + 1)) := by
  have hj16 : j < 16 := (rt_facts hd hj).1
  have hjm : j * 2 ^ (4 - d) < 16 := (rt_facts hd hj).2.1
  have hh : j / 2 < 2 ^ (d - 1) := (rt_facts hd hj).2.2
  have hrl := rt_len (c := c) hd hj
  have hal := rt_agents (c := c) (j := j) hd
  have hj3 : j < 1000 := Nat.lt_trans hj16 (by decide)
  have hj6 : j < 1000000 := Nat.lt_trans hj16 (by decide)
  have hh6 : j / 2 < 1000000 := Nat.lt_of_le_of_lt (Nat.div_le_self ..) hj6
  have hd6 : ((4 - d : Nat) : Int) ≤ 1000000 := Int.le_of_lt (nat_hi (Nat.lt_of_le_of_lt (Nat.sub_le ..) (by decide)))
  have p1 := pickI_lo (c := c) (l := 4 - d) (k := j)
  have p2 := pickI_hi (c := c) (l := 4 - d) (k := j)
  have htext : isText (givI c d (j / 2)) = true := by cases d <;> rfl
  have hgit : ((List.range (2 ^ (d - 1))).map (givI c d))[(((j / 2 : Nat) : Int)).toNat]? = some (givI c d (j / 2)) := by rw [Int.toNat_natCast, List.getElem?_map, List.getElem?_range hh]; rfl
  have hgiv : ∀ {τ : Sto} {q1 q2 q3 q4 q5 : Pos} {i : Nat}, τ.lookup (Str.ofString "given") = some (.val (.list ((List.range (2 ^ (d - 1))).map (givI c d)))) → τ.lookup (Str.ofString "k") = some (.val (.int ((j : Nat) : Int))) →
      Ev (Y2 B) (n + 4) (nm2 w.params) τ (.Subscript (.Name (Str.ofString "given") q1) (.BinOp (.Name (Str.ofString "k") q2) .FloorDiv (.Constant (.int 2) i q3) q4) q5) (givI c d (j / 2)) := by
    intro τ q1 q2 q3 q4 q5 i h1 h2
    have hk := Ev_bin (Y := Y2 B) (n := n + 4) (nm := nm2 w.params) (p := q4) (Ev_name (p := q2) h2 rfl rfl) (Ev_int (i := 2) (k := i) (p := q3)) (op_div_int (by decide) (by decide))
    rw [half_int] at hk
    exact Ev_sub (Ev_name h1 rfl rfl) hk (op_item nat_lo (nat_hi hh6) hgit) (fun _ _ => rfl) (.inl rfl)
  refine Ex_cons (Ex1_if (c := inB c d j) (EvT_cmp (hgiv rfl rfl) (Ev_name rfl rfl rfl) (op_in_texts htext isText_strs) rfl) (fun hb => ?_) (fun hb => ?_)) Ex_nil
  · refine Ex_post (Ex_cons (Ex1_append rfl rfl rfl (hgiv rfl rfl) (fun _ => rfl) (fun _ => rfl) rfl (fun _ => rfl) not_inter (rm_len hj3)) Ex_nil) ?_
    unfold rulSto
    rw [rulesAt_in hb, range_map_succ, tak_in hb]
    exact Sub.cons rfl (Sub.cons rfl (Sub.cons rfl (Sub.cons rfl (Sub.cons rfl (Sub.cons rfl (Sub.cons rfl (Sub.cons rfl (Sub.cons rfl (Sub.cons rfl (Sub.cons rfl (Sub.cons rfl (Sub.cons rfl (Sub.cons rfl (Sub.cons rfl (Sub.nil)))))))))))))))
  · refine Ex_post (Ex_cons (Ex1_append (d := .str (pickR c (4 - d) j)) rfl rfl rfl ?_ (fun _ => rfl) (fun _ => rfl) rfl (fun _ => rfl) not_inter (rm_len hj3)) (Ex_cons (Ex1_append (xs := (rulesTo c d ++ rulesAt c d j).map ruleTup) (d := ruleTup (frontS (4 - d) j, takD c d j)) rfl rfl rfl ?_ (fun _ => rfl) (fun _ => rfl) rfl (fun _ => rfl) not_inter hrl) Ex_nil)) ?_
    · refine Ev_sub (i := .int (pickI c (4 - d) j)) (Ev_name rfl rfl rfl) (Ev_bin (Ev_bin (Ev_sub (Ev_name rfl rfl rfl) (Ev_name rfl rfl rfl) (rng_item hj16 (by decide)) (fun _ _ => rfl) (.inl rfl)) Ev_int (op_div_int (by decide) (by decide)))
        (Ev_call rfl glo_len rfl (.builtin "len") (fun _ => rfl) (EvArgs_cons (Ev_name rfl rfl rfl) EvArgs_nil fun _ => rfl) (call_len_l (by rw [List.length_map]; exact Nat.le_trans hal (by decide)))) ?_) ?_ (fun _ _ => rfl) (.inl rfl)
      · rw [List.length_map]
        exact op_mod_int (fun e => Nat.lt_irrefl 0 (Int.natCast_eq_zero.mp e ▸ ag_one (c := c) (l := 4 - d) (k := j)))
      · exact op_item p1 (Int.lt_trans p2 (nat_hi (Nat.lt_of_le_of_lt hal (by decide)))) (by rw [List.getElem?_map, pick_item]; rfl)
    · refine Ev_tup (ds := [.str (frontS (4 - d) j), .str (takD c d j)]) (EvArgs_cons ?_ (EvArgs_cons ?_ EvArgs_nil fun _ => rfl) fun _ => rfl) (by simp)
      · have hi : ((j : Nat) : Int) * 2 ^ (((4 - d : Nat) : Int).toNat) = ((j * 2 ^ (4 - d) : Nat) : Int) := by simp [Int.toNat_natCast]
        refine Ev_slice_str (x := nameS (j * 2 ^ (4 - d))) (l := none) (u := some (5 - ((4 - d : Nat) : Int))) (t := none) (Ev_sub (i := .int ((j * 2 ^ (4 - d) : Nat) : Int)) (Ev_name rfl rfl rfl) (hi ▸ Ev_bin (Ev_name rfl rfl rfl) (Ev_name rfl rfl rfl) (op_shl_int nat_lo hd6 (abs_hi hj6))) (rng_item (f := fun k => .str (nameS k)) hjm (by decide)) (fun _ _ => rfl) (.inl rfl))
          EvPart_none (EvPart_some (Ev_bin Ev_int (Ev_name rfl rfl rfl) op_sub_int)) EvPart_none (by decide) ?_
        have := front_len ⟨4 - d, Nat.lt_of_le_of_lt (Nat.sub_le ..) (by decide)⟩ ⟨j, hj16⟩
        exact Nat.le_trans this (by decide)
      · rw [tak_out hb]
        exact Ev_own_item rfl rfl rfl (Ev_name rfl rfl rfl) (fun _ _ => rfl) nat_lo (nat_hi hj6) (by simp)
    · unfold rulSto
      rw [rulesAt_out hb, range_map_succ, ← List.append_assoc, List.map_append (l₂ := [_]), tak_out hb]
      exact Sub.cons rfl (Sub.cons rfl (Sub.cons rfl (Sub.cons rfl (Sub.cons rfl (Sub.cons rfl (Sub.cons rfl (Sub.cons rfl (Sub.cons rfl (Sub.cons rfl (Sub.cons rfl (Sub.cons rfl (Sub.cons rfl (Sub.cons rfl (Sub.cons rfl (Sub.nil)))))))))))))))
end
end Mine
end

section
open PySem
set_option maxRecDepth 100000
set_option maxHeartbeats 1000000
namespace Mine

noncomputable def outSto (c : Nat → Int) (scr : List Int) (d : Nat) : Sto := [(Str.ofString "rules", .own ((rulesTo c d).map ruleTup)), (Str.ofString "given", .val (.list ((List.range (2 ^ (d - 1))).map (givI c d))))] ++ topSto c scr 4
section
variable {w : World} {h₁ : Heap} {mg mb : Str → Option Value} {B : Base w h₁ mg mb (K2 w.params) 76 72} {n : Nat} {σ : Sto} {c : Nat → Int}
theorem rule_level {scr : List Int} {d : Nat} (hd : d < 5) :
    Ex (Y2 B) (n + 4) (nm2 w.params) ((Str.ofString "level", .val (.int ((4 - d : Nat) : Int))) :: outSto c scr d) (forBody 14 (law2 w.params)) .next (outSto c scr (d + 1)) := by
  have hm : 16 / 2 ^ (4 - d) = 2 ^ d := by
    rcases five hd with rfl | rfl | rfl | rfl | rfl <;> rfl
  refine Ex_cons (Ex1_own (.inl rfl) EvArgs_nil (by simp) (fun _ => rfl)) ?_
  refine Ex_pre (σ₀ := rulSto c scr d 0) ?_ ?_
  · refine Ex_cons (Ex1_for (ds := enumD 0 ((List.range (16 / 2 ^ (4 - d))).map fun k => strsD (agT c (4 - d) k))) (EvIt_enum rfl glo_enum rfl (fun _ => rfl) (lvl_at (f := fun i k => strsD (agT c i k)) (m := 4) (l := 4 - d) rfl rfl rfl rfl (by omega) (by omega)))
      (LoopEx.of (rulSto c scr d) _ 0 fun j x hx => ?_) fun _ _ => rfl) ?_
    · obtain ⟨y, hy, rfl⟩ := enumD_at hx
      have hj : j < 16 / 2 ^ (4 - d) := by
        have := (List.getElem?_eq_some_iff.mp hy).1
        simpa using this
      have e : y = strsD (agT c (4 - d) j) := by
        rw [List.getElem?_map, List.getElem?_range hj] at hy
        exact (Option.some.inj hy).symm
      subst e
      refine ⟨_, .pair (.inl rfl) (.inl rfl), ?_⟩
      rw [Nat.zero_add]
      exact rule_turn hd (hm ▸ hj)
    · rw [Nat.zero_add, enumD_len, List.length_map, List.length_range, hm]
      refine Ex_freeze (x := Str.ofString "taken") rfl (Ex_post (Ex_cons (Ex1_assign (.inl rfl) (Ev_name rfl rfl rfl) fun _ _ => rfl) Ex_nil) ?_)
      have e : outSto c scr (d + 1) = [(Str.ofString "rules", .own ((rulesTo c d ++ rulesAt c d (2 ^ d)).map ruleTup)), (Str.ofString "given", .val (.list ((List.range (2 ^ d)).map fun k => .str (takD c d k))))] ++ topSto c scr 4 := rfl
      rw [e]
      exact Sub.cons rfl (Sub.cons rfl (Sub.cons rfl (Sub.cons rfl (Sub.cons rfl (Sub.cons rfl (Sub.cons rfl (Sub.cons rfl (Sub.cons rfl (Sub.cons rfl (Sub.cons rfl (Sub.cons rfl (Sub.cons rfl (Sub.nil)))))))))))))
  · unfold rulSto
    rw [show rulesTo c d ++ rulesAt c d 0 = rulesTo c d from List.append_nil _]
    exact Sub.cons rfl (Sub.cons rfl (Sub.cons rfl (Sub.cons rfl (Sub.cons rfl (Sub.cons rfl (Sub.cons rfl (Sub.cons rfl (Sub.cons rfl (Sub.cons rfl (Sub.cons rfl (Sub.cons rfl (Sub.cons rfl (Sub.cons rfl (Sub.cons rfl (Sub.nil)))))))))))))))
theorem five_at : ∀ {j : Nat} {x : D}, [D.int 4, D.int 3, D.int 2, D.int 1, D.int 0][j]? = some x → j < 5 ∧ x = .int ((4 - j : Nat) : Int)
  | 0, x, h => by cases h; exact ⟨by decide, rfl⟩
  | 1, x, h => by cases h; exact ⟨by decide, rfl⟩
  | 2, x, h => by cases h; exact ⟨by decide, rfl⟩
  | 3, x, h => by cases h; exact ⟨by decide, rfl⟩
  | 4, x, h => by cases h; exact ⟨by decide, rfl⟩
  | n + 5, x, h => by simp at h
theorem rules_st {scr : List Int} {ss : List Stmt} {φ : Fl} {σ' : Sto} (h : Ex (Y2 B) (n + 4) (nm2 w.params) (outSto c scr 5) ss φ σ') :
    Ex (Y2 B) (n + 4) (nm2 w.params) (topSto c scr 4) (((law2 w.params).take 15).drop 13 ++ ss) φ σ' := by
  refine Ex_cons (Ex1_swapped (xs := [Str.ofString "rules", Str.ofString "given"]) (sls := [.own [], .own [.none]]) ?_ (EvSls_own EvArgs_nil (by simp) (EvSls_own (EvArgs_cons Ev_none EvArgs_nil fun _ => rfl) (by simp) EvSls_nil fun _ => rfl) fun _ => rfl) rfl (by simp) (fun _ => rfl)
    (swapped2 rfl rfl rfl rfl rfl rfl rfl)) ?_
  · intro x hx; simp only [List.mem_cons, List.not_mem_nil, or_false] at hx; rcases hx with rfl | rfl <;> exact .inl rfl
  refine Ex_freeze (x := Str.ofString "given") rfl (Ex_pre (σ₀ := outSto c scr 0) ?_ (Sub.cons rfl (Sub.cons rfl (Sub.cons rfl (Sub.cons rfl (Sub.cons rfl (Sub.cons rfl (Sub.cons rfl (Sub.cons rfl (Sub.cons rfl (Sub.cons rfl (Sub.cons rfl (Sub.cons rfl (Sub.cons rfl (Sub.nil)))))))))))))))
  refine Ex_cons (Ex1_for (ds := [D.int 4, D.int 3, D.int 2, D.int 1, D.int 0]) (EvIt_list rfl (Ev_list (EvArgs_cons Ev_int (EvArgs_cons Ev_int (EvArgs_cons Ev_int (EvArgs_cons Ev_int (EvArgs_cons Ev_int EvArgs_nil (star_plain rfl)) (star_plain rfl)) (star_plain rfl)) (star_plain rfl)) (star_plain rfl)) (by simp))) (LoopEx.of (outSto c scr) _ 0 fun j x hx => ?_) fun _ _ => rfl) h
  obtain ⟨hj, rfl⟩ := five_at hx
  refine ⟨_, .name (.inl rfl), ?_⟩
  rw [Nat.zero_add]
  exact rule_level hj
end
end Mine
end

section
open PySem
set_option maxRecDepth 100000
set_option maxHeartbeats 1000000
namespace Mine

theorem lpick_from {xs : List D} {i : Nat} (h : i ≤ xs.length) : lpick xs (some ((i : Nat) : Int)) none none = xs.drop i := by
  have e : sliceBounds (some (i : Int)) none none xs.length = ((i : Int), (xs.length : Int), 1) := by
    simp only [sliceBounds, Option.getD_none]
    have h1 : ¬ ((i : Int) < 0) := by omega
    simp only [h1, if_false, show (1 : Int) > 0 by decide, if_true]
    congr 1
    omega
  unfold lpick
  rw [e]
  simp only [sliceRange_one]
  have := pick_run xs.toArray i (xs.length - i)
  simp only [List.getElem?_toArray] at this
  rw [this, List.take_of_length_le (by simp)]
theorem lpick_to {xs : List D} {i : Nat} (h : i ≤ xs.length) : lpick xs none (some ((i : Nat) : Int)) none = xs.take i := by
  have e : sliceBounds none (some (i : Int)) none xs.length = (((0 : Nat) : Int), (i : Int), 1) := by
    simp only [sliceBounds, Option.getD_none]
    have h1 : ¬ ((i : Int) < 0) := by omega
    simp only [h1, if_false, show (1 : Int) > 0 by decide, if_true]
    congr 2
    omega
  unfold lpick
  rw [e]
  simp only [sliceRange_one]
  have := pick_run xs.toArray 0 (i - 0)
  simp only [List.getElem?_toArray] at this
  rw [this]
  simp

section
variable {c : Nat → Int}
theorem joins_level {d : Nat} (hd : d < 4) : ∀ {j : Nat}, (((rulesAt c (d + 1) (2 * j)).length : Nat) : Int) = joinsAt c (3 - d) j
  | 0 => rfl
  | j + 1 => by
    have ih := joins_level hd (j := j)
    have e : 2 * (j + 1) = 2 * j + 1 + 1 := by omega
    rw [e]
    show (((rulesAt c (d + 1) (2 * j) ++ _ ++ _).length : Nat) : Int) = joinsAt c (3 - d) j + joinN (uaT c (3 - d) (2 * j)) (uaT c (3 - d) (2 * j + 1))
    rw [← ih, inB_succ, inB_succ]
    have h1 : 2 * j / 2 = j := by omega
    have h2 : (2 * j + 1) / 2 = j := by omega
    rw [h1, h2]
    have hm : takD c d j ∈ agT c (4 - d) j := takD_mem
    rw [show 4 - d = (3 - d) + 1 by omega, ag_ua] at hm
    rw [ag_ua, ag_ua]
    have hb : uaT c (3 - d + 1) j = bothUa (uaT c (3 - d) (2 * j)) (uaT c (3 - d) (2 * j + 1)) := rfl
    rw [hb] at hm
    generalize takD c d j = t at *
    generalize uaT c (3 - d) (2 * j) = a at *
    generalize uaT c (3 - d) (2 * j + 1) = b at *
    unfold bothUa at hm
    unfold joinN
    by_cases hk : keepIn b a = []
    · rw [if_pos hk] at hm ⊢
      by_cases ha : t ∈ a
      · have hb : t ∉ b := fun hb => by
          have := mem_keepIn.mpr ⟨ha, hb⟩
          rw [hk] at this; cases this
        simp [ha, hb]
      · have hb : t ∈ b := by
          rcases List.mem_append.mp hm with h | h
          · exact absurd h ha
          · exact h
        simp [ha, hb]
    · rw [if_neg hk] at hm ⊢
      obtain ⟨ha, hb⟩ := mem_keepIn.mp hm
      simp [ha, hb]
theorem rules_joins : (((rulesTo c 5).length : Nat) : Int) = joinsTo c 4 + 1 := by
  have e0 : (((rulesAt c 0 1).length : Nat) : Int) = 1 := by
    show ((([] ++ if inB c 0 0 = true then [] else [_]).length : Nat) : Int) = 1
    rw [inB_zero]; rfl
  have e1 : (((rulesAt c 1 2).length : Nat) : Int) = joinsAt c 3 1 := joins_level (c := c) (d := 0) (by decide) (j := 1)
  have e2 : (((rulesAt c 2 4).length : Nat) : Int) = joinsAt c 2 2 := joins_level (c := c) (d := 1) (by decide) (j := 2)
  have e3 : (((rulesAt c 3 8).length : Nat) : Int) = joinsAt c 1 4 := joins_level (c := c) (d := 2) (by decide) (j := 4)
  have e4 : (((rulesAt c 4 16).length : Nat) : Int) = joinsAt c 0 8 := joins_level (c := c) (d := 3) (by decide) (j := 8)
  have hj : joinsTo c 4 = 0 + joinsAt c 0 8 + joinsAt c 1 4 + joinsAt c 2 2 + joinsAt c 3 1 := rfl
  have hl : (rulesTo c 5).length = (rulesAt c 0 1).length + (rulesAt c 1 2).length + (rulesAt c 2 4).length + (rulesAt c 3 8).length + (rulesAt c 4 16).length := by
    show ([] ++ rulesAt c 0 1 ++ rulesAt c 1 2 ++ rulesAt c 2 4 ++ rulesAt c 3 8 ++ rulesAt c 4 16).length = _
    simp only [List.length_append, List.length_nil]
    omega
  omega

theorem mem_rulesAt {d : Nat} {r : Str × Str} : ∀ {j : Nat}, r ∈ rulesAt c d j ↔ ∃ k, k < j ∧ inB c d k = false ∧ r = (frontS (4 - d) k, takD c d k)
  | 0 => by constructor
            · intro h; cases h
            · rintro ⟨k, hk, _⟩; omega
  | j + 1 => by
    have e : rulesAt c d (j + 1) = rulesAt c d j ++ if inB c d j then [] else [(frontS (4 - d) j, takD c d j)] := rfl
    rw [e, List.mem_append, mem_rulesAt]
    constructor
    · rintro (⟨k, h1, h2, h3⟩ | h)
      · exact ⟨k, by omega, h2, h3⟩
      · cases hb : inB c d j with
        | true => rw [hb] at h; cases h
        | false =>
          rw [hb] at h
          exact ⟨j, by omega, hb, List.mem_singleton.mp h⟩
    · rintro ⟨k, h1, h2, h3⟩
      by_cases hk : k = j
      · subst hk
        right
        rw [h2, h3]
        exact List.mem_singleton.mpr rfl
      · exact .inl ⟨k, by omega, h2, h3⟩
theorem mem_rulesTo {r : Str × Str} : ∀ {m : Nat}, r ∈ rulesTo c m ↔ ∃ d k, d < m ∧ k < 2 ^ d ∧ inB c d k = false ∧ r = (frontS (4 - d) k, takD c d k)
  | 0 => by constructor
            · intro h; cases h
            · rintro ⟨d, k, hd, _⟩; omega
  | m + 1 => by
    have e : rulesTo c (m + 1) = rulesTo c m ++ rulesAt c m (2 ^ m) := rfl
    rw [e, List.mem_append, mem_rulesTo, mem_rulesAt]
    constructor
    · rintro (⟨d, k, h1, h2, h3, h4⟩ | ⟨k, h1, h2, h3⟩)
      · exact ⟨d, k, by omega, h2, h3, h4⟩
      · exact ⟨m, k, by omega, h1, h2, h3⟩
    · rintro ⟨d, k, h1, h2, h3, h4⟩
      by_cases hk : d = m
      · subst hk
        exact .inr ⟨k, h2, h3, h4⟩
      · exact .inl ⟨d, k, by omega, h2, h3, h4⟩
theorem nearest {k : Nat} : ∀ {d : Nat}, d ≤ 4 → ∃ e, e ≤ d ∧ inB c e (k / 2 ^ (4 - e)) = false ∧ takD c e (k / 2 ^ (4 - e)) = takD c d (k / 2 ^ (4 - d)) ∧ ∀ i, e < i → i ≤ d → inB c i (k / 2 ^ (4 - i)) = true
  | 0, _ => ⟨0, Nat.le_refl _, inB_zero, rfl, fun i h1 h2 => by omega⟩
  | d + 1, hd => by
    cases hb : inB c (d + 1) (k / 2 ^ (4 - (d + 1))) with
    | false => exact ⟨d + 1, Nat.le_refl _, hb, rfl, fun i h1 h2 => by omega⟩
    | true =>
      obtain ⟨e, h1, h2, h3, h4⟩ := nearest (k := k) (d := d) (by omega)
      have hdiv : k / 2 ^ (4 - (d + 1)) / 2 = k / 2 ^ (4 - d) := by
        rw [Nat.div_div_eq_div_mul, ← Nat.pow_succ, show (4 - (d + 1)).succ = 4 - d by omega]
      have ht := tak_in hb
      rw [hdiv] at ht
      have ht : takD c d (k / 2 ^ (4 - d)) = takD c (d + 1) (k / 2 ^ (4 - (d + 1))) := by
        have ht' : D.str (takD c d (k / 2 ^ (4 - d))) = D.str (takD c (d + 1) (k / 2 ^ (4 - (d + 1)))) := ht
        injection ht'
      refine ⟨e, by omega, h2, h3.trans ht, fun i hi1 hi2 => ?_⟩
      by_cases hid : i = d + 1
      · subst hid; exact hb
      · exact h4 i hi1 (by omega)
end
end Mine
end

section
open PySem
set_option maxRecDepth 100000
set_option maxHeartbeats 1000000
namespace Mine

noncomputable def dashS : Str := Str.ofString "-"
noncomputable def askS (k : Nat) : Str := nameS k ++ Txt.mul (Str.ofString "/c") (((k : Nat) : Int).fmod 2)
theorem front_hits : ∀ l : Fin 5, ∀ j k : Fin 16, j.val < 16 / 2 ^ l.val → Txt.startswith (askS k.val) (frontS l.val j.val) = decide (j.val = k.val / 2 ^ l.val) := by decide +kernel
theorem front_size : ∀ l : Fin 5, ∀ j : Fin 16, j.val < 16 / 2 ^ l.val → (frontS l.val j.val).length = 5 - l.val := by decide +kernel
theorem front_dash : ∀ l : Fin 5, ∀ j : Fin 16, j.val < 16 / 2 ^ l.val → Txt.startswith dashS (frontS l.val j.val) = false := by decide +kernel

noncomputable def linesOf (r : Str × Str) : List (Str × Str) := if (r.2.length : Int) != 0 then [(r.1, Str.ofString ""), (r.1, r.2), (r.1, dashS)] else [(r.1, Str.ofString "")]

section
variable {ra : Str → Int} {M : Int} {v : Str}
noncomputable def Top (M : Int) (v : Str) (st : Int × D) : Prop := st.1 < M ∨ st = (M, .str v)
theorem step_low {st : Int × D} {r : Str × Str} (hr : ra r.1 < M) (h : Top M v st) : Top M v (allowStep ra st r) := by
  unfold allowStep
  rcases h with h | rfl
  · split
    · split
      · exact .inl hr
      · split
        · exact .inl h
        · exact .inl h
    · exact .inl h
  · split
    · have h1 : decide (M < ra r.1) = false := decide_eq_false (by omega)
      have h2 : (ra r.1 == M) = false := beq_eq_false_iff_ne.mpr (by omega)
      simp only [h1, h2, Bool.false_and, Bool.false_eq_true, if_false]
      exact .inr rfl
    · exact .inr rfl
theorem len_zero {s : Str} (h : ((s.length : Int) != 0) = false) : s = Str.ofString "" := by
  have h1 : s.length = 0 := by simpa using h
  obtain ⟨cps⟩ := s
  have : cps = #[] := Array.eq_empty_of_size_eq_zero h1
  rw [this]; rfl
theorem step_top {st : Int × D} {x : Str} (hr : ra x = M) (hM : 0 < M) (h : Top M v st) (y : Str) : allowStep ra st (x, y) = if decide (st.1 < M) = true ∨ ((v.length : Int) != 0) = false then (M, .str y) else (M, .str v) := by
  have hn : (ra x != 0) = true := by rw [hr]; simp; omega
  unfold allowStep
  simp only [hn, if_true]
  rcases h with h | rfl
  · have h1 : decide (st.1 < ra x) = true := decide_eq_true (by omega)
    have h2 : decide (st.1 < M) = true := decide_eq_true h
    simp only [h1, h2, true_or, if_true]
    rw [hr]
  · have h1 : decide (M < ra x) = false := decide_eq_false (by omega)
    have h2 : (ra x == M) = true := beq_iff_eq.mpr hr
    have h3 : decide (M < M) = false := decide_eq_false (by omega)
    simp only [h1, h2, h3, truthD, Bool.true_and, Bool.false_eq_true, if_false, false_or]
    cases ((v.length : Int) != 0) <;> rfl
noncomputable def stepR (ra : Str → Int) (st : Int × D) (r : Str × Str) : Int × D := (linesOf r).foldl (allowStep ra) st
theorem stepR_low {st : Int × D} {r : Str × Str} (hr : ra r.1 < M) (h : Top M v st) : Top M v (stepR ra st r) := by
  unfold stepR linesOf
  split
  · exact step_low hr (step_low hr (step_low hr h))
  · exact step_low hr h
theorem stepR_top {st : Int × D} {r : Str × Str} (hr : ra r.1 = M) (hv : r.2 = v) (hM : 0 < M) (h : Top M v st) : stepR ra st r = (M, .str v) := by
  obtain ⟨x, y⟩ := r
  have hr : ra x = M := hr
  have hv : y = v := hv
  subst hv
  unfold stepR linesOf
  cases hl : ((y.length : Int) != 0) with
  | false =>
    have e := len_zero hl
    show allowStep ra st (x, Str.ofString "") = _
    rw [step_top hr hM h, if_pos (.inr hl), ← e]
  | true =>
    show allowStep ra (allowStep ra (allowStep ra st (x, Str.ofString "")) (x, y)) (x, dashS) = _
    have hn : (M != 0) = true := by simp; omega
    have ht : truthD (.str y) = true := hl
    have hd : decide (M < M) = false := decide_eq_false (by omega)
    have hx : (M == M) = true := beq_iff_eq.mpr rfl
    have s2 : ∀ u : Str, truthD (.str u) = false ∨ u = y → allowStep ra (M, .str u) (x, y) = (M, .str y) := by
      intro u hu
      unfold allowStep
      simp only [hn, if_true, hr, hd, hx, Bool.true_and, Bool.false_eq_true, if_false]
      rcases hu with hu | rfl
      · rw [hu]; rfl
      · rw [ht]; rfl
    have s3 : allowStep ra (M, .str y) (x, dashS) = (M, .str y) := by
      unfold allowStep
      simp only [hn, if_true, hr, hd, hx, ht, Bool.not_true, Bool.and_false, Bool.false_eq_true, if_false]
    rw [step_top hr hM h]
    split
    · rw [s2 _ (.inl rfl), s3]
    · rw [s2 _ (.inr rfl), s3]
theorem fold_top (hM : 0 < M) : ∀ (rs : List (Str × Str)) (st : Int × D), (∀ r ∈ rs, ra r.1 < M ∨ (ra r.1 = M ∧ r.2 = v)) → Top M v st → Top M v ((rs.flatMap linesOf).foldl (allowStep ra) st) ∧ ((st = (M, .str v) ∨ ∃ r ∈ rs, ra r.1 = M) → (rs.flatMap linesOf).foldl (allowStep ra) st = (M, .str v))
  | [], st, _, h => ⟨h, fun e => by
      rcases e with e | ⟨r, hr, _⟩
      · exact e
      · cases hr⟩
  | r :: rs, st, hall, h => by
    rw [List.flatMap_cons, List.foldl_append]
    have hr := hall r (by simp)
    have hrest : ∀ r ∈ rs, ra r.1 < M ∨ (ra r.1 = M ∧ r.2 = v) := fun q hq => hall q (by simp [hq])
    show Top M v ((rs.flatMap linesOf).foldl (allowStep ra) (stepR ra st r)) ∧ (_ → (rs.flatMap linesOf).foldl (allowStep ra) (stepR ra st r) = _)
    rcases hr with hr | ⟨hr, hv⟩
    · have ih := fold_top hM rs (stepR ra st r) hrest (stepR_low hr h)
      refine ⟨ih.1, fun e => ?_⟩
      rcases e with e | ⟨q, hq, eq⟩
      · subst e
        refine ih.2 (.inl ?_)
        have := stepR_low (ra := ra) (v := v) hr (st := (M, .str v)) (.inr rfl)
        have hs : ∀ y, allowStep ra (M, D.str v) (r.1, y) = (M, .str v) := by
          intro y
          unfold allowStep
          have h1 : decide (M < ra r.1) = false := decide_eq_false (by omega)
          have h2 : (ra r.1 == M) = false := beq_eq_false_iff_ne.mpr (by omega)
          simp only [h1, h2, Bool.false_and, Bool.false_eq_true, if_false, ite_self]
        unfold stepR linesOf
        split
        · simp only [List.foldl_cons, List.foldl_nil, hs]
        · simp only [List.foldl_cons, List.foldl_nil, hs]
      · rcases List.mem_cons.mp hq with rfl | hq
        · omega
        · exact ih.2 (.inr ⟨q, hq, eq⟩)
    · rw [stepR_top hr hv hM h]
      have ih := fold_top hM rs (M, .str v) hrest (.inr rfl)
      exact ⟨ih.1, fun _ => ih.2 (.inl rfl)⟩
theorem fold_none : ∀ (ls : List (Str × Str)) (st : Int × D), (∀ r ∈ ls, ra r.1 = 0) → ls.foldl (allowStep ra) st = st
  | [], st, _ => rfl
  | r :: ls, st, h => by
    rw [List.foldl_cons]
    have : allowStep ra st r = st := by
      unfold allowStep
      rw [h r (by simp)]
      rfl
    rw [this]
    exact fold_none ls st fun q hq => h q (by simp [hq])
theorem linesOf_front {r q : Str × Str} (h : q ∈ linesOf r) : q.1 = r.1 := by
  unfold linesOf at h
  split at h
  · simp only [List.mem_cons, List.not_mem_nil, or_false] at h
    rcases h with rfl | rfl | rfl <;> rfl
  · rw [List.mem_singleton.mp h]
end

section
variable {c : Nat → Int}
theorem places {d : Nat} (hd : d < 5) : 16 / 2 ^ (4 - d) = 2 ^ d := by
  rcases five hd with rfl | rfl | rfl | rfl | rfl <;> rfl
theorem pow16 {d : Nat} (hd : d < 5) : 2 ^ d ≤ 16 := by
  rcases five hd with rfl | rfl | rfl | rfl | rfl <;> decide
theorem top_place {e k : Nat} (he5 : e < 5) (hk : k < 16) : k / 2 ^ (4 - e) < 2 ^ e := by
  rcases five he5 with rfl | rfl | rfl | rfl | rfl <;> simp <;> omega
theorem ans_of {d j k : Nat} (hd : d < 5) (hj : j < 2 ^ d) (hk : k < 16) : ruleAns (frontS (4 - d) j) (askS k) = if j = k / 2 ^ (4 - d) then (d : Int) + 2 else 0 := by
  have hj' : j < 16 / 2 ^ (4 - d) := by rw [places hd]; exact hj
  have hj16 : j < 16 := Nat.lt_of_lt_of_le hj (pow16 hd)
  have h1 := front_hits ⟨4 - d, by omega⟩ ⟨j, hj16⟩ ⟨k, hk⟩ hj'
  have h2 := front_size ⟨4 - d, by omega⟩ ⟨j, hj16⟩ hj'
  simp only at h1 h2
  unfold ruleAns
  rw [h1, h2]
  by_cases e : j = k / 2 ^ (4 - d)
  · rw [if_pos (decide_eq_true e), if_pos e]; omega
  · rw [if_neg (by rw [decide_eq_false e]; decide), if_neg e]
theorem told_name {k : Nat} (hk : k < 16) {rs : List (Str × Str)} (h : ∀ r, r ∈ rs ↔ r ∈ rulesTo c 5) : allowF (fun x => ruleAns x (askS k)) (rs.flatMap linesOf) = .str (tb c k) := by
  obtain ⟨e, he, h2, h3, h4⟩ := nearest (c := c) (k := k) (d := 4) (by decide)
  have hv : takD c 4 (k / 2 ^ (4 - 4)) = tb c k := by
    have := takD_mem (c := c) (d := 4) (k := k / 2 ^ (4 - 4))
    have e : k / 2 ^ (4 - 4) = k := Nat.div_one k
    rw [e] at this ⊢
    exact (List.mem_replicate.mp this).2
  rw [hv] at h3
  have he5 : e < 5 := Nat.lt_succ_of_le he
  have hek : k / 2 ^ (4 - e) < 2 ^ e := top_place he5 hk
  have hall : ∀ r ∈ rs, ruleAns r.1 (askS k) < (e : Int) + 2 ∨ (ruleAns r.1 (askS k) = (e : Int) + 2 ∧ r.2 = tb c k) := by
    intro r hr
    obtain ⟨d, j, hd, hj, hin, rfl⟩ := mem_rulesTo.mp ((h r).mp hr)
    show ruleAns (frontS (4 - d) j) (askS k) < _ ∨ (ruleAns (frontS (4 - d) j) (askS k) = _ ∧ takD c d j = _)
    rw [ans_of hd hj hk]
    by_cases hjk : j = k / 2 ^ (4 - d)
    · rw [if_pos hjk]
      subst hjk
      have hde : d ≤ e := by
        refine Nat.not_lt.mp fun hlt => ?_
        rw [h4 d hlt (by omega)] at hin
        cases hin
      by_cases hq : d = e
      · subst hq
        exact .inr ⟨rfl, h3⟩
      · exact .inl (by omega)
    · rw [if_neg hjk]
      exact .inl (by omega)
  have hex : ∃ r ∈ rs, ruleAns r.1 (askS k) = (e : Int) + 2 := by
    refine ⟨(frontS (4 - e) (k / 2 ^ (4 - e)), takD c e (k / 2 ^ (4 - e))), (h _).mpr (mem_rulesTo.mpr ⟨e, _, by omega, hek, h2, rfl⟩), ?_⟩
    show ruleAns (frontS (4 - e) _) _ = _
    rw [ans_of (by omega) hek hk, if_pos rfl]
  unfold allowF
  rw [((fold_top (ra := fun x => ruleAns x (askS k)) (M := (e : Int) + 2) (v := tb c k) (by omega) rs (-1, .bool true) hall (.inl (by show (-1 : Int) < _; omega))).2 (.inr hex))]
theorem told_dash {rs : List (Str × Str)} (h : ∀ r, r ∈ rs ↔ r ∈ rulesTo c 5) : allowF (fun x => ruleAns x dashS) (rs.flatMap linesOf) = .bool true := by
  unfold allowF
  rw [fold_none]
  intro q hq
  obtain ⟨r, hr, hql⟩ := List.mem_flatMap.mp hq
  rw [linesOf_front hql]
  obtain ⟨d, j, hd, hj, hin, rfl⟩ := mem_rulesTo.mp ((h r).mp hr)
  have hj' : j < 16 / 2 ^ (4 - d) := by rw [places hd]; exact hj
  have hj16 : j < 16 := Nat.lt_of_lt_of_le hj (pow16 hd)
  have := front_dash ⟨4 - d, by omega⟩ ⟨j, hj16⟩ hj'
  simp only at this
  show ruleAns (frontS (4 - d) j) dashS = 0
  unfold ruleAns
  rw [this]
  rfl
end
end Mine
end

section
open PySem
set_option maxRecDepth 100000
set_option maxHeartbeats 1000000
namespace Mine

noncomputable def fInt (c : Nat → Int) : Int := ((c 15).fdiv 3).fmod (((rulesTo c 5).length : Nat) : Int)
noncomputable def rot (c : Nat → Int) : List (Str × Str) := (rulesTo c 5).drop (fInt c).toNat ++ (rulesTo c 5).take (fInt c).toNat
section
variable {c : Nat → Int}
theorem joins_nonneg {l : Nat} : ∀ {j : Nat}, 0 ≤ joinsAt c l j
  | 0 => Int.le_refl _
  | j + 1 => by
    have := joins_nonneg (l := l) (j := j)
    show 0 ≤ joinsAt c l j + joinN _ _
    unfold joinN
    split <;> omega
theorem rules_pos : 0 < (rulesTo c 5).length := by
  have h := rules_joins (c := c)
  have h0 := joins_nonneg (c := c) (l := 0) (j := 8)
  have h1 := joins_nonneg (c := c) (l := 1) (j := 4)
  have h2 := joins_nonneg (c := c) (l := 2) (j := 2)
  have h3 := joins_nonneg (c := c) (l := 3) (j := 1)
  have hj : joinsTo c 4 = 0 + joinsAt c 0 8 + joinsAt c 1 4 + joinsAt c 2 2 + joinsAt c 3 1 := rfl
  omega
theorem fInt_lo : 0 ≤ fInt c := Int.fmod_nonneg_of_pos _ (by have := rules_pos (c := c); omega)
theorem fInt_hi : fInt c < (((rulesTo c 5).length : Nat) : Int) := Int.fmod_lt_of_pos _ (by have := rules_pos (c := c); omega)
theorem mem_rot {r : Str × Str} : r ∈ rot c ↔ r ∈ rulesTo c 5 := by
  unfold rot
  rw [List.mem_append]
  conv => rhs; rw [← List.take_append_drop (fInt c).toNat (rulesTo c 5), List.mem_append]
  exact Or.comm
theorem rot_len : (rot c).length ≤ 32 := by
  have h := rulesTo_len (c := c) (d := 5)
  unfold rot
  rw [List.length_append, List.length_drop, List.length_take]; omega
theorem rot_slices : lpick ((rulesTo c 5).map ruleTup) (some (fInt c)) none none ++ lpick ((rulesTo c 5).map ruleTup) none (some (fInt c)) none = (rot c).map ruleTup := by
  have h0 := fInt_lo (c := c)
  have h1 := fInt_hi (c := c)
  have e : fInt c = (((fInt c).toNat : Nat) : Int) := by omega
  have hl : (fInt c).toNat ≤ ((rulesTo c 5).map ruleTup).length := by rw [List.length_map]; omega
  rw [e, lpick_from hl, lpick_to hl]
  unfold rot
  rw [List.map_append, List.map_drop, List.map_take]
theorem linesOf_len {r : Str × Str} : (linesOf r).length ≤ 3 := by
  unfold linesOf
  split <;> simp
theorem lines_len : ∀ {rs : List (Str × Str)}, (rs.flatMap linesOf).length ≤ 3 * rs.length
  | [] => by simp
  | r :: rs => by
    have h1 := linesOf_len (r := r)
    have h2 := lines_len (rs := rs)
    rw [List.flatMap_cons, List.length_append, List.length_cons]; omega
theorem rot_small : ∀ r ∈ (rot c).flatMap linesOf, r.1.length ≤ 1000 ∧ r.2.length ≤ 1000 := by
  intro q hq
  obtain ⟨r, hr, hql⟩ := List.mem_flatMap.mp hq
  obtain ⟨d, j, hd, hj, hin, rfl⟩ := mem_rulesTo.mp (mem_rot.mp hr)
  have hj16 : j < 16 := Nat.lt_of_lt_of_le hj (pow16 hd)
  have hf := front_len ⟨4 - d, by omega⟩ ⟨j, hj16⟩
  simp only at hf
  have ht : (takD c d j).length ≤ 1 := by
    have := agT_mem _ (takD_mem (c := c) (d := d) (k := j))
    simp only [lettersL, List.mem_cons, List.not_mem_nil, or_false] at this
    rcases this with h | h | h <;> rw [h] <;> decide
  refine ⟨by rw [linesOf_front hql]; exact Nat.le_trans hf (by decide), ?_⟩
  unfold linesOf at hql
  split at hql
  · simp only [List.mem_cons, List.not_mem_nil, or_false] at hql
    rcases hql with rfl | rfl | rfl
    · show (Str.ofString "").length ≤ 1000
      decide
    · exact Nat.le_trans ht (by decide)
    · show dashS.length ≤ 1000
      decide
  · rw [List.mem_singleton.mp hql]
    show (Str.ofString "").length ≤ 1000
    decide
end
noncomputable def rotSto (c : Nat → Int) (i : Nat) : Sto := [(Str.ofString "lines", .val (.list ((((rot c).take i).flatMap linesOf).map ruleD))), (Str.ofString "names", .val (rng 16 fun k => .str (nameS k))), (Str.ofString "table", .val (rng 16 fun k => .str (tb c k))), (Str.ofString "rules", .val (.list ((rulesTo c 5).map ruleTup))), (Str.ofString "first", .val (.int (fInt c)))]

section
variable {w : World} {h₁ : Heap} {mg mb : Str → Option Value} {B : Base w h₁ mg mb (K2 w.params) 76 72} {n : Nat} {σ : Sto} {c : Nat → Int}

theorem lines_turn {i : Nat} {r : Str × Str} (hr : (rot c)[i]? = some r) (hz : r.2.length ≤ 1000) :
    Ex (Y2 B) (n + 4) (nm2 w.params) ((Str.ofString "verdict", .val (.str r.2)) :: (Str.ofString "front", .val (.str r.1)) :: rotSto c i) (forBody 18 (law2 w.params)) .next (rotSto c (i + 1)) := by
  have hi := (List.getElem?_eq_some_iff.mp hr).1
  have hlen := rot_len (c := c)
  have htk : (rot c).take (i + 1) = (rot c).take i ++ [r] := by
    rw [List.take_add_one, hr]; rfl
  have hl := lines_len (rs := (rot c).take i)
  rw [List.length_take] at hl
  have hlr := linesOf_len (r := r)
  have e2 : (((rot c).take (i + 1)).flatMap linesOf).map ruleD = (((rot c).take i).flatMap linesOf).map ruleD ++ (linesOf r).map ruleD := by
    rw [htk, List.flatMap_append, List.map_append]
    simp
  refine Ex_post (Ex_cons (Ex1_assign (d := .list ((((rot c).take i).flatMap linesOf).map ruleD ++ (linesOf r).map ruleD)) (.inl rfl) (Ev_bin (Ev_name rfl rfl rfl) (Ev_comp_eq (ds := (linesOf r).map fun q => .str q.2) (fun d => some (.rule r.1 d)) ?_ rfl (compNm_of rfl) (EvIt_list rfl ?_) (fun _ _ => rfl) (fun d hd => ?_) ?_) (op_add_list ?_)) fun _ _ => rfl) Ex_nil) ?_
  · unfold linesOf ruleD
    split <;> rfl
  · unfold linesOf
    cases hv : ((r.2.length : Int) != 0) with
    | true =>
      exact Ev_if (b := true) (EvT_val (Ev_name rfl rfl rfl) (hv ▸ truth_str (by omega)) fun _ _ => rfl) (fun _ => Ev_list (EvArgs_cons Ev_str (EvArgs_cons (Ev_name rfl rfl rfl) (EvArgs_cons Ev_str EvArgs_nil fun _ => rfl) fun _ => rfl) fun _ => rfl) (by simp)) (fun h => by cases h)
    | false =>
      exact Ev_if (b := false) (EvT_val (Ev_name rfl rfl rfl) (hv ▸ truth_str (by omega)) fun _ _ => rfl) (fun h => by cases h) (fun _ => Ev_list (EvArgs_cons Ev_str EvArgs_nil fun _ => rfl) (by simp))
  · exact Item.mk (.name (.inl rfl)) (Ev_call rfl glo_rule rfl (.fn _ _ _ (top2 B (k2_77 _)) rfl) (fun _ => rfl) (EvArgs_cons (Ev_name rfl rfl rfl) (EvArgs_cons (Ev_name rfl rfl rfl) EvArgs_nil fun _ => rfl) fun _ => rfl) (rule2 _ _))
  · rw [List.length_map]; omega
  · rw [List.length_map, List.length_map]; omega
  · unfold rotSto
    rw [e2]
    exact Sub.cons rfl (Sub.cons rfl (Sub.cons rfl (Sub.cons rfl (Sub.cons rfl Sub.nil))))
end
end Mine
end

section
open PySem
set_option maxRecDepth 100000
set_option maxHeartbeats 1000000
namespace Mine
theorem ask_len : ∀ k : Fin 16, (nameS k.val).length + (Txt.mul (Str.ofString "/c") (((k.val : Nat) : Int).fmod 2)).length ≤ 100 := by decide +kernel
theorem mul_ok : ∀ k : Fin 16, MulOk (Str.ofString "/c") (((k.val : Nat) : Int).fmod 2) := by
  intro k
  have h : ((k.val : Nat) : Int).fmod 2 = 0 ∨ ((k.val : Nat) : Int).fmod 2 = 1 := by
    have h0 : 0 ≤ ((k.val : Nat) : Int).fmod 2 := Int.fmod_nonneg_of_pos _ (by decide)
    have h1 : ((k.val : Nat) : Int).fmod 2 < 2 := Int.fmod_lt_of_pos _ (by decide)
    omega
  rcases h with h | h <;> rw [h] <;> exact ⟨by decide, by decide, by decide⟩
section
variable {w : World} {h₁ : Heap} {mg mb : Str → Option Value} {B : Base w h₁ mg mb (K2 w.params) 76 72} {n : Nat} {σ : Sto} {c : Nat → Int}
noncomputable def toldD (c : Nat → Int) : D := .ent (.list [.str (Str.ofString "*")]) (.list (((rot c).flatMap linesOf).map ruleD)) .none .none

theorem ask_ev {k : Nat} (hk : k < 16) {nm : Nm} {p1 p2 p3 p4 p5 p6 p7 p8 p9 : Pos} {i j : Nat} (h1 : σ.lookup (Str.ofString "names") = some (.val (rng 16 fun k => .str (nameS k)))) (h2 : σ.lookup (Str.ofString "k") = some (.val (.int ((k : Nat) : Int)))) :
    Ev (Y2 B) n nm σ (.BinOp (.Subscript (.Name (Str.ofString "names") p1) (.Name (Str.ofString "k") p2) p3) .Add (.BinOp (.Constant (.str (Str.ofString "/c")) i p4) .Mult (.BinOp (.Name (Str.ofString "k") p5) .Mod (.Constant (.int 2) j p6) p7) p8) p9) (.str (askS k)) :=
  Ev_bin (Ev_sub (Ev_name h1 rfl rfl) (Ev_name h2 rfl rfl) (rng_item (f := fun k => .str (nameS k)) hk (by decide)) (fun _ _ => rfl) (.inl rfl)) (Ev_bin Ev_str (Ev_bin (Ev_name h2 rfl rfl) Ev_int (op_mod_int (by decide))) (op_mul_str (mul_ok ⟨k, hk⟩))) (op_add_str (Nat.le_trans (ask_len ⟨k, hk⟩) (by decide)))

theorem end_c : Ex (Y2 B) (n + 4) (nm2 w.params) (rotSto c (rot c).length) ((law2 w.params).drop 19) (.ret (.bool true)) [] := by
  have hsm := rot_small (c := c)
  have e : rotSto c (rot c).length = [(Str.ofString "lines", .val (.list (((rot c).flatMap linesOf).map ruleD))), (Str.ofString "names", .val (rng 16 fun k => .str (nameS k))), (Str.ofString "table", .val (rng 16 fun k => .str (tb c k))), (Str.ofString "rules", .val (.list ((rulesTo c 5).map ruleTup))), (Str.ofString "first", .val (.int (fInt c)))] := by
    unfold rotSto
    rw [List.take_of_length_le (Nat.le_refl _)]
  rw [e]
  refine Ex_post (σ₁ := [(Str.ofString "told", .val (toldD c)), (Str.ofString "names", .val (rng 16 fun k => .str (nameS k))), (Str.ofString "table", .val (rng 16 fun k => .str (tb c k)))]) ?_ Sub.nil
  refine Ex_cons (Ex1_post (σ' := [(Str.ofString "told", .val (toldD c)), (Str.ofString "names", .val (rng 16 fun k => .str (nameS k))), (Str.ofString "table", .val (rng 16 fun k => .str (tb c k)))]) (Ex1_assign (d := toldD c) (.inr rfl) (Ev_call rfl glo_rec rfl (.fn _ _ _ (top2 B (k2_70 _)) rfl) (fun _ => rfl) (EvArgs_cons (Ev_list (EvArgs_cons Ev_str EvArgs_nil fun _ => rfl) (by simp)) (EvArgs_cons (Ev_name rfl rfl rfl) (EvArgs_cons Ev_none (EvArgs_cons Ev_none EvArgs_nil fun _ => rfl) fun _ => rfl) fun _ => rfl) fun _ => rfl) (rec2 _ _ _ _)) fun _ _ => rfl)
    (Sub.cons rfl (Sub.cons rfl (Sub.cons rfl Sub.nil)))) ?_
  refine Ex_cons (Ex1_if (c := false) (EvT_cmp (Ev_ent_call ent2 (Ev_name (d := toldD c) rfl rfl rfl) (.inr ⟨rfl, rfl⟩) (top2 B (k2_49 _)) rfl (fun _ => rfl) (EvArgs_cons Ev_str EvArgs_nil fun _ => rfl) (allow2 hsm) (fun _ => rfl) (fun _ => rfl) rfl) (Ev_bool (b := true)) ?_ rfl) (fun h => by cases h) (fun _ => Ex_nil)) ?_
  · show Op2 _ _ _ (allowF (fun x => ruleAns x dashS) ((rot c).flatMap linesOf)) _ _
    rw [told_dash fun r => mem_rot]
    exact op_isNot_bool
  refine Ex_cons_ret (Ex1_ret (Ev_cmp (Ev_comp_eq (onInt fun k => some (.str (tb c k.toNat))) (ds := rangeD 0 1 16) (es := (List.range 16).map fun k => .str (tb c k)) rfl rfl (compNm_of rfl) (EvIt_range1 (m := 16) rfl glo_range rfl (fun _ => rfl) Ev_int rfl (by decide)) (fun _ _ => rfl) (fun d hd => ?_) (by decide)) (Ev_name rfl rfl rfl) (op_eq_list_same ?_ ?_) rfl))
  · obtain ⟨i, hi, rfl⟩ := mem_range0 hd
    have ht := told_name (c := c) hi fun r => mem_rot (c := c) (r := r)
    refine Item.mk (.name (.inl rfl)) ?_
    show Ev _ _ _ _ _ (.str (tb c i))
    rw [← ht]
    exact Ev_ent_call ent2 (Ev_name (d := toldD c) (kept_get rfl rfl) rfl rfl) (.inr ⟨rfl, rfl⟩) (top2 B (k2_49 _)) rfl (fun _ => rfl) (EvArgs_cons (ask_ev hi (kept_get rfl rfl) rfl) EvArgs_nil fun _ => rfl) (allow2 hsm) (fun _ => rfl) (fun _ => rfl) rfl
  · have := plain_strs (xs := (List.range 16).map (tb c))
    rw [List.map_map] at this
    exact this
  · have := deep_strs (xs := (List.range 16).map (tb c))
    rw [List.map_map] at this
    exact Nat.le_trans (Nat.le_of_eq this) (by decide)
end
end Mine
end

section
open PySem
set_option maxRecDepth 100000
set_option maxHeartbeats 1000000
namespace Mine
section
variable {w : World} {h₁ : Heap} {mg mb : Str → Option Value} {B : Base w h₁ mg mb (K2 w.params) 76 72} {n : Nat} {σ : Sto} {c : Nat → Int}
noncomputable def frzSto (c : Nat → Int) (scr : List Int) : Sto := (Str.ofString "rules", .val (.list ((rulesTo c 5).map ruleTup))) :: topSto c scr 4
theorem rl_len : (rulesTo c 5).length ≤ 32 := rulesTo_len
theorem len_rules (h : σ.lookup (Str.ofString "rules") = some (.val (.list ((rulesTo c 5).map ruleTup)))) {p q r : Pos} : Ev (Y2 B) n (nm2 w.params) σ (.Call (.Name (Str.ofString "len") p) [.Name (Str.ofString "rules") q] [] r) (.int (((rulesTo c 5).length : Nat) : Int)) := by
  have := call_len_l (Y := Y2 B) (n := n) (xs := (rulesTo c 5).map ruleTup) (by rw [List.length_map]; exact Nat.le_trans rl_len (by decide))
  rw [List.length_map] at this
  exact Ev_call rfl glo_len rfl (.builtin "len") (fun _ => rfl) (EvArgs_cons (Ev_name h rfl rfl) EvArgs_nil fun _ => rfl) this
theorem end_a {scr : List Int} {ss : List Stmt} {φ : Fl} {σ' : Sto} (h : Ex (Y2 B) (n + 4) (nm2 w.params) (frzSto c scr) ss φ σ') :
    Ex (Y2 B) (n + 4) (nm2 w.params) (outSto c scr 5) (((law2 w.params).take 16).drop 15 ++ ss) φ σ' := by
  refine Ex_freeze (x := Str.ofString "rules") rfl (Ex_pre (σ₀ := frzSto c scr) ?_ (Sub.cons rfl (Sub.cons rfl (Sub.cons rfl (Sub.cons rfl (Sub.cons rfl (Sub.cons rfl (Sub.cons rfl (Sub.cons rfl (Sub.cons rfl (Sub.cons rfl (Sub.cons rfl (Sub.cons rfl (Sub.nil))))))))))))))
  refine Ex_cons (Ex1_if (c := false) (EvT_cmp (Ev_list (ds := [.int (joinsTo c 4 + 1), .int (joinsTo c 4 + 1)]) (EvArgs_cons (Ev_bin (Ev_name rfl rfl rfl) Ev_int op_add_int) (EvArgs_cons ?_ EvArgs_nil fun _ => rfl) fun _ => rfl) (by simp))
    (Ev_bin (a := .list [.int (joinsTo c 4 + 1)]) (Ev_list (EvArgs_cons (Ev_bin ?_ Ev_int op_add_int) EvArgs_nil fun _ => rfl) (by simp)) Ev_int (op_mul_list (by decide) (by decide) (by simp) (by simp))) (op_ne_list_same rfl (by simp [deepAll, deep])) rfl) (fun h => by cases h) (fun _ => Ex_nil)) h
  · rw [← rules_joins]
    exact len_rules rfl
  · rw [← min_root]
    refine Ev_call rfl glo_min rfl (.builtin "min") (fun _ => rfl) (EvArgs_cons (Ev_sub (Ev_own_item (xs := lvls (fun i k => intsD (fewT c i k)) 4) rfl rfl rfl Ev_int (fun _ _ => rfl) (by decide) (by decide) (lvls_item (f := fun i k => intsD (fewT c i k)) (l := 4) (i := 4) (by decide))) (Ev_int (i := 0)) (rng_item (f := fun k => intsD (fewT c 4 k)) (m := 16 / 2 ^ 4) (k := 0) (by decide) (by decide)) (fun _ _ => rfl) (.inl rfl)) EvArgs_nil fun _ => rfl)
      (call_min_l (by intro h; have := fewT_len (c := c) (l := 4) (k := 0); rw [h] at this; cases this))
theorem end_b {scr : List Int} {ss : List Stmt} {φ : Fl} {σ' : Sto} (h : Ex (Y2 B) (n + 4) (nm2 w.params) (rotSto c (rot c).length) ss φ σ') :
    Ex (Y2 B) (n + 4) (nm2 w.params) (frzSto c scr) (((law2 w.params).take 19).drop 16 ++ ss) φ σ' := by
  refine Ex_cons (Ex1_assign (d := .int (fInt c)) (.inl rfl) (Ev_bin (Ev_bin (Ev_sub (Ev_name rfl rfl rfl) (Ev_int (i := 15)) (rng_item (f := fun k => .int (c k)) (k := 15) (by decide) (by decide)) (fun _ _ => rfl) (.inl rfl)) Ev_int (op_div_int (by decide) (by decide))) (len_rules rfl) (op_mod_int (by have := rules_pos (c := c); omega))) fun _ _ => rfl) ?_
  refine Ex_cons (Ex1_assign (d := .list []) (.inl rfl) (Ev_list EvArgs_nil (by simp)) fun _ _ => rfl) ?_
  have hz : ((rulesTo c 5).map ruleTup).length ≤ 100000 := by rw [List.length_map]; exact Nat.le_trans rl_len (by decide)
  have e1 := fun (τ : Sto) (hr : τ.lookup (Str.ofString "rules") = some (.val (.list ((rulesTo c 5).map ruleTup)))) (hf : τ.lookup (Str.ofString "first") = some (.val (.int (fInt c)))) p1 p2 p3 p4 => Ev_slice_list (Y := Y2 B) (n := n + 4) (nm := nm2 w.params) (sp := p3) (p := p4) (Ev_name (p := p1) hr rfl rfl) (EvPart_some (Ev_name (p := p2) hf rfl rfl)) EvPart_none EvPart_none (by decide) hz
  have e2 := fun (τ : Sto) (hr : τ.lookup (Str.ofString "rules") = some (.val (.list ((rulesTo c 5).map ruleTup)))) (hf : τ.lookup (Str.ofString "first") = some (.val (.int (fInt c)))) p1 p2 p3 p4 => Ev_slice_list (Y := Y2 B) (n := n + 4) (nm := nm2 w.params) (sp := p3) (p := p4) (Ev_name (p := p1) hr rfl rfl) EvPart_none (EvPart_some (Ev_name (p := p2) hf rfl rfl)) EvPart_none (by decide) hz
  have hsum : (lpick ((rulesTo c 5).map ruleTup) (some (fInt c)) none none).length + (lpick ((rulesTo c 5).map ruleTup) none (some (fInt c)) none).length ≤ 1000 := by
    rw [← List.length_append, rot_slices, List.length_map]
    exact Nat.le_trans rot_len (by decide)
  have e3 := fun τ hr hf p p1 p2 p3 p4 q1 q2 q3 q4 => Ev_bin (p := p) (e1 τ hr hf p1 p2 p3 p4) (e2 τ hr hf q1 q2 q3 q4) (op_add_list hsum)
  simp only [rot_slices] at e3
  refine Ex_pre (σ₀ := rotSto c 0) ?_ (Sub.cons rfl (Sub.cons rfl (Sub.cons rfl (Sub.cons rfl (Sub.cons rfl Sub.nil)))))
  refine Ex_cons (Ex1_for (EvIt_list rfl (e3 _ rfl rfl _ _ _ _ _ _ _ _ _)) (LoopEx.of (rotSto c) _ 0 fun j x hx => ?_) fun _ _ => rfl) ?_
  · rw [List.getElem?_map, Option.map_eq_some_iff] at hx
    obtain ⟨r, hr, rfl⟩ := hx
    refine ⟨_, .pair (.inr rfl) (.inl rfl), ?_⟩
    rw [Nat.zero_add]
    refine lines_turn hr ?_
    have := mem_rulesTo.mp (mem_rot.mp (List.mem_of_getElem? hr))
    obtain ⟨d, j, hd, hj, hin, rfl⟩ := this
    have := agT_mem _ (takD_mem (c := c) (d := d) (k := j))
    simp only [lettersL, List.mem_cons, List.not_mem_nil, or_false] at this
    show (takD c d j).length ≤ 1000
    rcases this with h | h | h <;> rw [h] <;> decide
  · rw [Nat.zero_add, List.length_map]
    exact h
end
end Mine
end

section
open PySem
set_option maxRecDepth 100000
set_option maxHeartbeats 1000000
namespace Mine
section
variable {w : World} {h₁ : Heap} {mg mb : Str → Option Value} {B : Base w h₁ mg mb (K2 w.params) 76 72} {n : Nat} {σ : Sto} {c : Nat → Int}
theorem ok_92 (P : Params) : FnOk (fdAt (K2 P) 92) [Str.ofString "script"] (bodyAt (K2 P) 92) :=
  ⟨rfl, rfl, rfl, rfl, rfl, rfl, nodup_of rfl, (by intro x hx; rw [List.mem_singleton.mp hx]; exact .inr rfl),
    fun vs h => by
      obtain ⟨a, rfl⟩ := one_of h
      rfl⟩
theorem law_body {scr : List Int} (hz : scr.length ≤ 1000) : Ex (Y2 B) (n + 4) (nm2 w.params) [(Str.ofString "script", .val (intsD scr))] (law2 w.params) (.ret (.bool true)) [] := by
  have e : law2 w.params = (law2 w.params).take 7 ++ (((law2 w.params).take 12).drop 7 ++ (stAt 12 (law2 w.params) :: (((law2 w.params).take 15).drop 13 ++ (((law2 w.params).take 16).drop 15 ++ (((law2 w.params).take 19).drop 16 ++ (law2 w.params).drop 19))))) := rfl
  have h0 : Ex (Y2 B) (n + 4) (nm2 w.params) [(Str.ofString "script", .val (intsD scr))] ((law2 w.params).take 7 ++ (((law2 w.params).take 12).drop 7 ++ (stAt 12 (law2 w.params) :: (((law2 w.params).take 15).drop 13 ++ (((law2 w.params).take 16).drop 15 ++ (((law2 w.params).take 19).drop 16 ++ (law2 w.params).drop 19)))))) (.ret (.bool true)) [] := by
    with_reducible refine start_a hz (start_b (Ex_cons (check_all ?_) (rules_st (end_a (end_b end_c)))))
    rfl
  with_reducible exact e ▸ h0
theorem law_call {scr : List Int} (hz : scr.length ≤ 1000) : CallD (Y2 B) (n + 5) (.ref 92) [intsD scr] (.bool true) := by
  refine CallD_fn (σ' := []) (top2 B (k2_92 _)) rfl (ok_92 _) (fun h k => rec_K B k (c := 91) rfl rfl rfl) rfl (noFree_of rfl) rfl ?_
  have hp : pushes ([Str.ofString "script"].zip [intsD scr]) [] = [(Str.ofString "script", .val (intsD scr))] := rfl
  rw [hp]
  with_reducible exact law_body hz
end
end Mine
end

section
open PySem PySem.W
set_option maxRecDepth 100000
set_option maxHeartbeats 1000000
namespace Mine

theorem wellAll_ints {Y : Law} {g : Gh} {P : Params} {h : Heap} : ∀ {xs : List Int} {vs : List Value}, Well P h (.int 0 0) (.int 0) → WellAll P h vs (ofPys (xs.map PyData.int)) → RepAll Y g (xs.map D.int) vs
  | [], vs, _, w => by
    cases w
    simp [RepAll]
  | x :: xs, vs, h0, w => by
    simp only [List.map_cons, ofPys] at w
    cases w with
    | cons w1 w2 =>
      rename_i v vs
      simp only [List.map_cons, RepAll]
      refine ⟨v, vs, rfl, ?_, wellAll_ints h0 w2⟩
      simp only [ofPy] at w1
      cases w1
      simp [Rep]
theorem well_list {P : Params} {h : Heap} {a : Addr} {xs : List Int} (w : Well P h (.ref a) (ofPy (PyData.list (xs.map PyData.int)))) : ∃ vs : List Value, h.get? a = some { cls := .type "list", data := .seq vs.toArray } ∧ WellAll P h vs (ofPys (xs.map PyData.int)) := by
  simp only [ofPy] at w
  cases w with
  | list e w => exact ⟨_, e, w⟩

theorem old_of {Y : Law} {s s' : Shared} (K : Kp Y s s') (hi : Y.tabInv s.heap) (hc : s.heap.TableAt Y.code Y.tab #[]) : OldK s.heap s'.heap := by
  have hk := keeps_le K
  obtain ⟨ps, e, _⟩ := keeps_inv K hi
  refine ⟨fun b o eb => ?_, fun b o eb => ?_⟩
  · by_cases hb : b = Y.tab
    · subst hb
      have eo : o = { cls := .none, data := .fields #[] } := Option.some.inj (eb.symm.trans hc.2)
      subst eo
      refine .inr (.inl ⟨hc.isCodeTable, rfl, #[], ps, rfl, ?_⟩)
      rw [e]
      show some (W.tabObj ps) = some _
      congr 1
      show ({ cls := .none, data := .fields ps } : Obj) = { cls := .none, data := .fields (#[] ++ ps) }
      rw [Array.empty_append]
    · left
      have := hk b o (by rw [see_ne hb]; exact eb)
      rwa [see_ne hb] at this
  · by_cases hb : b = Y.tab
    · subst hb; exact ⟨_, e⟩
    · have := hk b o (by rw [see_ne hb]; exact eb)
      rw [see_ne hb] at this
      exact ⟨_, this⟩

theorem finish2 {w : World} {s₁ : Shared} {mg mb : Str → Option Value} (B : Base w s₁.heap mg mb (K2 w.params) 76 72) {a fa : Addr} {xs : List Int} (cl : Str → Option Addr) (mean : ExcName → Option Value)
    (hg : s₁.gens = #[]) (hmg : mg (Str.ofString "law") = some (.ref fa)) (hw : Well w.params s₁.heap (.ref a) (ofPy (PyData.list (xs.map PyData.int)))) (hlen : ¬ ((63 : Int) < (xs.length : Int))) :
    wpAny (model PySem.Challenge.rw_wy0068_02.row.prog w) callerA (call (.ref fa) [.ref a]) (fun v s' => GoodWG PySem.Challenge.rw_wy0068_02.row.claim cl mean [ofPy (PyData.list (xs.map PyData.int))] s₁ (.ok (.ret v)) s')
      (fun e s' => GoodWG PySem.Challenge.rw_wy0068_02.row.claim cl mean [ofPy (PyData.list (xs.map PyData.int))] s₁ (.error e) s') s₁ := by
  have hfa : fa = 92 := by
    have h1 : mg (Str.ofString "law") = some (.ref 92) := by rw [mg2 B]; rfl
    rw [h1] at hmg
    cases hmg
    rfl
  subst hfa
  obtain ⟨vs, ea, hv⟩ := well_list hw
  have hne : a ≠ 72 := fun h => by
    have := B.tab0
    rw [← h, ea] at this
    cases this
  have htop : TopOk (Y2 B) (Y2 B).top s₁.heap := ⟨Le.rfl, #[], B.tab0, trivial, fun q hq cv hc => by cases hc⟩
  have hle : Le (Y2 B).top ((Y2 B).see s₁.heap) := fun b o e => by
    have hb : b ≠ 72 := fun h => by
      have : topOf s₁.heap 72 b = some o := e
      rw [h] at this
      simp [topOf] at this
    have : topOf s₁.heap 72 b = some o := e
    rw [topOf_ne hb] at this
    rw [see_ne hb]; exact this
  have hrep : RepAll (Y2 B) (Y2 B).top [intsD xs] [.ref a] := by
    simp only [RepAll]
    refine ⟨_, [], rfl, ?_, rfl⟩
    unfold intsD
    simp only [Rep]
    refine ⟨a, vs.toArray, rfl, ⟨0, ?_⟩, ?_⟩
    · show topOf s₁.heap 72 a = _
      rw [topOf_ne hne]; exact ea
    · exact wellAll_ints (.int 0 0) (by simpa using hv)
  have hA : AOk 5 callerA := ⟨rfl, by decide, by decide, rfl⟩
  have hcall := law_call (B := B) (n := 0) (scr := xs) (by omega) callerA (Y2 B).top s₁ [.ref a] hA htop hle hrep
  refine wpAny_mono hcall (fun v s' hp => ?_) fun _ _ x => x.elim
  obtain ⟨K, r⟩ := hp
  simp only [Rep] at r
  subst r
  have ho := old_of K htop.2 (B.tabs.tab B.tab0)
  obtain ⟨h', tk, rfl, _⟩ := K
  refine ⟨.inl ⟨.bool true, .bool true, [], rfl, fun _ => rfl, .bool _, ?_, fun _ => ⟨List.nodup_nil, fun _ h => nomatch h⟩⟩, ho, rfl, .of_eq hg⟩
  show WTm.holds _ (.eq .res (.lit (.bool true))) _ = true
  unfold WTm.holds
  have hs : same (WData.bool true) (WData.bool true) = true := by decide +kernel
  simp [WTm.value, hs]
end Mine
end

section
open PySem PySem.W PyProof.Rows
set_option maxRecDepth 100000
set_option maxHeartbeats 8000000
namespace Mine
theorem fin_wy0068_02 : PySem.Challenge.rw_wy0068_02.Holds := Mine.hd (by
  k_fill
  intro w s₀ s₁ mg mb G Y fa o pm cd doc dV kV ho hd hcd hD hmg hg args vals as hpre hlay hrd hwl hlo
  have KX := km_in_of Y
  km_tabs Y
  have X := (Ground.X G).1
  have V := (Ground.X G).2
  refine Ground.open G ?_
  intro T B D TE TW
  try (refine guard_noD D (by decide +kernel) ?_; clear D)
  km_lay T hmg ho hd cd
  clear hd hcd hD
  wrow_args hpre hlay hrd hwl hlo
  rename Well _ _ _ _ => w1
  rename (¬ (_ : Int) < _) => hlen
  have hB : Mine.Base w s₁.heap mg mb (Mine.K2 w.params) 76 72 := ⟨KX, Mine.k2_tab _, (hT9 (76, 72) (by simp)).1, (hT9 (76, 72) (by simp)).2, T.g, T.b, T.nolimit, T.builtins, T.bmain⟩
  exact Mine.finish2 hB _ _ hg hmg w1 hlen)
end Mine
end

theorem PySem.Challenge.cw_wy0068_02_holds : PySem.Challenge.rw_wy0068_02.Holds :=
  Mine.fin_wy0068_02

